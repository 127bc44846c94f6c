import PyProof.Rows.All
import Wide.All
import OpenK.AllK
import Wide.FinOn
import Lean
import PySem.Challenge.RW_jg0001_01
set_option linter.all false
set_option Elab.async false
set_option maxRecDepth 100000
set_option genSizeOf false
open PySem PySem.W PyProof.Rows PySem.Calls
namespace Mine
def tcN (k : Lean.Name) (a : Array Lean.Syntax) : Lean.Syntax := .node .none k a
def tcQ (a : Array Lean.Syntax) : Lean.Syntax := tcN `Lean.Parser.Tactic.tacticSeq #[tcN `Lean.Parser.Tactic.tacticSeq1Indented #[tcN `null a]]
def tcO (k : Lean.Name) (s : String) : Lean.Syntax := tcN k #[.atom .none s]
def tcR := tcQ #[tcO `Lean.Parser.Tactic.tacticRfl "rfl"]
def tcD := tcQ #[tcN `Lean.Parser.Tactic.decide #[.atom .none "decide", tcN `Lean.Parser.Tactic.optConfig #[tcN `null #[]]]]
def tcA := tcQ #[tcN `Lean.Parser.Tactic.withReducible #[.atom .none "with_reducible", tcQ #[tcO `Lean.Parser.Tactic.assumption "assumption"]]]
theorem iz {α : Sort u} {β : Sort v} {P : α → β → Prop} (a : α) (b : β) (h : P a b) : P a b := h
theorem Z1 {a b c : Nat} (h : autoParam (a ≤ b) tcA) (k : autoParam (Nat.ble (b) (c) = true) tcR) : a ≤ c := Nat.le_trans h (Nat.le_of_ble_eq_true k)
theorem Z2 {a b c : Nat} (h : autoParam (a ≤ b) tcA) (k : autoParam (Nat.ble (b+1) (c) = true) tcR) : a < c := Nat.lt_of_le_of_lt h (Nat.le_of_ble_eq_true k)
theorem Z5 {b c : Nat} (k : autoParam (Nat.ble (b) (c) = true) tcR) : b ≤ c := Nat.le_of_ble_eq_true k
theorem Z7 {a b c : Nat} (h : autoParam (b ≤ a) tcA) (k : autoParam (Nat.ble (c) (b) = true) tcR) : c ≤ a := Nat.le_trans (Nat.le_of_ble_eq_true k) h
theorem Z9 {a b c : Nat} (h : autoParam (b < a) tcA) (k : autoParam (Nat.ble (c) (b+1) = true) tcR) : c ≤ a := Nat.le_trans (Nat.le_of_ble_eq_true k) h
theorem Z11 {a b c : Nat} (h : autoParam (a ≤ b) tcA) (g : autoParam (b ≤ c) tcA) : a ≤ c := Nat.le_trans h g
theorem Z12 {a b c : Nat} (h : autoParam (a < b) tcA) (g : autoParam (b ≤ c) tcA) : a < c := Nat.lt_of_lt_of_le h g
theorem Z13 {a b c : Nat} (h : autoParam (a ≤ b) tcA) (g : autoParam (b < c) tcA) : a < c := Nat.lt_of_le_of_lt h g
theorem Z14 {a b c : Nat} (h : autoParam (a < b) tcA) (g : autoParam (b < c) tcA) : a < c := Nat.lt_trans h g
theorem Z17 {a b c d : Nat} (h : autoParam (a ≤ b) tcA) (g : autoParam (b ≤ c) tcA) (k : autoParam (Nat.ble (c) (d) = true) tcR) : a ≤ d := Nat.le_trans h (Nat.le_trans g (Nat.le_of_ble_eq_true k))
theorem Z18 {a b c d : Nat} (h : autoParam (a ≤ b) tcA) (g : autoParam (b ≤ c) tcA) (k : autoParam (Nat.ble (c+1) (d) = true) tcR) : a < d := Nat.lt_of_le_of_lt h (Nat.lt_of_le_of_lt g (Nat.le_of_ble_eq_true k))
theorem Z19 {a b c d : Nat} (h : autoParam (a = b) tcA) (g : autoParam (b ≤ c) tcA) (k : autoParam (Nat.ble (c) (d) = true) tcR) : a ≤ d := Nat.le_trans (Nat.le_of_eq h) (Nat.le_trans g (Nat.le_of_ble_eq_true k))
theorem Z21 {a b : Nat} (h : autoParam (a ≤ b) tcA) : a ≤ b + 1 := Nat.le_succ_of_le h
theorem Z22 {a : Nat}  : a ≤ a + 1 := Nat.le_succ a
theorem Z23 {a : Nat}  : a ≤ a + 1 + 1 := Nat.le_add_right a 2
theorem Z24 {a : Nat}  : a < a + 1 := Nat.lt_succ_self a
theorem Z25 {a b : Nat} (h : autoParam (a < b) tcA) : a < b + 1 := Nat.lt_succ_of_lt h
theorem Z26 {a b : Nat} (h : autoParam (a < b) tcA) : a ≤ b := Nat.le_of_lt h
theorem Z27 {a b : Nat} (h : autoParam (a ≤ b) tcA) : a < b + 1 := Nat.lt_succ_of_le h
theorem Z28 {a b : Nat} (h : autoParam (a < b + 1) tcA) : a ≤ b := Nat.le_of_lt_succ h
theorem Z29 {a b : Nat} (h : autoParam (a < b) tcA) : a + 1 ≤ b := h
theorem Z30 {d : Nat}  : 1 + (d : Int) = ((d + 1 : Nat) : Int) := Int.add_comm 1 d
theorem Z31 {d : Nat}  : 0 + (d : Int) = (d : Int) := Int.zero_add _
theorem Z32 {d : Nat}  : ((d + 1 : Nat) : Int) - 1 = (d : Int) := Int.add_sub_cancel (d : Int) 1
theorem Z33 {i : Nat} {z : Int} (k : autoParam (z ≤ 0) tcD) : z ≤ (i : Int) := Int.le_trans k (Int.natCast_nonneg i)
theorem Z34 {a b : Nat} (h : autoParam ((a : Int) = b) tcA) : a = b := Int.ofNat.inj h
theorem Z35 {a b : Nat} (h : autoParam (a = b) tcA) : (a : Int) = b := congrArg _ h
theorem Z36 {a b : Nat} (h : autoParam (a < b) tcA) : (a : Int) < b := Int.ofNat_lt.mpr h
theorem Z37 {a b : Nat} (h : autoParam (a ≤ b) tcA) : (a : Int) ≤ b := Int.ofNat_le.mpr h
theorem Z38 {a b : Nat} (h : autoParam ((a : Int) < b) tcA) : a < b := Int.ofNat_lt.mp h
theorem Z40 {i n : Nat} {z : Int} (h : autoParam (i ≤ n) tcA) (k : autoParam ((n : Int) ≤ z) tcD) : (i : Int) ≤ z := Int.le_trans (Int.ofNat_le.mpr h) k
theorem Z41 {i n : Nat} {z : Int} (h : autoParam (i ≤ n) tcA) (k : autoParam ((n : Int) < z) tcD) : (i : Int) < z := Int.lt_of_le_of_lt (Int.ofNat_le.mpr h) k
theorem Z42 {i l n : Nat} {z : Int} (h : autoParam (i < l) tcA) (g : autoParam (l ≤ n) tcA) (k : autoParam ((n : Int) ≤ z) tcD) : (i : Int) < z := Int.lt_of_lt_of_le (Int.ofNat_lt.mpr (Nat.lt_of_lt_of_le h g)) k
theorem Z50 {x a b : Int} (h : autoParam (x ≤ a) tcA) (k : autoParam (a ≤ b) tcD) : x ≤ b := Int.le_trans h k
theorem Z51 {x a b : Int} (h : autoParam (x ≤ a) tcA) (k : autoParam (a < b) tcD) : x < b := Int.lt_of_le_of_lt h k
theorem Z52 {x a b : Int} (h : autoParam (x < a) tcA) (k : autoParam (a ≤ b) tcD) : x < b := Int.lt_of_lt_of_le h k
theorem Z53 {x a b : Int} (h : autoParam (x < a) tcA) (k : autoParam (a ≤ b) tcD) : x ≤ b := Int.le_of_lt (Int.lt_of_lt_of_le h k)
theorem Z54 {x a b : Int} (h : autoParam (a ≤ x) tcA) (k : autoParam (b ≤ a) tcD) : b ≤ x := Int.le_trans k h
theorem Z55 {x a b : Int} (h : autoParam (a < x) tcA) (k : autoParam (b ≤ a) tcD) : b ≤ x := Int.le_of_lt (Int.lt_of_le_of_lt k h)
theorem Z58 {a x : Int} (h : autoParam (a < x) tcA) : a ≤ x := Int.le_of_lt h
theorem Z59 {a b : Int} (k : autoParam (a ≤ b) tcD) : a ≤ b := k
theorem Z60 {a b c d : Int} (k : autoParam (a ≤ b) tcD) (l : autoParam (c ≤ d) tcD) : a ≤ b ∧ c ≤ d := ⟨k, l⟩
theorem Z61 {n c : Nat} {a b : Int} (h : autoParam (n ≤ c) tcA) (k : autoParam (a ≤ 0) tcD) (l : autoParam ((c : Int) ≤ b) tcD) : a ≤ (n : Int) ∧ (n : Int) ≤ b := ⟨Z33 k, Z40 h l⟩
theorem Z62 {x a b c d : Int} (h : autoParam (a ≤ x) tcA) (g : autoParam (x ≤ b) tcA) (k : autoParam (c ≤ a) tcD) (l : autoParam (b ≤ d) tcD) : c ≤ x ∧ x ≤ d := ⟨Int.le_trans k h, Int.le_trans g l⟩
theorem Z64 {x c : Int} {n : Nat} (h : autoParam (x ≤ c) tcA) (k : autoParam (c ≤ (n : Int)) tcD) : x.toNat ≤ n := Int.toNat_le.mpr (Int.le_trans h k)
theorem Z65 {x c : Int} {n : Nat} (h : autoParam (x < c) tcA) (g : autoParam (0 ≤ x) tcA) (k : autoParam (c ≤ (n : Int)) tcD) : x.toNat < n := (Int.toNat_lt g).mpr (Int.lt_of_lt_of_le h k)
theorem Z66 {x : Int} (h : autoParam (0 ≤ x) tcA) : x = ((x.toNat : Nat) : Int) := (Int.toNat_of_nonneg h).symm
theorem Z67 {a b c d : Nat} (h : autoParam (a ≤ c) tcA) (k : autoParam (Nat.ble (c) (d) = true) tcR) : min b a ≤ d := Nat.le_trans (Nat.min_le_right b a) (Z1 h k)
theorem Z68 {a b c d : Nat} (h : autoParam (a ≤ c) tcA) (k : autoParam (Nat.ble (c) (d) = true) tcR) : min a b ≤ d := Nat.le_trans (Nat.min_le_left a b) (Z1 h k)
theorem Z69 {a b : Nat}  : min a b ≤ b := Nat.min_le_right a b
theorem Z70 {p : Nat} (h : autoParam (p < 4) tcA) : p = 0 ∨ p = 1 ∨ p = 2 ∨ p = 3 := (by decide : ∀ p < 4, p = 0 ∨ p = 1 ∨ p = 2 ∨ p = 3) p h
theorem Z71 {p : Nat} (h : autoParam (p < 6) tcA) : p = 0 ∨ p = 1 ∨ p = 2 ∨ p = 3 ∨ p = 4 ∨ p = 5 := (by decide : ∀ p < 6, p = 0 ∨ p = 1 ∨ p = 2 ∨ p = 3 ∨ p = 4 ∨ p = 5) p h
theorem Z72 {p : Nat} (h : autoParam (p < 7) tcA) : p = 0 ∨ p = 1 ∨ p = 2 ∨ p = 3 ∨ p = 4 ∨ p = 5 ∨ p = 6 := (by decide : ∀ p < 7, p = 0 ∨ p = 1 ∨ p = 2 ∨ p = 3 ∨ p = 4 ∨ p = 5 ∨ p = 6) p h
theorem Z73 {p : Nat} (h : autoParam (p ≤ 4) tcA) : p = 0 ∨ p = 1 ∨ p = 2 ∨ p = 3 ∨ p = 4 := (by decide : ∀ p < 5, p = 0 ∨ p = 1 ∨ p = 2 ∨ p = 3 ∨ p = 4) p (Nat.lt_succ_of_le h)
theorem Z74 {m : Int} (h : autoParam (0 ≤ m) tcA) (g : autoParam (m < 4) tcA) : m = 0 ∨ m = 1 ∨ m = 2 ∨ m = 3 := match m, h, g with | .ofNat n, _, g => (by decide : ∀ p : Nat, p < 4 → (p : Int) = 0 ∨ (p : Int) = 1 ∨ (p : Int) = 2 ∨ (p : Int) = 3) n (Int.ofNat_lt.mp g)
theorem Z75 {m : Int} (h : autoParam (0 ≤ m) tcA) (g : autoParam (m < 3) tcA) : m = 0 ∨ m = 1 ∨ m = 2 := match m, h, g with | .ofNat n, _, g => (by decide : ∀ p : Nat, p < 3 → (p : Int) = 0 ∨ (p : Int) = 1 ∨ (p : Int) = 2) n (Int.ofNat_lt.mp g)
theorem Z82 {a b : Nat} (h : autoParam (¬ a < b) tcA) : b ≤ a := Nat.not_lt.mp h
theorem Z84 {i m l : Nat} (h : autoParam (i + (m + 1) = l) tcA) : l - (m + 1) = i := h ▸ Nat.add_sub_cancel i (m + 1)
theorem Z85 {i m l : Nat} (h : autoParam (i + (m + 1) = l) tcA) : i + 1 + m = l := (Nat.add_right_comm i 1 m).trans h
theorem Z87 {i n l : Nat} (h : autoParam (l - i = n + 1) tcA) : l - (i + 1) = n := congrArg Nat.pred h
theorem Z88 {i l : Nat} (h : autoParam (l - i = 0) tcA) (g : autoParam (i ≤ l) tcA) : i = l := Nat.le_antisymm g (Nat.le_of_sub_eq_zero h)
theorem Z89 {i n l : Nat} (h : autoParam (l - i = n + 1) tcA) : i < l := Nat.lt_of_sub_eq_succ h
theorem Z91 {x a b : Int} (h : autoParam (x < a) tcA) (g : autoParam (a ≤ b) tcA) : x < b := Int.lt_of_lt_of_le h g
theorem Z93 {i j : Nat} (h : autoParam (j < i + 1) tcA) (g : autoParam (i ≤ j) tcA) : j = i := Nat.le_antisymm (Nat.le_of_lt_succ h) g
theorem Z94 {i j : Nat} (h : autoParam (j ≤ i) tcA) (g : autoParam (i ≤ j) tcA) : j = i := Nat.le_antisymm h g
theorem Z95 {d n c e : Nat} (h : autoParam (d < n - 1) tcA) (g : autoParam (n ≤ c) tcA) (k : autoParam (Nat.ble (c) (e+1) = true) tcR) : d < e := Nat.lt_of_lt_of_le h (Nat.sub_le_sub_right (Z1 g k) 1)
theorem Z97 {a b c : Nat} (h : autoParam (a = b) tcA) (g : autoParam (c < b) tcA) : c < a := Nat.lt_of_lt_of_eq g h.symm
theorem Z98 {a b c : Nat} (h : autoParam (a = b) tcA) (g : autoParam (c < a) tcA) : c < b := Nat.lt_of_lt_of_eq g h
theorem Z99 {a b : Nat} (h : autoParam (a = b) tcA) : a ≤ b := Nat.le_of_eq h
theorem pZ {a b : Nat} (h : autoParam (a = b) tcA) : b ≤ a := Nat.le_of_eq h.symm
theorem qA {x : Int} (h : autoParam (0 < x) tcA) : 1 ≤ x := h
theorem iT {x : Int} (h : autoParam (0 < x) tcA) : x ≠ 0 := Int.ne_of_gt h
theorem uM {a : Nat} (h : autoParam (0 < a) tcA) : a ≠ 0 := Nat.ne_of_gt h
theorem tT {a b : Nat} (h : autoParam (a < b) tcA) : a + 1 < b + 1 := Nat.succ_lt_succ h
theorem t9 {a b c : Int} (h : autoParam (a ≤ c) tcA) : a + b ≤ c + b := Int.add_le_add_right h b
theorem tU {a b : Nat} (h : autoParam (b ≤ a) tcA) : ¬ a < b := Nat.not_lt.mpr h
theorem uB {i l : Nat} (h : autoParam (i < l) tcA) : 0 < (l : Int) - i := Int.sub_pos_of_lt (Int.ofNat_lt.mpr h)
theorem tI {n : Nat} (h : autoParam (1 ≤ n) tcA) : ((n : Int) - 1).toNat = n - 1 := congrArg Int.toNat (Int.ofNat_sub h).symm
theorem tV {i m l : Nat} (h : autoParam (l - i = m + 1) tcA) (g : autoParam (i < l) tcA) : l - (m + 1) = i := h ▸ Nat.sub_sub_self (Nat.le_of_lt g)
theorem k8 {i n l : Nat} (e : autoParam (n = l - i) tcA) (h : autoParam (i < l) tcA) : l - (i + 1) < n := e ▸ Nat.sub_lt_sub_left h (Nat.lt_succ_self i)
theorem uc {i l : Nat} (h : autoParam (i < l) tcA) : l - i = l - i - 1 + 1 := (Nat.sub_add_cancel (Nat.sub_pos_of_lt h)).symm
theorem tY {w a b : Nat} (h : autoParam (w = (a + b) * 2) tcA) (g : autoParam (a ≤ 4) tcA) (k : autoParam (b ≤ 4) tcA) : w ≤ 16 := h ▸ Nat.mul_le_mul_right 2 (Nat.add_le_add g k)
theorem sj {a b : Nat} (h : autoParam (b < a) tcA) : min (a : Int) b = min (b : Int) b := by rw [Int.min_eq_right (Int.ofNat_le.mpr (Nat.le_of_lt h)), Int.min_self]
theorem uO {y l : Nat} (h : autoParam (y = l + 1) tcA) : ((-1 : Int) + y).toNat = l := by rw [h, Int.add_comm]; exact Int.toNat_sub (l + 1) 1
theorem uX {y : Nat}  : ((y : Int) - 1).toNat = y - 1 := Int.toNat_sub y 1
theorem tP {l s i r : Nat} (h : autoParam (s ≤ l) tcA) : ((l : Int) - s + i + 1 - r).toNat = l - s + i + 1 - r := by rw [← Int.ofNat_sub h]; exact Int.toNat_sub (l - s + i + 1) r
theorem q6 {x m : Nat} (h : autoParam (m < x) tcA) : x = x - 1 + 1 := (Nat.sub_add_cancel (Nat.lt_of_le_of_lt (Nat.zero_le m) h)).symm
theorem ue {x : Int} (h : autoParam (0 < x) tcA) : ((x.toNat - 1 + 1 : Nat) : Int) = x := by rw [Nat.sub_add_cancel (Int.lt_toNat.mpr h)]; exact Int.toNat_of_nonneg (Int.le_of_lt h)
theorem bx {A B C : Prop} {P : Prop} (h : A ∧ B ∧ C) (k : A → B → C → P) : P := k h.1 h.2.1 h.2.2
theorem bY {A B C D : Prop} {P : Prop} (h : A ∧ B ∧ C ∧ D) (k : A → B → C → D → P) : P := k h.1 h.2.1 h.2.2.1 h.2.2.2
theorem iV {A B C D E : Prop} {P : Prop} (h : A ∧ B ∧ C ∧ D ∧ E) (k : A → B → C → D → E → P) : P := k h.1 h.2.1 h.2.2.1 h.2.2.2.1 h.2.2.2.2
theorem rp {A B C D E F : Prop} {P : Prop} (h : A ∧ B ∧ C ∧ D ∧ E ∧ F) (k : A → B → C → D → E → F → P) : P := k h.1 h.2.1 h.2.2.1 h.2.2.2.1 h.2.2.2.2.1 h.2.2.2.2.2
theorem ag {α0 : Sort u0} {A B : α0 → Prop} {P : Prop} (h : ∃ x0, A x0 ∧ B x0) (k : ∀ x0, A x0 → B x0 → P) : P := h.elim fun x0 h => k x0 h.1 h.2
theorem cx {α0 : Sort u0} {A B C : α0 → Prop} {P : Prop} (h : ∃ x0, A x0 ∧ B x0 ∧ C x0) (k : ∀ x0, A x0 → B x0 → C x0 → P) : P := h.elim fun x0 h => k x0 h.1 h.2.1 h.2.2
theorem oX {α0 : Sort u0} {A B C D : α0 → Prop} {P : Prop} (h : ∃ x0, A x0 ∧ B x0 ∧ C x0 ∧ D x0) (k : ∀ x0, A x0 → B x0 → C x0 → D x0 → P) : P := h.elim fun x0 h => k x0 h.1 h.2.1 h.2.2.1 h.2.2.2
theorem gu {α0 : Sort u0} {A B C D E : α0 → Prop} {P : Prop} (h : ∃ x0, A x0 ∧ B x0 ∧ C x0 ∧ D x0 ∧ E x0) (k : ∀ x0, A x0 → B x0 → C x0 → D x0 → E x0 → P) : P := h.elim fun x0 h => k x0 h.1 h.2.1 h.2.2.1 h.2.2.2.1 h.2.2.2.2
theorem kT {α0 : Sort u0} {α1 : Sort u1} {A : α0 → α1 → Prop} {P : Prop} (h : ∃ x0 x1, A x0 x1) (k : ∀ x0 x1, A x0 x1 → P) : P := h.elim fun x0 h => h.elim fun x1 h => k x0 x1 h
theorem ez {α0 : Sort u0} {α1 : Sort u1} {A B : α0 → α1 → Prop} {P : Prop} (h : ∃ x0 x1, A x0 x1 ∧ B x0 x1) (k : ∀ x0 x1, A x0 x1 → B x0 x1 → P) : P := h.elim fun x0 h => h.elim fun x1 h => k x0 x1 h.1 h.2
theorem n8 {α0 : Sort u0} {α1 : Sort u1} {A B C : α0 → α1 → Prop} {P : Prop} (h : ∃ x0 x1, A x0 x1 ∧ B x0 x1 ∧ C x0 x1) (k : ∀ x0 x1, A x0 x1 → B x0 x1 → C x0 x1 → P) : P := h.elim fun x0 h => h.elim fun x1 h => k x0 x1 h.1 h.2.1 h.2.2
theorem gK {α0 : Sort u0} {α1 : Sort u1} {A B C D : α0 → α1 → Prop} {P : Prop} (h : ∃ x0 x1, A x0 x1 ∧ B x0 x1 ∧ C x0 x1 ∧ D x0 x1) (k : ∀ x0 x1, A x0 x1 → B x0 x1 → C x0 x1 → D x0 x1 → P) : P := h.elim fun x0 h => h.elim fun x1 h => k x0 x1 h.1 h.2.1 h.2.2.1 h.2.2.2
theorem o7 {α0 : Sort u0} {α1 : Sort u1} {A B C D E : α0 → α1 → Prop} {P : Prop} (h : ∃ x0 x1, A x0 x1 ∧ B x0 x1 ∧ C x0 x1 ∧ D x0 x1 ∧ E x0 x1) (k : ∀ x0 x1, A x0 x1 → B x0 x1 → C x0 x1 → D x0 x1 → E x0 x1 → P) : P := h.elim fun x0 h => h.elim fun x1 h => k x0 x1 h.1 h.2.1 h.2.2.1 h.2.2.2.1 h.2.2.2.2
theorem uV {α0 : Sort u0} {α1 : Sort u1} {α2 : Sort u2} {A : α0 → α1 → α2 → Prop} {P : Prop} (h : ∃ x0 x1 x2, A x0 x1 x2) (k : ∀ x0 x1 x2, A x0 x1 x2 → P) : P := h.elim fun x0 h => h.elim fun x1 h => h.elim fun x2 h => k x0 x1 x2 h
theorem uQ {α0 : Sort u0} {α1 : Sort u1} {α2 : Sort u2} {A B : α0 → α1 → α2 → Prop} {P : Prop} (h : ∃ x0 x1 x2, A x0 x1 x2 ∧ B x0 x1 x2) (k : ∀ x0 x1 x2, A x0 x1 x2 → B x0 x1 x2 → P) : P := h.elim fun x0 h => h.elim fun x1 h => h.elim fun x2 h => k x0 x1 x2 h.1 h.2
theorem pK {α0 : Sort u0} {α1 : Sort u1} {α2 : Sort u2} {α3 : Sort u3} {A B C D E F : α0 → α1 → α2 → α3 → Prop} {P : Prop} (h : ∃ x0 x1 x2 x3, A x0 x1 x2 x3 ∧ B x0 x1 x2 x3 ∧ C x0 x1 x2 x3 ∧ D x0 x1 x2 x3 ∧ E x0 x1 x2 x3 ∧ F x0 x1 x2 x3) (k : ∀ x0 x1 x2 x3, A x0 x1 x2 x3 → B x0 x1 x2 x3 → C x0 x1 x2 x3 → D x0 x1 x2 x3 → E x0 x1 x2 x3 → F x0 x1 x2 x3 → P) : P := h.elim fun x0 h => h.elim fun x1 h => h.elim fun x2 h => h.elim fun x3 h => k x0 x1 x2 x3 h.1 h.2.1 h.2.2.1 h.2.2.2.1 h.2.2.2.2.1 h.2.2.2.2.2
theorem M1 {α : Type u} {a0 a1 : α} {l : List α} : a1 ∈ a0 :: a1 :: l := .tail _ (.head _)
theorem M2 {α : Type u} {a0 a1 a2 : α} {l : List α} : a2 ∈ a0 :: a1 :: a2 :: l := .tail _ M1
theorem M3 {α : Type u} {a0 a1 a2 a3 : α} {l : List α} : a3 ∈ a0 :: a1 :: a2 :: a3 :: l := .tail _ M2
theorem M4 {α : Type u} {a0 a1 a2 a3 a4 : α} {l : List α} : a4 ∈ a0 :: a1 :: a2 :: a3 :: a4 :: l := .tail _ M3
theorem M5 {α : Type u} {a0 a1 a2 a3 a4 a5 : α} {l : List α} : a5 ∈ a0 :: a1 :: a2 :: a3 :: a4 :: a5 :: l := .tail _ M4
theorem M6 {α : Type u} {a0 a1 a2 a3 a4 a5 a6 : α} {l : List α} : a6 ∈ a0 :: a1 :: a2 :: a3 :: a4 :: a5 :: a6 :: l := .tail _ M5
theorem M7 {α : Type u} {a0 a1 a2 a3 a4 a5 a6 a7 : α} {l : List α} : a7 ∈ a0 :: a1 :: a2 :: a3 :: a4 :: a5 :: a6 :: a7 :: l := .tail _ M6
theorem M8 {α : Type u} {a0 a1 a2 a3 a4 a5 a6 a7 a8 : α} {l : List α} : a8 ∈ a0 :: a1 :: a2 :: a3 :: a4 :: a5 :: a6 :: a7 :: a8 :: l := .tail _ M7
theorem M9 {α : Type u} {a0 a1 a2 a3 a4 a5 a6 a7 a8 a9 : α} {l : List α} : a9 ∈ a0 :: a1 :: a2 :: a3 :: a4 :: a5 :: a6 :: a7 :: a8 :: a9 :: l := .tail _ M8
theorem M10 {α : Type u} {a0 a1 a2 a3 a4 a5 a6 a7 a8 a9 a10 : α} {l : List α} : a10 ∈ a0 :: a1 :: a2 :: a3 :: a4 :: a5 :: a6 :: a7 :: a8 :: a9 :: a10 :: l := .tail _ M9
theorem M11 {α : Type u} {a0 a1 a2 a3 a4 a5 a6 a7 a8 a9 a10 a11 : α} {l : List α} : a11 ∈ a0 :: a1 :: a2 :: a3 :: a4 :: a5 :: a6 :: a7 :: a8 :: a9 :: a10 :: a11 :: l := .tail _ M10
theorem M12 {α : Type u} {a0 a1 a2 a3 a4 a5 a6 a7 a8 a9 a10 a11 a12 : α} {l : List α} : a12 ∈ a0 :: a1 :: a2 :: a3 :: a4 :: a5 :: a6 :: a7 :: a8 :: a9 :: a10 :: a11 :: a12 :: l := .tail _ M11
theorem M13 {α : Type u} {a0 a1 a2 a3 a4 a5 a6 a7 a8 a9 a10 a11 a12 a13 : α} {l : List α} : a13 ∈ a0 :: a1 :: a2 :: a3 :: a4 :: a5 :: a6 :: a7 :: a8 :: a9 :: a10 :: a11 :: a12 :: a13 :: l := .tail _ M12
theorem M14 {α : Type u} {a0 a1 a2 a3 a4 a5 a6 a7 a8 a9 a10 a11 a12 a13 a14 : α} {l : List α} : a14 ∈ a0 :: a1 :: a2 :: a3 :: a4 :: a5 :: a6 :: a7 :: a8 :: a9 :: a10 :: a11 :: a12 :: a13 :: a14 :: l := .tail _ M13
theorem M15 {α : Type u} {a0 a1 a2 a3 a4 a5 a6 a7 a8 a9 a10 a11 a12 a13 a14 a15 : α} {l : List α} : a15 ∈ a0 :: a1 :: a2 :: a3 :: a4 :: a5 :: a6 :: a7 :: a8 :: a9 :: a10 :: a11 :: a12 :: a13 :: a14 :: a15 :: l := .tail _ M14
theorem M16 {α : Type u} {a0 a1 a2 a3 a4 a5 a6 a7 a8 a9 a10 a11 a12 a13 a14 a15 a16 : α} {l : List α} : a16 ∈ a0 :: a1 :: a2 :: a3 :: a4 :: a5 :: a6 :: a7 :: a8 :: a9 :: a10 :: a11 :: a12 :: a13 :: a14 :: a15 :: a16 :: l := .tail _ M15
theorem M17 {α : Type u} {a0 a1 a2 a3 a4 a5 a6 a7 a8 a9 a10 a11 a12 a13 a14 a15 a16 a17 : α} {l : List α} : a17 ∈ a0 :: a1 :: a2 :: a3 :: a4 :: a5 :: a6 :: a7 :: a8 :: a9 :: a10 :: a11 :: a12 :: a13 :: a14 :: a15 :: a16 :: a17 :: l := .tail _ M16
noncomputable abbrev pw := PySem.Challenge.pw_jg0001_01
noncomputable def bP (i : Nat) : Option Stmt := pw.main.body[i]?
noncomputable def e7 (i j : Nat) : Option Stmt := match bP i with
 | some (.ClassDef _ _ _ body _ _ _ _ _ _ _) => body[j]?
 | _ => none
noncomputable def fnD (s : Option Stmt) (qual : Str) (d kd pm : Value) (an : Option Addr) (cd : Value) : FuncData := match s with
 | some (.FunctionDef nm ps body _ _ _ sc _ _ _) => { name := nm, qualname := qual, params := ps, body := .stmts body, scope := sc, globals := 3, closure := [], defaults := d, kwdefaults := kd, pyModule := pm, annotations := an, code := cd }
 | _ => default
noncomputable def fnO (s : Option Stmt) (qual : Str) (d kd pm : Value) (an : Option Addr) (cd : Value) : Obj := ⟨.type "function", none, .func (fnD s qual d kd pm an cd), #[]⟩
noncomputable def de (P : Params) (k : Str) (t : Tok) (v : Value) : DictEntry := ⟨PyData.keyHash P k, .str k t, v⟩
noncomputable def clO (nm : Str) (a ns : Addr) (t1 t2 : Tok) : Obj := ⟨.type "type", none, .cls { name := nm, bases := [.type "object"], mro := [.ref a, .type "object"], ns := ns, qualname := nm }, #[none, none, some (.str nm t1), some (.str nm t2), some (.builtin "object.__new__"), some (.bool true)]⟩
noncomputable def ko2 (P : Params) : Obj := ⟨.none, none, .dict #[] 0, #[]⟩
noncomputable def ko3 (P : Params) : Obj := ⟨.type "dict", none, .dict #[de P "__name__" 165 (.str "law_jg0001_01" 838), de P "__doc__" 166 (.none), de P "__package__" 167 (.none), de P "__loader__" 168 (.builtin "__main__.__loader__#opaque"), de P "__spec__" 169 (.none), de P "__annotations__" 170 (.ref 6), de P "__builtins__" 171 (.ref 4), de P "__file__" 173 (.str "/claim/cut.py" 172), de P "__cached__" 174 (.none), de P "_wall" 193 (.ref 21), de P "CandidateSet" 206 (.ref 30), de P "str_set_of_candidates" 216 (.ref 38), de P "powerset" 227 (.ref 46), de P "dominate" 237 (.ref 53), de P "combinations" 243 (.ref 58), de P "Fraction" 420 (.ref 202), de P "total" 429 (.ref 213), de P "PROPERTY_NAMES" 441 (.ref 214), de P "check" 453 (.ref 222), de P "check_pareto_optimality" 465 (.ref 230), de P "check_EJR" 479 (.ref 238), de P "check_PJR" 493 (.ref 246), de P "check_JR" 505 (.ref 254), de P "_check_JR" 520 (.ref 261), de P "_check_pareto_optimality_brute_force" 530 (.ref 268), de P "_check_EJR_brute_force" 550 (.ref 275), de P "_check_PJR_brute_force" 571 (.ref 282), de P "check_EJR_plus" 583 (.ref 290), de P "_check_EJR_plus" 602 (.ref 297), de P "check_FJR" 616 (.ref 305), de P "_check_FJR_brute_force" 622 (.ref 310), de P "check_core" 636 (.ref 318), de P "_check_core_brute_force" 642 (.ref 323), de P "Profile" 789 (.ref 445), de P "Voter" 837 (.ref 482), de P "_law_broken" 845 (.ref 491), de P "_law_worse" 851 (.ref 496), de P "law" 857 (.ref 501)] 38, #[]⟩
noncomputable def ux (P : Params) : Obj := ⟨.type "tuple", none, .seq #[.ref 22, .none], #[]⟩
noncomputable def uD (P : Params) : Obj := ⟨.type "code", none, .fields #[.str "CandidateSet" 196, .str "CandidateSet" 197, .str "/claim/cut.py" 198, .int 5 0, .int 2 0, .int 0 0, .int 0 0, .int 3 0, .ref 24, .bool true, .int 181 0, .ref 25, .none, .ref 26, .ref 27, .ref 28, .int 204 0, .int 5 0, .str "/claim/cut.py" 205], #[]⟩
noncomputable def uv (P : Params) : Obj := fnO (bP 2) "CandidateSet" (.ref 23) (.none) (.str "abcvoting.misc" 194) (none) (.ref 29)
noncomputable def tW (P : Params) : Obj := ⟨.type "tuple", none, .seq #[.none], #[]⟩
noncomputable def uj (P : Params) : Obj := ⟨.type "code", none, .fields #[.str "powerset" 217, .str "powerset" 218, .str "/claim/cut.py" 219, .int 23 0, .int 2 0, .int 0 0, .int 0 0, .int 3 0, .ref 40, .bool true, .int 181 0, .ref 41, .none, .ref 42, .ref 43, .ref 44, .int 225 0, .int 23 0, .str "/claim/cut.py" 226], #[]⟩
noncomputable def ub (P : Params) : Obj := fnO (bP 4) "powerset" (.ref 39) (.none) (.str "abcvoting.misc" 194) (none) (.ref 45)
noncomputable def uN (P : Params) : Obj := ⟨.type "code", none, .fields #[.str "dominate" 228, .str "dominate" 229, .str "/claim/cut.py" 230, .int 31 0, .int 3 0, .int 0 0, .int 0 0, .int 3 0, .ref 47, .bool true, .int 181 0, .ref 48, .none, .ref 49, .ref 50, .ref 51, .int 235 0, .int 31 0, .str "/claim/cut.py" 236], #[]⟩
noncomputable def uw (P : Params) : Obj := fnO (bP 5) "dominate" (.none) (.none) (.str "abcvoting.misc" 194) (none) (.ref 52)
noncomputable def uF (P : Params) : Obj := ⟨.type "code", none, .fields #[.str "combinations" 238, .str "combinations" 239, .str "/claim/cut.py" 240, .int 41 0, .int 2 0, .int 0 0, .int 0 0, .int 3 0, .ref 54, .bool true, .int 181 0, .ref 55, .none, .none, .none, .ref 56, .int 241 0, .int 41 0, .str "/claim/cut.py" 242], #[]⟩
noncomputable def ud (P : Params) : Obj := fnO (bP 6) "combinations" (.none) (.none) (.str "abcvoting.misc" 194) (none) (.ref 57)
noncomputable def tR (P : Params) : Obj := ⟨.type "tuple", none, .seq #[.int 0 256, .int 1 257], #[]⟩
noncomputable def uI (P : Params) : Obj := ⟨.type "code", none, .fields #[.str "__init__" 258, .str "Fraction.__init__" 259, .str "/claim/cut.py" 260, .int 51 0, .int 3 0, .int 0 0, .int 0 0, .int 3 0, .ref 67, .bool true, .int 181 0, .ref 68, .none, .ref 69, .ref 70, .ref 71, .int 268 0, .int 51 0, .str "/claim/cut.py" 269], #[]⟩
noncomputable def uL (P : Params) : Obj := fnO (e7 7 0) "Fraction.__init__" (.ref 66) (.none) (.str "abcvoting.misc" 194) (none) (.ref 72)
noncomputable def tX (P : Params) : Obj := ⟨.type "code", none, .fields #[.str "__bool__" 271, .str "Fraction.__bool__" 272, .str "/claim/cut.py" 273, .int 77 0, .int 1 0, .int 0 0, .int 0 0, .int 3 0, .ref 74, .bool true, .int 181 0, .ref 75, .none, .ref 76, .ref 77, .ref 78, .int 275 0, .int 77 0, .str "/claim/cut.py" 276], #[]⟩
noncomputable def uz (P : Params) : Obj := fnO (e7 7 1) "Fraction.__bool__" (.none) (.none) (.str "abcvoting.misc" 194) (none) (.ref 79)
noncomputable def ug (P : Params) : Obj := ⟨.type "code", none, .fields #[.str "floor" 278, .str "Fraction.floor" 279, .str "/claim/cut.py" 280, .int 80 0, .int 1 0, .int 0 0, .int 0 0, .int 3 0, .ref 81, .bool true, .int 181 0, .ref 82, .none, .ref 83, .ref 84, .ref 85, .int 282 0, .int 80 0, .str "/claim/cut.py" 283], #[]⟩
noncomputable def tO (P : Params) : Obj := fnO (e7 7 2) "Fraction.floor" (.none) (.none) (.str "abcvoting.misc" 194) (none) (.ref 86)
noncomputable def tQ (P : Params) : Obj := ⟨.type "code", none, .fields #[.str "ceil" 285, .str "Fraction.ceil" 286, .str "/claim/cut.py" 287, .int 83 0, .int 1 0, .int 0 0, .int 0 0, .int 3 0, .ref 88, .bool true, .int 181 0, .ref 89, .none, .ref 90, .ref 91, .ref 92, .int 289 0, .int 83 0, .str "/claim/cut.py" 290], #[]⟩
noncomputable def uT (P : Params) : Obj := fnO (e7 7 3) "Fraction.ceil" (.none) (.none) (.str "abcvoting.misc" 194) (none) (.ref 93)
noncomputable def rj (P : Params) : Obj := ⟨.type "code", none, .fields #[.str "__mul__" 338, .str "Fraction.__mul__" 339, .str "/claim/cut.py" 340, .int 112 0, .int 2 0, .int 0 0, .int 0 0, .int 3 0, .ref 137, .bool true, .int 181 0, .ref 138, .none, .ref 139, .ref 140, .ref 141, .int 343 0, .int 112 0, .str "/claim/cut.py" 344], #[]⟩
noncomputable def sY (P : Params) : Obj := fnO (e7 7 10) "Fraction.__mul__" (.none) (.none) (.str "abcvoting.misc" 194) (none) (.ref 142)
noncomputable def rU (P : Params) : Obj := ⟨.type "code", none, .fields #[.str "__le__" 386, .str "Fraction.__le__" 387, .str "/claim/cut.py" 388, .int 146 0, .int 2 0, .int 0 0, .int 0 0, .int 3 0, .ref 179, .bool true, .int 181 0, .ref 180, .none, .ref 181, .ref 182, .ref 183, .int 391 0, .int 146 0, .str "/claim/cut.py" 392], #[]⟩
noncomputable def te (P : Params) : Obj := fnO (e7 7 16) "Fraction.__le__" (.none) (.none) (.str "abcvoting.misc" 194) (none) (.ref 184)
noncomputable def rA (P : Params) : Obj := ⟨.type "dict", none, .dict #[de P "__module__" 251 (.str "abcvoting.misc" 194), de P "__firstlineno__" 255 (.int 49 254), de P "__init__" 270 (.ref 73), de P "__bool__" 277 (.ref 80), de P "floor" 284 (.ref 87), de P "ceil" 291 (.ref 94), de P "__str__" 298 (.ref 101), de P "__neg__" 305 (.ref 108), de P "__add__" 313 (.ref 115), de P "__radd__" 321 (.ref 122), de P "__sub__" 329 (.ref 129), de P "__rsub__" 337 (.ref 136), de P "__mul__" 345 (.ref 143), de P "__rmul__" 353 (.ref 150), de P "__truediv__" 361 (.ref 157), de P "__rtruediv__" 369 (.ref 164), de P "__eq__" 377 (.ref 171), de P "__lt__" 385 (.ref 178), de P "__le__" 393 (.ref 185), de P "__gt__" 401 (.ref 192), de P "__ge__" 409 (.ref 199), de P "__static_attributes__" 412 (.ref 200), de P "__dict__" 414 (.ref 203), de P "__weakref__" 416 (.ref 204), de P "__doc__" 417 (.none), de P "__hash__" 418 (.none)] 5, #[]⟩
noncomputable def rV (P : Params) : Obj := clO "Fraction" 202 201 244 252
noncomputable def q9 (P : Params) : Obj := ⟨.type "code", none, .fields #[.str "total" 421, .str "total" 422, .str "/claim/cut.py" 423, .int 166 0, .int 1 0, .int 0 0, .int 0 0, .int 3 0, .ref 207, .bool true, .int 181 0, .ref 208, .none, .ref 209, .ref 210, .ref 211, .int 427 0, .int 166 0, .str "/claim/cut.py" 428], #[]⟩
noncomputable def sS (P : Params) : Obj := fnO (bP 8) "total" (.none) (.none) (.str "abcvoting.misc" 194) (none) (.ref 212)
noncomputable def sb (P : Params) : Obj := ⟨.type "list", none, .seq #[.str "pareto" 432, .str "jr" 433, .str "pjr" 434, .str "ejr" 435, .str "ejr+" 436, .str "fjr" 437, .str "priceability" 438, .str "stable-priceability" 439, .str "core" 440], #[]⟩
noncomputable def sI (P : Params) : Obj := ⟨.type "tuple", none, .seq #[.none, .str "fastest" 442], #[]⟩
noncomputable def rh (P : Params) : Obj := ⟨.type "code", none, .fields #[.str "check" 443, .str "check" 444, .str "/claim/cut.py" 445, .int 173 0, .int 5 0, .int 0 0, .int 0 0, .int 3 0, .ref 216, .bool true, .int 181 0, .ref 217, .none, .ref 218, .ref 219, .ref 220, .int 451 0, .int 173 0, .str "/claim/cut.py" 452], #[]⟩
noncomputable def sM (P : Params) : Obj := fnO (bP 11) "check" (.ref 215) (.none) (.str "abcvoting.properties" 430) (none) (.ref 221)
noncomputable def rI (P : Params) : Obj := ⟨.type "tuple", none, .seq #[.str "fastest" 454], #[]⟩
noncomputable def s8 (P : Params) : Obj := ⟨.type "code", none, .fields #[.str "check_pareto_optimality" 455, .str "check_pareto_optimality" 456, .str "/claim/cut.py" 457, .int 194 0, .int 3 0, .int 0 0, .int 0 0, .int 3 0, .ref 224, .bool true, .int 181 0, .ref 225, .none, .ref 226, .ref 227, .ref 228, .int 463 0, .int 194 0, .str "/claim/cut.py" 464], #[]⟩
noncomputable def tL (P : Params) : Obj := fnO (bP 12) "check_pareto_optimality" (.ref 223) (.none) (.str "abcvoting.properties" 430) (none) (.ref 229)
noncomputable def sF (P : Params) : Obj := ⟨.type "tuple", none, .seq #[.none, .str "fastest" 466], #[]⟩
noncomputable def sr (P : Params) : Obj := ⟨.type "code", none, .fields #[.str "check_EJR" 467, .str "check_EJR" 468, .str "/claim/cut.py" 469, .int 203 0, .int 4 0, .int 0 0, .int 0 0, .int 3 0, .ref 232, .bool true, .int 181 0, .ref 233, .none, .ref 234, .ref 235, .ref 236, .int 477 0, .int 203 0, .str "/claim/cut.py" 478], #[]⟩
noncomputable def sO (P : Params) : Obj := fnO (bP 13) "check_EJR" (.ref 231) (.none) (.str "abcvoting.properties" 430) (none) (.ref 237)
noncomputable def tv (P : Params) : Obj := ⟨.type "tuple", none, .seq #[.none, .str "fastest" 480], #[]⟩
noncomputable def rd (P : Params) : Obj := ⟨.type "code", none, .fields #[.str "check_PJR" 481, .str "check_PJR" 482, .str "/claim/cut.py" 483, .int 217 0, .int 4 0, .int 0 0, .int 0 0, .int 3 0, .ref 240, .bool true, .int 181 0, .ref 241, .none, .ref 242, .ref 243, .ref 244, .int 491 0, .int 217 0, .str "/claim/cut.py" 492], #[]⟩
noncomputable def td (P : Params) : Obj := fnO (bP 14) "check_PJR" (.ref 239) (.none) (.str "abcvoting.properties" 430) (none) (.ref 245)
noncomputable def tx (P : Params) : Obj := ⟨.type "tuple", none, .seq #[.none], #[]⟩
noncomputable def tn (P : Params) : Obj := ⟨.type "code", none, .fields #[.str "check_JR" 494, .str "check_JR" 495, .str "/claim/cut.py" 496, .int 231 0, .int 3 0, .int 0 0, .int 0 0, .int 3 0, .ref 248, .bool true, .int 181 0, .ref 249, .none, .ref 250, .ref 251, .ref 252, .int 503 0, .int 231 0, .str "/claim/cut.py" 504], #[]⟩
noncomputable def rH (P : Params) : Obj := fnO (bP 15) "check_JR" (.ref 247) (.none) (.str "abcvoting.properties" 430) (none) (.ref 253)
noncomputable def sz (P : Params) : Obj := ⟨.type "code", none, .fields #[.str "_check_JR" 506, .str "_check_JR" 507, .str "/claim/cut.py" 508, .int 240 0, .int 3 0, .int 0 0, .int 0 0, .int 3 0, .ref 255, .bool true, .int 181 0, .ref 256, .none, .ref 257, .ref 258, .ref 259, .int 518 0, .int 240 0, .str "/claim/cut.py" 519], #[]⟩
noncomputable def rf (P : Params) : Obj := fnO (bP 16) "_check_JR" (.none) (.none) (.str "abcvoting.properties" 430) (none) (.ref 260)
noncomputable def sv (P : Params) : Obj := ⟨.type "code", none, .fields #[.str "_check_pareto_optimality_brute_force" 521, .str "_check_pareto_optimality_brute_force" 522, .str "/claim/cut.py" 523, .int 253 0, .int 2 0, .int 0 0, .int 0 0, .int 3 0, .ref 262, .bool true, .int 181 0, .ref 263, .none, .ref 264, .ref 265, .ref 266, .int 528 0, .int 253 0, .str "/claim/cut.py" 529], #[]⟩
noncomputable def rg (P : Params) : Obj := fnO (bP 17) "_check_pareto_optimality_brute_force" (.none) (.none) (.str "abcvoting.properties" 430) (none) (.ref 267)
noncomputable def rW (P : Params) : Obj := ⟨.type "code", none, .fields #[.str "_check_EJR_brute_force" 531, .str "_check_EJR_brute_force" 532, .str "/claim/cut.py" 533, .int 260 0, .int 3 0, .int 0 0, .int 0 0, .int 3 0, .ref 269, .bool true, .int 181 0, .ref 270, .none, .ref 271, .ref 272, .ref 273, .int 548 0, .int 260 0, .str "/claim/cut.py" 549], #[]⟩
noncomputable def ta (P : Params) : Obj := fnO (bP 18) "_check_EJR_brute_force" (.none) (.none) (.str "abcvoting.properties" 430) (none) (.ref 274)
noncomputable def tB (P : Params) : Obj := ⟨.type "code", none, .fields #[.str "_check_PJR_brute_force" 551, .str "_check_PJR_brute_force" 552, .str "/claim/cut.py" 553, .int 281 0, .int 3 0, .int 0 0, .int 0 0, .int 3 0, .ref 276, .bool true, .int 181 0, .ref 277, .none, .ref 278, .ref 279, .ref 280, .int 569 0, .int 281 0, .str "/claim/cut.py" 570], #[]⟩
noncomputable def tc (P : Params) : Obj := fnO (bP 19) "_check_PJR_brute_force" (.none) (.none) (.str "abcvoting.properties" 430) (none) (.ref 281)
noncomputable def rZ (P : Params) : Obj := ⟨.type "tuple", none, .seq #[.none], #[]⟩
noncomputable def tr (P : Params) : Obj := ⟨.type "code", none, .fields #[.str "check_EJR_plus" 572, .str "check_EJR_plus" 573, .str "/claim/cut.py" 574, .int 306 0, .int 3 0, .int 0 0, .int 0 0, .int 3 0, .ref 284, .bool true, .int 181 0, .ref 285, .none, .ref 286, .ref 287, .ref 288, .int 581 0, .int 306 0, .str "/claim/cut.py" 582], #[]⟩
noncomputable def rL (P : Params) : Obj := fnO (bP 20) "check_EJR_plus" (.ref 283) (.none) (.str "abcvoting.properties" 430) (none) (.ref 289)
noncomputable def rz (P : Params) : Obj := ⟨.type "code", none, .fields #[.str "_check_EJR_plus" 584, .str "_check_EJR_plus" 585, .str "/claim/cut.py" 586, .int 315 0, .int 3 0, .int 0 0, .int 0 0, .int 3 0, .ref 291, .bool true, .int 181 0, .ref 292, .none, .ref 293, .ref 294, .ref 295, .int 600 0, .int 315 0, .str "/claim/cut.py" 601], #[]⟩
noncomputable def r8 (P : Params) : Obj := fnO (bP 21) "_check_EJR_plus" (.none) (.none) (.str "abcvoting.properties" 430) (none) (.ref 296)
noncomputable def rC (P : Params) : Obj := ⟨.type "tuple", none, .seq #[.none, .str "fastest" 603], #[]⟩
noncomputable def rq (P : Params) : Obj := ⟨.type "code", none, .fields #[.str "check_FJR" 604, .str "check_FJR" 605, .str "/claim/cut.py" 606, .int 335 0, .int 4 0, .int 0 0, .int 0 0, .int 3 0, .ref 299, .bool true, .int 181 0, .ref 300, .none, .ref 301, .ref 302, .ref 303, .int 614 0, .int 335 0, .str "/claim/cut.py" 615], #[]⟩
noncomputable def rb (P : Params) : Obj := fnO (bP 22) "check_FJR" (.ref 298) (.none) (.str "abcvoting.properties" 430) (none) (.ref 304)
noncomputable def rG (P : Params) : Obj := ⟨.type "code", none, .fields #[.str "_check_FJR_brute_force" 617, .str "_check_FJR_brute_force" 618, .str "/claim/cut.py" 619, .int 349 0, .int 3 0, .int 0 0, .int 0 0, .int 3 0, .ref 306, .bool true, .int 181 0, .ref 307, .none, .none, .none, .ref 308, .int 620 0, .int 349 0, .str "/claim/cut.py" 621], #[]⟩
noncomputable def rX (P : Params) : Obj := fnO (bP 23) "_check_FJR_brute_force" (.none) (.none) (.str "abcvoting.properties" 430) (none) (.ref 309)
noncomputable def rQ (P : Params) : Obj := ⟨.type "tuple", none, .seq #[.none, .str "fastest" 623], #[]⟩
noncomputable def tA (P : Params) : Obj := ⟨.type "code", none, .fields #[.str "check_core" 624, .str "check_core" 625, .str "/claim/cut.py" 626, .int 362 0, .int 4 0, .int 0 0, .int 0 0, .int 3 0, .ref 312, .bool true, .int 181 0, .ref 313, .none, .ref 314, .ref 315, .ref 316, .int 634 0, .int 362 0, .str "/claim/cut.py" 635], #[]⟩
noncomputable def tC (P : Params) : Obj := fnO (bP 24) "check_core" (.ref 311) (.none) (.str "abcvoting.properties" 430) (none) (.ref 317)
noncomputable def tD (P : Params) : Obj := ⟨.type "code", none, .fields #[.str "_check_core_brute_force" 637, .str "_check_core_brute_force" 638, .str "/claim/cut.py" 639, .int 376 0, .int 3 0, .int 0 0, .int 0 0, .int 3 0, .ref 319, .bool true, .int 181 0, .ref 320, .none, .none, .none, .ref 321, .int 640 0, .int 376 0, .str "/claim/cut.py" 641], #[]⟩
noncomputable def sh (P : Params) : Obj := fnO (bP 25) "_check_core_brute_force" (.none) (.none) (.str "abcvoting.properties" 430) (none) (.ref 322)
noncomputable def sX (P : Params) : Obj := ⟨.type "tuple", none, .seq #[.none], #[]⟩
noncomputable def rv (P : Params) : Obj := ⟨.type "code", none, .fields #[.str "__init__" 657, .str "Profile.__init__" 658, .str "/claim/cut.py" 659, .int 391 0, .int 3 0, .int 0 0, .int 0 0, .int 3 0, .ref 332, .bool true, .int 181 0, .ref 333, .none, .none, .none, .ref 334, .int 660 0, .int 391 0, .str "/claim/cut.py" 661], #[]⟩
noncomputable def rE (P : Params) : Obj := fnO (e7 27 0) "Profile.__init__" (.ref 331) (.none) (.str "abcvoting.preferences" 643) (none) (.ref 335)
noncomputable def tH (P : Params) : Obj := ⟨.type "code", none, .fields #[.str "num_cand" 663, .str "Profile.num_cand" 664, .str "/claim/cut.py" 665, .int 402 0, .int 1 0, .int 0 0, .int 0 0, .int 3 0, .ref 337, .bool true, .int 181 0, .ref 338, .none, .ref 339, .ref 340, .ref 341, .int 667 0, .int 402 0, .str "/claim/cut.py" 668], #[]⟩
noncomputable def ru (P : Params) : Obj := fnO (e7 27 1) "Profile.num_cand" (.none) (.none) (.str "abcvoting.preferences" 643) (none) (.ref 342)
noncomputable def tF (P : Params) : Obj := ⟨.type "property", none, .fields #[.ref 343, .none, .none, .none, .str "num_cand" 670, .bool false], #[]⟩
noncomputable def rB (P : Params) : Obj := ⟨.type "code", none, .fields #[.str "approved_candidates" 671, .str "Profile.approved_candidates" 672, .str "/claim/cut.py" 673, .int 406 0, .int 1 0, .int 0 0, .int 0 0, .int 3 0, .ref 345, .bool true, .int 181 0, .ref 346, .none, .ref 347, .ref 348, .ref 349, .int 677 0, .int 406 0, .str "/claim/cut.py" 678], #[]⟩
noncomputable def si (P : Params) : Obj := fnO (e7 27 2) "Profile.approved_candidates" (.none) (.none) (.str "abcvoting.preferences" 643) (none) (.ref 350)
noncomputable def rT (P : Params) : Obj := ⟨.type "code", none, .fields #[.str "__len__" 680, .str "Profile.__len__" 681, .str "/claim/cut.py" 682, .int 412 0, .int 1 0, .int 0 0, .int 0 0, .int 3 0, .ref 352, .bool true, .int 181 0, .ref 353, .none, .ref 354, .ref 355, .ref 356, .int 684 0, .int 412 0, .str "/claim/cut.py" 685], #[]⟩
noncomputable def qU (P : Params) : Obj := fnO (e7 27 3) "Profile.__len__" (.none) (.none) (.str "abcvoting.preferences" 643) (none) (.ref 357)
noncomputable def qY (P : Params) : Obj := ⟨.type "code", none, .fields #[.str "_unique_voter" 687, .str "Profile._unique_voter" 688, .str "/claim/cut.py" 689, .int 415 0, .int 2 0, .int 0 0, .int 0 0, .int 3 0, .ref 359, .bool true, .int 181 0, .ref 360, .none, .ref 361, .ref 362, .ref 363, .int 693 0, .int 415 0, .str "/claim/cut.py" 694], #[]⟩
noncomputable def rm (P : Params) : Obj := fnO (e7 27 4) "Profile._unique_voter" (.none) (.none) (.str "abcvoting.preferences" 643) (none) (.ref 364)
noncomputable def qX (P : Params) : Obj := ⟨.type "code", none, .fields #[.str "add_voter" 696, .str "Profile.add_voter" 697, .str "/claim/cut.py" 698, .int 422 0, .int 2 0, .int 0 0, .int 0 0, .int 3 0, .ref 366, .bool true, .int 181 0, .ref 367, .none, .ref 368, .ref 369, .ref 370, .int 701 0, .int 422 0, .str "/claim/cut.py" 702], #[]⟩
noncomputable def rM (P : Params) : Obj := fnO (e7 27 5) "Profile.add_voter" (.none) (.none) (.str "abcvoting.preferences" 643) (none) (.ref 371)
noncomputable def sf (P : Params) : Obj := ⟨.type "code", none, .fields #[.str "total_weight" 712, .str "Profile.total_weight" 713, .str "/claim/cut.py" 714, .int 428 0, .int 1 0, .int 0 0, .int 0 0, .int 3 0, .ref 380, .bool true, .int 181 0, .ref 381, .none, .ref 382, .ref 383, .ref 384, .int 716 0, .int 428 0, .str "/claim/cut.py" 717], #[]⟩
noncomputable def se (P : Params) : Obj := fnO (e7 27 7) "Profile.total_weight" (.none) (.none) (.str "abcvoting.preferences" 643) (none) (.ref 385)
noncomputable def sQ (P : Params) : Obj := ⟨.type "code", none, .fields #[.str "__iter__" 740, .str "Profile.__iter__" 741, .str "/claim/cut.py" 742, .int 440 0, .int 1 0, .int 0 0, .int 0 0, .int 35 0, .ref 408, .bool true, .int 181 0, .ref 409, .none, .ref 410, .ref 411, .ref 412, .int 745 0, .int 440 0, .str "/claim/cut.py" 746], #[]⟩
noncomputable def s6 (P : Params) : Obj := fnO (e7 27 11) "Profile.__iter__" (.none) (.none) (.str "abcvoting.preferences" 643) (none) (.ref 413)
noncomputable def qS (P : Params) : Obj := ⟨.type "code", none, .fields #[.str "__getitem__" 748, .str "Profile.__getitem__" 749, .str "/claim/cut.py" 750, .int 444 0, .int 2 0, .int 0 0, .int 0 0, .int 3 0, .ref 415, .bool true, .int 181 0, .ref 416, .none, .ref 417, .ref 418, .ref 419, .int 753 0, .int 444 0, .str "/claim/cut.py" 754], #[]⟩
noncomputable def rS (P : Params) : Obj := fnO (e7 27 12) "Profile.__getitem__" (.none) (.none) (.str "abcvoting.preferences" 643) (none) (.ref 420)
noncomputable def so (P : Params) : Obj := ⟨.type "dict", none, .dict #[de P "__module__" 652 (.str "abcvoting.preferences" 643), de P "__firstlineno__" 656 (.int 389 655), de P "__init__" 662 (.ref 336), de P "num_cand" 670 (.ref 344), de P "approved_candidates" 679 (.ref 351), de P "__len__" 686 (.ref 358), de P "_unique_voter" 695 (.ref 365), de P "add_voter" 703 (.ref 372), de P "add_voters" 711 (.ref 379), de P "total_weight" 718 (.ref 386), de P "has_unit_weights" 725 (.ref 393), de P "convert_to_unit_weights" 732 (.ref 400), de P "convert_to_weighted" 739 (.ref 407), de P "__iter__" 747 (.ref 414), de P "__getitem__" 755 (.ref 421), de P "__setitem__" 764 (.ref 428), de P "copy" 771 (.ref 435), de P "is_party_list" 778 (.ref 442), de P "__static_attributes__" 782 (.ref 443), de P "__dict__" 784 (.ref 446), de P "__weakref__" 786 (.ref 447), de P "__doc__" 787 (.none)] 4, #[]⟩
noncomputable def sW (P : Params) : Obj := clO "Profile" 445 444 645 653
noncomputable def sq (P : Params) : Obj := ⟨.type "tuple", none, .seq #[.int 1 802, .none], #[]⟩
noncomputable def q8 (P : Params) : Obj := ⟨.type "code", none, .fields #[.str "__init__" 803, .str "Voter.__init__" 804, .str "/claim/cut.py" 805, .int 457 0, .int 4 0, .int 0 0, .int 0 0, .int 3 0, .ref 458, .bool true, .int 181 0, .ref 459, .none, .ref 460, .ref 461, .ref 462, .int 810 0, .int 457 0, .str "/claim/cut.py" 811], #[]⟩
noncomputable def tN (P : Params) : Obj := fnO (e7 28 0) "Voter.__init__" (.ref 457) (.none) (.str "abcvoting.preferences" 643) (none) (.ref 463)
noncomputable def sd (P : Params) : Obj := ⟨.type "dict", none, .dict #[de P "__module__" 797 (.str "abcvoting.preferences" 643), de P "__firstlineno__" 801 (.int 455 800), de P "__init__" 812 (.ref 464), de P "__str__" 819 (.ref 471), de P "str_with_names" 827 (.ref 479), de P "__static_attributes__" 830 (.ref 480), de P "__dict__" 832 (.ref 483), de P "__weakref__" 834 (.ref 484), de P "__doc__" 835 (.none)] 4, #[]⟩
noncomputable def rY (P : Params) : Obj := clO "Voter" 482 481 790 798
noncomputable def tE (P : Params) : Obj := ⟨.type "code", none, .fields #[.str "_law_broken" 840, .str "_law_broken" 841, .str "/claim/cut.py" 842, .int 469 0, .int 6 0, .int 0 0, .int 0 0, .int 3 0, .ref 487, .bool true, .int 181 0, .ref 488, .none, .none, .none, .ref 489, .int 843 0, .int 469 0, .str "/claim/cut.py" 844], #[]⟩
noncomputable def sg (P : Params) : Obj := fnO (bP 30) "_law_broken" (.none) (.none) (.str "law_jg0001_01" 838) (none) (.ref 490)
noncomputable def r7 (P : Params) : Obj := ⟨.type "code", none, .fields #[.str "_law_worse" 846, .str "_law_worse" 847, .str "/claim/cut.py" 848, .int 498 0, .int 3 0, .int 0 0, .int 0 0, .int 3 0, .ref 492, .bool true, .int 181 0, .ref 493, .none, .none, .none, .ref 494, .int 849 0, .int 498 0, .str "/claim/cut.py" 850], #[]⟩
noncomputable def sE (P : Params) : Obj := fnO (bP 31) "_law_worse" (.none) (.none) (.str "law_jg0001_01" 838) (none) (.ref 495)
noncomputable def tG (P : Params) : Obj := ⟨.type "code", none, .fields #[.str "law" 852, .str "law" 853, .str "/claim/cut.py" 854, .int 507 0, .int 1 0, .int 0 0, .int 0 0, .int 3 0, .ref 497, .bool true, .int 181 0, .ref 498, .none, .none, .none, .ref 499, .int 855 0, .int 507 0, .str "/claim/cut.py" 856], #[]⟩
noncomputable def ri (P : Params) : Obj := fnO (bP 32) "law" (.none) (.none) (.str "law_jg0001_01" 838) (none) (.ref 500)
noncomputable def KK (P : Params) : Frag := [(2, ko2 P), (3, ko3 P), (23, ux P), (29, uD P), (30, uv P), (39, tW P), (45, uj P), (46, ub P), (52, uN P), (53, uw P), (57, uF P), (58, ud P), (66, tR P), (72, uI P), (73, uL P), (79, tX P), (80, uz P), (86, ug P), (87, tO P), (93, tQ P), (94, uT P), (142, rj P), (143, sY P), (184, rU P), (185, te P), (201, rA P), (202, rV P), (212, q9 P), (213, sS P), (214, sb P), (215, sI P), (221, rh P), (222, sM P), (223, rI P), (229, s8 P), (230, tL P), (231, sF P), (237, sr P), (238, sO P), (239, tv P), (245, rd P), (246, td P), (247, tx P), (253, tn P), (254, rH P), (260, sz P), (261, rf P), (267, sv P), (268, rg P), (274, rW P), (275, ta P), (281, tB P), (282, tc P), (283, rZ P), (289, tr P), (290, rL P), (296, rz P), (297, r8 P), (298, rC P), (304, rq P), (305, rb P), (309, rG P), (310, rX P), (311, rQ P), (317, tA P), (318, tC P), (322, tD P), (323, sh P), (331, sX P), (335, rv P), (336, rE P), (342, tH P), (343, ru P), (344, tF P), (350, rB P), (351, si P), (357, rT P), (358, qU P), (364, qY P), (365, rm P), (371, qX P), (372, rM P), (385, sf P), (386, se P), (413, sQ P), (414, s6 P), (420, qS P), (421, rS P), (444, so P), (445, sW P), (457, sq P), (463, q8 P), (464, tN P), (481, sd P), (482, rY P), (490, tE P), (491, sg P), (495, r7 P), (496, sE P), (500, tG P), (501, ri P)]
noncomputable def gN : Obj := ⟨.none, none, .fields #[], #[]⟩
noncomputable def KZ (P : Params) : Frag := KK P ++ [(4, ⟨.type "module", some 0, .plain, #[]⟩), (25, gN), (292, gN), (307, gN), (320, gN), (381, gN)]
noncomputable def asZ : List Addr := [2, 3, 23, 29, 30, 39, 45, 46, 52, 53, 57, 58, 66, 72, 73, 79, 80, 86, 87, 93, 94, 142, 143, 184, 185, 201, 202, 212, 213, 214, 215, 221, 222, 223, 229, 230, 231, 237, 238, 239, 245, 246, 247, 253, 254, 260, 261, 267, 268, 274, 275, 281, 282, 283, 289, 290, 296, 297, 298, 304, 305, 309, 310, 311, 317, 318, 322, 323, 331, 335, 336, 342, 343, 344, 350, 351, 357, 358, 364, 365, 371, 372, 385, 386, 413, 414, 420, 421, 444, 445, 457, 463, 464, 481, 482, 490, 491, 495, 496, 500, 501, 4, 25, 292, 307, 320, 381]
theorem qh : ∀ P, asZ = (KZ P).map (·.1) := fun _ => rfl
noncomputable abbrev Fz := Addr → Option Obj
noncomputable def Fz.le (F G : Fz) : Prop := ∀ a o, F a = some o → G a = some o
theorem Fz.le.refl (F : Fz) : F.le F := iz
theorem Fz.le.trans {F G H : Fz} (x : F.le G) (y : G.le H) : F.le H := fun a o e => y a o (x a o e)
structure MP where
 p : Fz → Prop
 mono : ∀ {F G : Fz}, F.le G → p F → p G
structure VP where
 p : Fz → Value → Prop
 mono : ∀ {F G : Fz} {y : Value}, F.le G → p F y → p G y
noncomputable def VP.at (v : VP) (y : Value) : MP := ⟨fun F => v.p F y, fun h x => v.mono h x⟩
noncomputable def MP.and (a b : MP) : MP := ⟨fun F => a.p F ∧ b.p F, fun h x => ⟨a.mono h x.1, b.mono h x.2⟩⟩
noncomputable def MP.tt : MP := ⟨fun _ => True, fun _ x => x⟩
structure OP where
 p : Fz → Obj → Prop
 mono : ∀ {F G : Fz} {o : Obj}, F.le G → p F o → p G o
structure GP where
 p : Fz → GenState → Prop
 mono : ∀ {F G : Fz} {g : GenState}, F.le G → p F g → p G g
structure Gd where
 w : World
 K : Frag
 H0 : Heap
 tabs : List (Addr × Addr)
 os : OsState
 mb : Str → Option Value
 ktab : ∀ p ∈ tabs, K.lookup p.2 = none
 ptab : ∀ p ∈ tabs, p.2 ≠ cStatics ∧ p.2 ≠ builtinsNs ∧ p.2 < H0.objs.size ∧ p.1 < H0.objs.size ∧ ∀ q ∈ tabs, p.2 ≠ q.1 ∧ (p.2 = q.2 → p = q)
 blow : builtinsNs < H0.objs.size
 klow : ∀ a o, K.lookup a = some o → a < H0.objs.size
 hmb : ∀ x v, x ≠ ("__name__" : Str) → bootBuiltins x = some v → mb x = some v
 kst : K.lookup cStatics = some ⟨.none, none, .dict #[] 0, #[]⟩
 bm : Addr
 ob : Obj
 hbm : (ob.cls = .type "module" ∧ ob.dict = some builtinsNs ∧ ob.data = .plain) ∧ bm ≠ builtinsNs ∧ bm < H0.objs.size ∧ ∀ p ∈ tabs, p.2 ≠ bm
 hbn : nsIn K mainGlobals "__builtins__" = some (some (.ref bm))
noncomputable abbrev Gd.M (G : Gd) : Model := model PySem.Challenge.pw_jg0001_01 G.w
noncomputable def Gd.gb (G : Gd) (a : Addr) : Prop := ∃ p ∈ G.tabs, p.2 = a
structure Wd (G : Gd) (s : Shared) : Prop where
 K : G.K.In s.heap
 old : OldK G.H0 s.heap
 big : G.H0.objs.size ≤ s.heap.objs.size
 tabs : ∀ p ∈ G.tabs, (∃ ps, G.H0.TableAt p.1 p.2 ps) ∧ ∃ ps, s.heap.TableAt p.1 p.2 ps ∧ s.heap.IsCode p.1 p.2 ps
 bns : s.heap.Ns builtinsNs G.mb
 bare : AllBare s.gens
 os : s.os = G.os
 mod : s.heap.get? G.bm = some G.ob
structure Kept (G : Gd) (xa xg : List Nat) (s₀ s : Shared) : Prop where
 heap : ∀ a o, s₀.heap.get? a = some o → a ∉ xa → ¬ G.gb a → s.heap.get? a = some o
 size : s₀.heap.objs.size ≤ s.heap.objs.size
 gens : ∀ i x, s₀.gens[i]? = some x → i ∉ xg → s.gens[i]? = some x
 gsize : s₀.gens.size ≤ s.gens.size
theorem Kept.refl {G : Gd} {xa xg : List Nat} (s : Shared) : Kept G xa xg s s := ⟨fun _ _ e _ _ => e, Nat.le_refl _, fun _ _ e _ => e, Nat.le_refl _⟩
theorem Kept.trans {G : Gd} {xa xg : List Nat} {s₀ s₁ s₂ : Shared} (x : Kept G xa xg s₀ s₁) (y : Kept G xa xg s₁ s₂) : Kept G xa xg s₀ s₂ :=
 ⟨fun a o e h t => y.heap a o (x.heap a o e h t) h t, Nat.le_trans x.size y.size, fun i g e h => y.gens i g (x.gens i g e h) h, Nat.le_trans x.gsize y.gsize⟩
structure Cx where
 env : Env
 s₀ : Shared
 F₀ : Fz
 xa : List Addr
 xg : List Nat
noncomputable def Cx.L (C : Cx) : Addr := C.env.locals
noncomputable def Cx.ey (C : Cx) (a : Addr) : Prop := C.s₀.heap.objs.size ≤ a ∨ a ∈ C.xa
noncomputable def Cx.ot (C : Cx) (g : Nat) : Prop := C.s₀.gens.size ≤ g ∨ g ∈ C.xg
noncomputable def jb (env : Env) (m : Str → Option Value) (h : Heap) (x : Str) (y : Value) : Prop :=
 (env.kindOf x = some .local ∧ m x = some y) ∨ ((env.kindOf x = some .cell ∨ env.kindOf x = some .free) ∧ ∃ c, env.cells.lookup x = some c ∧ h.IsCell c (some y))
noncomputable abbrev Sto := List (Str × Option VP)
inductive Upd : Sto → Str → VP → Sto → Prop where
 | here {x : Str} {u : Option VP} {v : VP} {σ : Sto} : Upd ((x, u) :: σ) x v ((x, some v) :: σ)
 | there {p : Str × Option VP} {x : Str} {v : VP} {σ σ' : Sto} : Upd σ x v σ' → Upd (p :: σ) x v (p :: σ')
theorem U1 {p0 : Str × Option VP} {x : Str} {o : Option VP} {v : VP} {σ : Sto} : Upd (p0 :: (x, o) :: σ) x v (p0 :: (x, some v) :: σ) := .there .here
theorem U2 {p0 p1 : Str × Option VP} {x : Str} {o : Option VP} {v : VP} {σ : Sto} : Upd (p0 :: p1 :: (x, o) :: σ) x v (p0 :: p1 :: (x, some v) :: σ) := .there U1
theorem U3 {p0 p1 p2 : Str × Option VP} {x : Str} {o : Option VP} {v : VP} {σ : Sto} : Upd (p0 :: p1 :: p2 :: (x, o) :: σ) x v (p0 :: p1 :: p2 :: (x, some v) :: σ) := .there U2
theorem U4 {p0 p1 p2 p3 : Str × Option VP} {x : Str} {o : Option VP} {v : VP} {σ : Sto} : Upd (p0 :: p1 :: p2 :: p3 :: (x, o) :: σ) x v (p0 :: p1 :: p2 :: p3 :: (x, some v) :: σ) := .there U3
theorem U5 {p0 p1 p2 p3 p4 : Str × Option VP} {x : Str} {o : Option VP} {v : VP} {σ : Sto} : Upd (p0 :: p1 :: p2 :: p3 :: p4 :: (x, o) :: σ) x v (p0 :: p1 :: p2 :: p3 :: p4 :: (x, some v) :: σ) := .there U4
theorem U6 {p0 p1 p2 p3 p4 p5 : Str × Option VP} {x : Str} {o : Option VP} {v : VP} {σ : Sto} : Upd (p0 :: p1 :: p2 :: p3 :: p4 :: p5 :: (x, o) :: σ) x v (p0 :: p1 :: p2 :: p3 :: p4 :: p5 :: (x, some v) :: σ) := .there U5
theorem U7 {p0 p1 p2 p3 p4 p5 p6 : Str × Option VP} {x : Str} {o : Option VP} {v : VP} {σ : Sto} : Upd (p0 :: p1 :: p2 :: p3 :: p4 :: p5 :: p6 :: (x, o) :: σ) x v (p0 :: p1 :: p2 :: p3 :: p4 :: p5 :: p6 :: (x, some v) :: σ) := .there U6
theorem U8 {p0 p1 p2 p3 p4 p5 p6 p7 : Str × Option VP} {x : Str} {o : Option VP} {v : VP} {σ : Sto} : Upd (p0 :: p1 :: p2 :: p3 :: p4 :: p5 :: p6 :: p7 :: (x, o) :: σ) x v (p0 :: p1 :: p2 :: p3 :: p4 :: p5 :: p6 :: p7 :: (x, some v) :: σ) := .there U7
theorem U9 {p0 p1 p2 p3 p4 p5 p6 p7 p8 : Str × Option VP} {x : Str} {o : Option VP} {v : VP} {σ : Sto} : Upd (p0 :: p1 :: p2 :: p3 :: p4 :: p5 :: p6 :: p7 :: p8 :: (x, o) :: σ) x v (p0 :: p1 :: p2 :: p3 :: p4 :: p5 :: p6 :: p7 :: p8 :: (x, some v) :: σ) := .there U8
theorem U10 {p0 p1 p2 p3 p4 p5 p6 p7 p8 p9 : Str × Option VP} {x : Str} {o : Option VP} {v : VP} {σ : Sto} : Upd (p0 :: p1 :: p2 :: p3 :: p4 :: p5 :: p6 :: p7 :: p8 :: p9 :: (x, o) :: σ) x v (p0 :: p1 :: p2 :: p3 :: p4 :: p5 :: p6 :: p7 :: p8 :: p9 :: (x, some v) :: σ) := .there U9
theorem U11 {p0 p1 p2 p3 p4 p5 p6 p7 p8 p9 p10 : Str × Option VP} {x : Str} {o : Option VP} {v : VP} {σ : Sto} : Upd (p0 :: p1 :: p2 :: p3 :: p4 :: p5 :: p6 :: p7 :: p8 :: p9 :: p10 :: (x, o) :: σ) x v (p0 :: p1 :: p2 :: p3 :: p4 :: p5 :: p6 :: p7 :: p8 :: p9 :: p10 :: (x, some v) :: σ) := .there U10
theorem U12 {p0 p1 p2 p3 p4 p5 p6 p7 p8 p9 p10 p11 : Str × Option VP} {x : Str} {o : Option VP} {v : VP} {σ : Sto} : Upd (p0 :: p1 :: p2 :: p3 :: p4 :: p5 :: p6 :: p7 :: p8 :: p9 :: p10 :: p11 :: (x, o) :: σ) x v (p0 :: p1 :: p2 :: p3 :: p4 :: p5 :: p6 :: p7 :: p8 :: p9 :: p10 :: p11 :: (x, some v) :: σ) := .there U11
theorem U13 {p0 p1 p2 p3 p4 p5 p6 p7 p8 p9 p10 p11 p12 : Str × Option VP} {x : Str} {o : Option VP} {v : VP} {σ : Sto} : Upd (p0 :: p1 :: p2 :: p3 :: p4 :: p5 :: p6 :: p7 :: p8 :: p9 :: p10 :: p11 :: p12 :: (x, o) :: σ) x v (p0 :: p1 :: p2 :: p3 :: p4 :: p5 :: p6 :: p7 :: p8 :: p9 :: p10 :: p11 :: p12 :: (x, some v) :: σ) := .there U12
theorem U14 {p0 p1 p2 p3 p4 p5 p6 p7 p8 p9 p10 p11 p12 p13 : Str × Option VP} {x : Str} {o : Option VP} {v : VP} {σ : Sto} : Upd (p0 :: p1 :: p2 :: p3 :: p4 :: p5 :: p6 :: p7 :: p8 :: p9 :: p10 :: p11 :: p12 :: p13 :: (x, o) :: σ) x v (p0 :: p1 :: p2 :: p3 :: p4 :: p5 :: p6 :: p7 :: p8 :: p9 :: p10 :: p11 :: p12 :: p13 :: (x, some v) :: σ) := .there U13
theorem U15 {p0 p1 p2 p3 p4 p5 p6 p7 p8 p9 p10 p11 p12 p13 p14 : Str × Option VP} {x : Str} {o : Option VP} {v : VP} {σ : Sto} : Upd (p0 :: p1 :: p2 :: p3 :: p4 :: p5 :: p6 :: p7 :: p8 :: p9 :: p10 :: p11 :: p12 :: p13 :: p14 :: (x, o) :: σ) x v (p0 :: p1 :: p2 :: p3 :: p4 :: p5 :: p6 :: p7 :: p8 :: p9 :: p10 :: p11 :: p12 :: p13 :: p14 :: (x, some v) :: σ) := .there U14
theorem U16 {p0 p1 p2 p3 p4 p5 p6 p7 p8 p9 p10 p11 p12 p13 p14 p15 : Str × Option VP} {x : Str} {o : Option VP} {v : VP} {σ : Sto} : Upd (p0 :: p1 :: p2 :: p3 :: p4 :: p5 :: p6 :: p7 :: p8 :: p9 :: p10 :: p11 :: p12 :: p13 :: p14 :: p15 :: (x, o) :: σ) x v (p0 :: p1 :: p2 :: p3 :: p4 :: p5 :: p6 :: p7 :: p8 :: p9 :: p10 :: p11 :: p12 :: p13 :: p14 :: p15 :: (x, some v) :: σ) := .there U15
theorem U17 {p0 p1 p2 p3 p4 p5 p6 p7 p8 p9 p10 p11 p12 p13 p14 p15 p16 : Str × Option VP} {x : Str} {o : Option VP} {v : VP} {σ : Sto} : Upd (p0 :: p1 :: p2 :: p3 :: p4 :: p5 :: p6 :: p7 :: p8 :: p9 :: p10 :: p11 :: p12 :: p13 :: p14 :: p15 :: p16 :: (x, o) :: σ) x v (p0 :: p1 :: p2 :: p3 :: p4 :: p5 :: p6 :: p7 :: p8 :: p9 :: p10 :: p11 :: p12 :: p13 :: p14 :: p15 :: p16 :: (x, some v) :: σ) := .there U16
theorem Upd.names {σ σ' : Sto} {x : Str} {v : VP} (h : Upd σ x v σ') : σ'.map (·.1) = σ.map (·.1) := by
 induction h with
 | here => rfl
 | there _ ih => simp only [List.map_cons, ih]
theorem Upd.has {σ σ' : Sto} {x : Str} {v : VP} (h : Upd σ x v σ') : x ∈ σ.map (·.1) := by
 induction h with
 | here => simp
 | there _ ih => exact .tail _ ih
theorem Upd.mem {σ σ' : Sto} {x : Str} {v : VP} (h : Upd σ x v σ') : (σ.map (·.1)).Nodup → ∀ p ∈ σ', p = (x, some v) ∨ (p ∈ σ ∧ p.1 ≠ x) := by
 induction h with
 | here =>
  intro hn p hp
  rw [List.map_cons] at hn
  rcases List.mem_cons.mp hp with rfl | hp
  ·exact .inl rfl
  ·exact .inr ⟨.tail _ hp, fun e => (List.nodup_cons.mp hn).1 (by rw [← e]; exact List.mem_map_of_mem (f := (·.1)) hp)⟩
 | there hu ih =>
  intro hn p hp
  rw [List.map_cons] at hn
  have h2 := List.nodup_cons.mp hn
  rcases List.mem_cons.mp hp with rfl | hp
  ·exact .inr ⟨.head _, fun e => h2.1 (e ▸ hu.has)⟩
  ·rcases ih h2.2 p hp with e | ⟨a, b⟩
   ·exact .inl e
   ·exact .inr ⟨.tail _ a, b⟩
structure Ix where
 C : Cx
 σ : Sto
 X : List (Addr × OP) := []
 Y : List (Nat × GP) := []
structure FSB (G : Gd) (C : Cx) (σ : Sto) (X : List (Addr × OP)) (Y : List (Nat × GP)) (τ : MP) (s : Shared) (F : Fz) (m : Str → Option Value) : Prop where
 wd : Wd G s
 kept : Kept G C.xa C.xg C.s₀ s
 base : G.H0.objs.size ≤ C.s₀.heap.objs.size
 xab : ∀ a ∈ C.xa, G.H0.objs.size ≤ a ∧ a < C.s₀.heap.objs.size
 xgb : ∀ g ∈ C.xg, g < C.s₀.gens.size
 le : C.F₀.le F
 fz : ∀ a o, F a = some o → s.heap.get? a = some o ∧ ¬ G.gb a ∧ (C.F₀ a = some o ∨ C.s₀.heap.objs.size ≤ a)
 ns : s.heap.Ns C.L m
 loc : F C.L = none ∧ C.ey C.L
 fun_ : C.env.scope.kind = .function
 glob : C.env.globals = mainGlobals ∧ C.env.builtins = builtinsNs
 names : (σ.map (·.1)).Nodup
 vars : ∀ x v, (x, some v) ∈ σ → ∃ y, jb C.env m s.heap x y ∧ v.p F y
 cells : ∀ x c, C.env.cells.lookup x = some c → (∃ v, s.heap.IsCell c v) ∧ F c = none ∧ c ∉ X.map (·.1) ∧ c ≠ C.L ∧ G.H0.objs.size ≤ c
 cellsInj : ∀ x y c, C.env.cells.lookup x = some c → C.env.cells.lookup y = some c → x = y
 own : ∀ p ∈ X, (∃ o, s.heap.get? p.1 = some o ∧ p.2.p F o) ∧ C.ey p.1 ∧ F p.1 = none ∧ p.1 ≠ C.L
 nodup : (X.map (·.1)).Nodup
 gown : ∀ q ∈ Y, (∃ g, s.gens[q.1]? = some g ∧ q.2.p F g) ∧ C.ot q.1
 ynd : (Y.map (·.1)).Nodup
 tmp : τ.p F
inductive FS (G : Gd) (I : Ix) (τ : MP) (s : Shared) : Prop
 | mk (F : Fz) (m : Str → Option Value) (h : FSB G I.C I.σ I.X I.Y τ s F m) : FS G I τ s
section
variable {G : Gd} {C : Cx} {σ : Sto} {X : List (Addr × OP)} {Y : List (Nat × GP)} {τ τ' : MP} {s : Shared} {F : Fz} {m : Str → Option Value}
theorem Gd.ef {G : Gd} {a : Addr} (h : G.H0.objs.size ≤ a) : ¬ G.gb a := fun ⟨p, hp, e⟩ => by
 have := (G.ptab p hp).2.2.1
 subst e
 exact absurd h (Nat.not_le.mpr this)
theorem FSB.dy (h : FSB G C σ X Y τ s F m) {a : Addr} (p : C.ey a) : G.H0.objs.size ≤ a := by
 rcases p with p | p
 ·exact Nat.le_trans h.base p
 ·exact (h.xab a p).1
theorem FSB.eU (h : FSB G C σ X Y τ s F m) {a : Addr} (p : C.ey a) : ¬ G.gb a := Gd.ef (h.dy p)
theorem Wd.keeps (x : Wd G s) {h' : Heap} {tk : Nat} {gs : Array GenState} {d : Drawn} (hk : ∀ b o, s.heap.get? b = some o → h'.get? b = some o) (hz : s.heap.objs.size ≤ h'.objs.size) (hb : AllBare gs) :
  Wd G ⟨h', gs, d, tk, s.os⟩ :=
 ⟨x.K.keeps hk, x.old.step_keeps hk, Nat.le_trans x.big hz, fun p hp => let ⟨a, ps, b, c⟩ := x.tabs p hp; ⟨a, ps, b.keeps hk, c.keeps hk⟩, x.bns.keeps hk, hb, x.os, hk _ _ x.mod⟩
theorem Wd.same (x : Wd G s) {a : Addr} (ha : G.H0.objs.size ≤ a) {h' : Heap} {tk : Nat} (hs : Heap.SameBut a s.heap h') : Wd G ⟨h', s.gens, s.drawn, tk, s.os⟩ :=
 ⟨fun b o e => (hs.2 b (fun q => by subst q; exact absurd (G.klow _ _ e) (Nat.not_lt.mpr ha))).trans (x.K b o e), x.old.step_same ha hs, by rw [hs.1]; exact x.big,
  fun p hp => by
  obtain ⟨a', ps, b, c⟩ := x.tabs p hp
  have h1 := (G.ptab p hp).2.2.1
  have h2 := (G.ptab p hp).2.2.2.1
  refine ⟨a', ps, b.sameBut hs (Nat.ne_of_lt (Nat.lt_of_lt_of_le h2 ha)) (Nat.ne_of_lt (Nat.lt_of_lt_of_le h1 ha)), ?_⟩
  obtain ⟨o, vs, file, tf, flags, tg, inF, text, tt, op, e1, r1, r2, r3, r4, r5, r6, e2, r⟩ := c
  exact ⟨o, vs, file, tf, flags, tg, inF, text, tt, op, (hs.2 _ (Nat.ne_of_lt (Nat.lt_of_lt_of_le h2 ha))).trans e1, r1, r2, r3, r4, r5, r6, (hs.2 _ (Nat.ne_of_lt (Nat.lt_of_lt_of_le h1 ha))).trans e2, r⟩,
  x.bns.sameBut hs (Nat.ne_of_lt (Nat.lt_of_lt_of_le G.blow ha)), x.bare, x.os, (hs.2 _ (Nat.ne_of_lt (Nat.lt_of_lt_of_le G.hbm.2.2.1 ha))).trans x.mod⟩
end
variable {G : Gd} {C C' : Cx} {σ σ' σ₁ σc : Sto} {X X' Xo X₁ X₂ R : List (Addr × OP)} {Y Y' Yo Y₁ Y₂ : List (Nat × GP)} {τ τ' : MP} {s s' : Shared} {F F' : Fz} {m m' : Str → Option Value} {k j : Nat} {A : Around} {I : Ix} {Ψ : Flow → Shared → Prop}
theorem jb.keeps {env : Env} {h h' : Heap} {x : Str} {y : Value} (v : jb env m h x y) (hc : ∀ c v, env.cells.lookup x = some c → h.IsCell c v → h'.IsCell c v) : jb env m h' x y := by
 rcases v with v | ⟨k, c, e, i⟩
 ·exact .inl v
 ·exact .inr ⟨k, c, e, hc c _ e i⟩
theorem FSB.step (h : FSB G C σ X Y τ s F m) (wd : Wd G s') (hk : ∀ a o, s.heap.get? a = some o → ¬ G.gb a → s'.heap.get? a = some o) (hz : s.heap.objs.size ≤ s'.heap.objs.size)
  (hg : ∀ (i : Nat) (x : GenState), s.gens[i]? = some x → s'.gens[i]? = some x) (hgz : s.gens.size ≤ s'.gens.size) (hle : F.le F') (hf : ∀ a o, F' a = some o → F a = some o ∨ (s'.heap.get? a = some o ∧ s.heap.objs.size ≤ a)) (hτ : τ'.p F') :
  FSB G C σ X Y τ' s' F' m := by
 have lt : ∀ {a : Addr} {o : Obj}, s.heap.get? a = some o → a < s.heap.objs.size := fun e => Heap.lt_size e
 have off : ∀ a, F a = none → a < s.heap.objs.size → F' a = none := fun a e l => by
  cases q : F' a with
  | none => rfl
  | some o =>
   rcases hf a o q with r | r
   ·rw [e] at r; cases r
   ·exact absurd l (Nat.not_lt.mpr r.2)
 have cellk : ∀ c v, s.heap.IsCell c v → G.H0.objs.size ≤ c → s'.heap.IsCell c v := fun c v ⟨o, ho, hd⟩ hc => ⟨o, hk _ _ ho (Gd.ef hc), hd⟩
 have L0 := h.eU h.loc.2
 exact {
  wd := wd
  kept := h.kept.trans ⟨fun a o e _ t => hk a o e t, hz, fun i x e _ => hg i x e, hgz⟩
  base := h.base
  xab := h.xab
  xgb := h.xgb
  le := h.le.trans hle
  fz := fun a o e => by
   rcases hf a o e with r | ⟨r1, r2⟩
   ·have := h.fz a o r
    exact ⟨hk _ _ this.1 this.2.1, this.2.1, this.2.2⟩
   ·exact ⟨r1, Gd.ef (Nat.le_trans h.wd.big r2), .inr (Nat.le_trans h.kept.size r2)⟩
  ns := let ⟨o, es, ep, ho, r⟩ := h.ns; ⟨o, es, ep, hk _ _ ho L0, r⟩
  loc := ⟨off _ h.loc.1 h.ns.lt, h.loc.2⟩
  fun_ := h.fun_
  glob := h.glob
  names := h.names
  vars := fun x v e => let ⟨y, a, b⟩ := h.vars x v e; ⟨y, a.keeps fun c v ec ic => cellk c v ic (h.cells x c ec).2.2.2.2, v.mono hle b⟩
  cells := fun x c e => by
   refine bx (h.cells x c e) fun nn0 b d => ?_; obtain ⟨v, iv⟩ := nn0
   exact ⟨⟨v, cellk c v iv d.2.2⟩, off _ b iv.lt, d⟩
  cellsInj := h.cellsInj
  own := fun p hp => let ⟨⟨o, a, r⟩, b, c, d⟩ := h.own p hp; ⟨⟨o, hk _ _ a (h.eU b), p.2.mono hle r⟩, b, off _ c (lt a), d⟩
  nodup := h.nodup
  gown := fun q hq => let ⟨⟨g, a, r⟩, b⟩ := h.gown q hq; ⟨⟨g, hg _ _ a, q.2.mono hle r⟩, b⟩
  ynd := h.ynd
  tmp := hτ }
theorem FSB.ui (h : FSB G C σ X Y τ s F m) {h' : Heap} {tk : Nat} (hn : h'.Ns C.L m') (hs : Heap.SameBut C.L s.heap h')
  (hnm : (σ'.map (·.1)).Nodup) (hv : ∀ x v, (x, some v) ∈ σ' → ∃ y, jb C.env m' s.heap x y ∧ v.p F y) : FSB G C σ' X Y τ ⟨h', s.gens, s.drawn, tk, s.os⟩ F m' := by
 have pL := h.dy h.loc.2
 have cellk : ∀ c v, c ≠ C.L → s.heap.IsCell c v → h'.IsCell c v := fun c v n i => i.sameBut hs n
 exact {
  wd := h.wd.same pL hs
  kept := ⟨fun a o e q t => (hs.2 a (fun z => by
    subst z
    rcases h.loc.2 with p | p
    ·exact absurd (Heap.lt_size e) (Nat.not_lt.mpr p)
    ·exact q p)).trans (h.kept.heap a o e q t), by rw [show (Shared.heap ⟨h', s.gens, s.drawn, tk, s.os⟩).objs.size = _ from hs.1]; exact h.kept.size, h.kept.gens, h.kept.gsize⟩
  base := h.base
  xab := h.xab
  xgb := h.xgb
  le := h.le
  fz := fun a o e => let ⟨x, y⟩ := h.fz a o e; ⟨(hs.2 a (fun z => by subst z; rw [h.loc.1] at e; cases e)).trans x, y⟩
  ns := hn
  loc := h.loc
  fun_ := h.fun_
  glob := h.glob
  names := hnm
  vars := fun x v e => let ⟨y, a, b⟩ := hv x v e; ⟨y, a.keeps fun c v ec ic => cellk c v (h.cells x c ec).2.2.2.1 ic, b⟩
  cells := fun x c e => let ⟨⟨v, iv⟩, b, d⟩ := h.cells x c e; ⟨⟨v, cellk c v d.2.1 iv⟩, b, d⟩
  cellsInj := h.cellsInj
  own := fun p hp => let ⟨⟨o, a, r⟩, b, c, d⟩ := h.own p hp; ⟨⟨o, (hs.2 _ d).trans a, r⟩, b, c, d⟩
  nodup := h.nodup
  gown := h.gown
  ynd := h.ynd
  tmp := h.tmp }
theorem FSB.setC (h : FSB G C σ X Y τ s F m) {x : Str} {c : Addr} {y : Value} {h' : Heap} {tk : Nat} (hx : C.env.cells.lookup x = some c) (hk : C.env.kindOf x = some .cell) (hp : C.ey c) (hn : h'.IsCell c (some y)) (hs : Heap.SameBut c s.heap h')
  {v : VP} (hu : Upd σ x v σ') (hv : v.p F y) : FSB G C σ' X Y τ ⟨h', s.gens, s.drawn, tk, s.os⟩ F m := by
 have hc := h.cells x c hx
 exact {
  wd := h.wd.same (h.dy hp) hs
  kept := ⟨fun a o e q t => (hs.2 a (fun z => by
    subst z
    rcases hp with p | p
    ·exact absurd (Heap.lt_size e) (Nat.not_lt.mpr p)
    ·exact q p)).trans (h.kept.heap a o e q t), by rw [show (Shared.heap ⟨h', s.gens, s.drawn, tk, s.os⟩).objs.size = _ from hs.1]; exact h.kept.size, h.kept.gens, h.kept.gsize⟩
  base := h.base
  xab := h.xab
  xgb := h.xgb
  le := h.le
  fz := fun a o e => let ⟨x, y⟩ := h.fz a o e; ⟨(hs.2 a (fun z => by subst z; rw [hc.2.1] at e; cases e)).trans x, y⟩
  ns := h.ns.sameBut hs (Ne.symm hc.2.2.2.1)
  loc := h.loc
  fun_ := h.fun_
  glob := h.glob
  names := by rw [hu.names]; exact h.names
  vars := fun z u e => by
   rcases hu.mem h.names _ e with q | ⟨e, q⟩
   ·cases q
    exact ⟨y, .inr ⟨.inl hk, c, hx, hn⟩, hv⟩
   ·refine ag (h.vars z u e) fun y' a b => ?_
    refine ⟨y', a.keeps fun c' v' ec ic => ic.sameBut hs (fun w => q ?_), b⟩
    subst w
    exact h.cellsInj _ _ _ ec hx
  cells := fun z c' e => by
   refine bx (h.cells z c' e) fun nn0 b d => ?_; obtain ⟨v', iv⟩ := nn0
   by_cases q : c' = c
   ·subst q; exact ⟨⟨_, hn⟩, b, d⟩
   ·exact ⟨⟨v', iv.sameBut hs q⟩, b, d⟩
  cellsInj := h.cellsInj
  own := fun p hq => let ⟨⟨o, a, r⟩, b, e, d⟩ := h.own p hq; ⟨⟨o, (hs.2 _ (fun w => hc.2.2.1 (w ▸ List.mem_map_of_mem hq))).trans a, r⟩, b, e, d⟩
  nodup := h.nodup
  gown := h.gown
  ynd := h.ynd
  tmp := h.tmp }
theorem fc {X₁ X₂ : List (Addr × OP)} {a : Addr} {o o' : OP} (hn : ((X₁ ++ (a, o) :: X₂).map (·.1)).Nodup) : (∀ p ∈ X₁, p.1 ≠ a) ∧ (∀ p ∈ X₂, p.1 ≠ a) ∧ ((X₁ ++ (a, o') :: X₂).map (·.1)).Nodup := by
 simp only [List.map_append, List.map_cons] at hn ⊢
 have h2 := List.nodup_append.mp hn
 refine ⟨fun p hp e => h2.2.2 _ (List.mem_map_of_mem hp) _ (.head _) e, fun p hp e => ?_, hn⟩
 have := (List.nodup_cons.mp h2.2.1).1
 exact this (e ▸ List.mem_map_of_mem hp)
theorem FSB.iM {X₁ X₂ : List (Addr × OP)} {a : Addr} {P P' : OP} {o' : Obj} (h : FSB G C σ (X₁ ++ (a, P) :: X₂) Y τ s F m) {h' : Heap} {tk : Nat} (hn : h'.get? a = some o') (hs : Heap.SameBut a s.heap h') (hP : P'.p F o') :
  FSB G C σ (X₁ ++ (a, P') :: X₂) Y τ ⟨h', s.gens, s.drawn, tk, s.os⟩ F m := by
 have ha := h.own (a, P) (by simp)
 refine bx (fc (o' := P') h.nodup) fun n1 n2 n3 => ?_
 have keys : (X₁ ++ (a, P') :: X₂).map (·.1) = (X₁ ++ (a, P) :: X₂).map (·.1) := by simp
 exact {
  wd := h.wd.same (h.dy ha.2.1) hs
  kept := ⟨fun b o e q t => (hs.2 b (fun z => by
    subst z
    rcases ha.2.1 with p | p
    ·exact absurd (Heap.lt_size e) (Nat.not_lt.mpr p)
    ·exact q p)).trans (h.kept.heap b o e q t), by rw [show (Shared.heap ⟨h', s.gens, s.drawn, tk, s.os⟩).objs.size = _ from hs.1]; exact h.kept.size, h.kept.gens, h.kept.gsize⟩
  base := h.base
  xab := h.xab
  xgb := h.xgb
  le := h.le
  fz := fun b o e => let ⟨x, y⟩ := h.fz b o e; ⟨(hs.2 b (fun z => by subst z; rw [ha.2.2.1] at e; cases e)).trans x, y⟩
  ns := h.ns.sameBut hs (Ne.symm ha.2.2.2)
  loc := h.loc
  fun_ := h.fun_
  glob := h.glob
  names := h.names
  vars := fun z u e => let ⟨y, b, d⟩ := h.vars z u e; ⟨y, b.keeps fun c v ec ic => ic.sameBut hs (fun w => (h.cells z c ec).2.2.1 (w ▸ by simp)), d⟩
  cells := fun z c e => by
   refine bx (h.cells z c e) fun nn0 b d => ?_; obtain ⟨v, iv⟩ := nn0
   exact ⟨⟨v, iv.sameBut hs (fun w => d.1 (w ▸ by simp))⟩, b, by rw [keys]; exact d⟩
  cellsInj := h.cellsInj
  own := fun p hp => by
   rcases List.mem_append.mp hp with hp | hp
   ·obtain ⟨⟨o, a', r⟩, t⟩ := h.own p (List.mem_append_left _ hp)
    exact ⟨⟨o, (hs.2 _ (n1 p hp)).trans a', r⟩, t⟩
   ·rcases List.mem_cons.mp hp with rfl | hp
    ·exact ⟨⟨o', hn, hP⟩, ha.2⟩
    ·obtain ⟨⟨o, a', r⟩, t⟩ := h.own p (List.mem_append_right _ (.tail _ hp))
     exact ⟨⟨o, (hs.2 _ (n2 p hp)).trans a', r⟩, t⟩
  nodup := n3
  gown := h.gown
  ynd := h.ynd
  tmp := h.tmp }
theorem FSB.jZ (h : FSB G C σ X Y τ s F m) {a : Addr} {o : Obj} {P : OP} (ho : s.heap.get? a = some o) (hP : P.p F o) (hp : C.ey a) (hF : F a = none) (hL : a ≠ C.L) (hX : a ∉ X.map (·.1)) (hC : ∀ x c, C.env.cells.lookup x = some c → c ≠ a) : FSB G C σ ((a, P) :: X) Y τ s F m :=
 { h with
  cells := fun x c e => let ⟨p, q, r, t⟩ := h.cells x c e; ⟨p, q, fun hm => by
   rw [List.map_cons] at hm
   rcases List.mem_cons.mp hm with hm | hm
   ·exact hC x c e hm
   ·exact r hm, t⟩
  own := fun p hq => by
   rcases List.mem_cons.mp hq with rfl | hq
   ·exact ⟨⟨o, ho, hP⟩, hp, hF, hL⟩
   ·exact h.own p hq
  nodup := by rw [List.map_cons]; exact List.nodup_cons.mpr ⟨hX, h.nodup⟩ }
theorem FSB.weak (h : FSB G C σ X Y τ s F m) (hnm : (σ'.map (·.1)).Nodup) (hσ : ∀ x v, (x, some v) ∈ σ' → ∃ u, (x, some u) ∈ σ ∧ ∀ F y, u.p F y → v.p F y) (hX : X'.Sublist X) (hY : Y'.Sublist Y) (hτ : ∀ F, τ.p F → τ'.p F) : FSB G C σ' X' Y' τ' s F m :=
 { h with
  names := hnm
  vars := fun x v e => let ⟨u, a, b⟩ := hσ x v e; let ⟨y, c, d⟩ := h.vars x u a; ⟨y, c, b _ _ d⟩
  cells := fun x c e => let ⟨p, q, r, t⟩ := h.cells x c e; ⟨p, q, fun hm => r ((hX.map _).subset hm), t⟩
  own := fun p hp => h.own p (hX.subset hp)
  nodup := h.nodup.sublist (hX.map _)
  gown := fun q hq => h.gown q (hY.subset hq)
  ynd := h.ynd.sublist (hY.map _)
  tmp := hτ _ h.tmp }
theorem FSB.freeze {X₁ X₂ : List (Addr × OP)} {a : Addr} {P : OP} (h : FSB G C σ (X₁ ++ (a, P) :: X₂) Y τ s F m) (hp : C.s₀.heap.objs.size ≤ a) :
  ∃ o F', P.p F o ∧ F' a = some o ∧ F.le F' ∧ FSB G C σ (X₁ ++ X₂) Y τ s F' m := by
 refine bY (h.own (a, P) (by simp)) fun nn0 hpr hFa hL => ?_; refine ag (nn0) fun o ho hPo => ?_
 refine bx (fc (o' := P) h.nodup) fun n1 n2 _ => ?_
 let F' : Fz := fun b => if b = a then some o else F b
 have hF : ∀ b, F' b = if b = a then some o else F b := fun _ => rfl
 have le : F.le F' := fun b x e => by
  rw [hF]
  by_cases q : b = a
  ·subst q; rw [hFa] at e; cases e
  ·rw [if_neg q]; exact e
 have ne : ∀ b, F b = none → b ≠ a → F' b = none := fun b e q => by rw [hF, if_neg q]; exact e
 have sub : (X₁ ++ X₂).Sublist (X₁ ++ (a, P) :: X₂) := List.Sublist.append (List.Sublist.refl _) (List.sublist_cons_self _ _)
 exact ⟨o, F', hPo, by rw [hF, if_pos rfl], le, { h with
  le := h.le.trans le
  fz := fun b x e => by
   rw [hF] at e
   by_cases q : b = a
   ·subst q
    rw [if_pos rfl] at e
    cases e
    exact ⟨ho, h.eU hpr, .inr hp⟩
   ·rw [if_neg q] at e; exact h.fz b x e
  loc := ⟨ne _ h.loc.1 (Ne.symm hL), h.loc.2⟩
  vars := fun x v e => let ⟨y, b, c⟩ := h.vars x v e; ⟨y, b, v.mono le c⟩
  cells := fun x c e => let ⟨p, q, r, t⟩ := h.cells x c e; ⟨p, ne _ q (fun w => r (w ▸ by simp)), fun hm => r ((sub.map _).subset hm), t⟩
  own := fun p hq => by
   have hm := sub.subset hq
   refine bY (h.own p hm) fun nn0 t1 t2 t3 => ?_; refine ag (nn0) fun o' a' r => ?_
   refine ⟨⟨o', a', p.2.mono le r⟩, t1, ne _ t2 ?_, t3⟩
   rcases List.mem_append.mp hq with hq | hq
   ·exact n1 p hq
   ·exact n2 p hq
  nodup := h.nodup.sublist (sub.map _)
  gown := fun q hq => let ⟨⟨g, a, r⟩, b⟩ := h.gown q hq; ⟨⟨g, a, q.2.mono le r⟩, b⟩
  tmp := τ.mono le h.tmp }⟩
noncomputable def AOk (k : Nat) (A : Around) : Prop := A.handled = none ∧ A.guards = some [] ∧ A.depth + 3 * k + 10 < recursionLimit ∧ A.units + 20 * k + 100 < cLine
theorem AOk.le (h : AOk k A) (l : j ≤ k) : AOk j A := ⟨h.1, h.2.1, by have := h.2.2.1; omega, by have := h.2.2.2; omega⟩
theorem AOk.room (h : AOk k A) : A.depth < recursionLimit := by have := h.2.2.1; omega
theorem AOk.hand (h : AOk k A) : A.handled = none := h.1
theorem AOk.in1 (h : AOk (k + 1) A) : AOk k A.in1 := ⟨h.1, h.2.1, by show A.depth + _ + _ < _; have := h.2.2.1; omega, by show A.units + 1 + _ + _ < _; have := h.2.2.2; omega⟩
theorem AOk.deeper {env : Env} (h : AOk (k + 1) A) : AOk k (A.deeper env) := ⟨h.1, h.2.1, by show A.depth + 1 + _ + _ < _; have := h.2.2.1; omega, by show A.units + 3 + _ + _ < _; have := h.2.2.2; omega⟩
theorem AOk.mark (h : AOk k A) : AOk k (A.mark none) := ⟨by show (none : Option Value).or A.handled = none; rw [h.1]; rfl, h.2.1, h.2.2.1, h.2.2.2⟩
noncomputable abbrev ff : Value → Shared → Prop := fun _ _ => False
theorem up {α : Type} {M : Model} {A : Around} {t : Sem α} {Q : α → Shared → Prop} {E : Value → Shared → Prop} {s : Shared} (h : wpAny M A t Q ff s) : wpAny M A t Q E s := wpAny_mono h (iz) fun _ _ q => q.elim
noncomputable def vInt (i : Int) : VP := ⟨fun _ y => ∃ t, y = .int i t, fun _ h => h⟩
noncomputable def vBool (b : Bool) : VP := ⟨fun _ y => y = .bool b, fun _ h => h⟩
noncomputable def cT : VP := ⟨fun _ y => y = .none, fun _ h => h⟩
noncomputable def vStr (x : Str) : VP := ⟨fun _ y => ∃ t, y = .str x t, fun _ h => h⟩
noncomputable def vIs (v : Value) : VP := ⟨fun _ y => y = v, fun _ h => h⟩
noncomputable def e9 : VP := ⟨fun _ _ => True, fun _ h => h⟩
inductive Rel2 (F : Fz) : List VP → List Value → Prop where
 | nil : Rel2 F [] []
 | cons {v : VP} {y : Value} {l : List VP} {ys : List Value} : v.p F y → Rel2 F l ys → Rel2 F (v :: l) (y :: ys)
theorem Rel2.mono {F G : Fz} (h : F.le G) {l : List VP} {ys : List Value} (r : Rel2 F l ys) : Rel2 G l ys := by
 induction r with
 | nil => exact .nil
 | cons a _ ih => exact .cons (VP.mono _ h a) ih
theorem Rel2.length {F : Fz} {l : List VP} {ys : List Value} (r : Rel2 F l ys) : ys.length = l.length := by
 induction r with
 | nil => rfl
 | cons _ _ ih => simp [ih]
theorem Rel2.get {F : Fz} {l : List VP} {ys : List Value} (r : Rel2 F l ys) : ∀ {i : Nat} {v : VP}, l[i]? = some v → ∃ y, ys[i]? = some y ∧ v.p F y := by
 induction r with
 | nil => intro i v e; simp at e
 | cons a _ ih =>
  intro i v e
  cases i with
  | zero => simp at e; subst e; exact ⟨_, rfl, a⟩
  | succ i => simpa using ih (by simpa using e)
theorem Rel2.append {F : Fz} {l l' : List VP} {ys ys' : List Value} (r : Rel2 F l ys) (r' : Rel2 F l' ys') : Rel2 F (l ++ l') (ys ++ ys') := by
 induction r with
 | nil => exact r'
 | cons a _ ih => exact .cons a ih
noncomputable def d9 (ys : List Value) (n : Nat) : Obj := { cls := .type "list", dict := none, data := .seq ys.toArray n, slots := #[] }
noncomputable def eK (ys : List Value) : Obj := { cls := .type "tuple", dict := none, data := .seq ys.toArray 0, slots := #[] }
inductive l7 (l : List VP) (F : Fz) (y : Value) : Prop
 | mk (a : Addr) (ys : List Value) (n : Nat) (e : y = .ref a) (h : F a = some (d9 ys n)) (r : Rel2 F l ys) : l7 l F y
noncomputable def ae (l : List VP) : VP := ⟨fun F y => l7 l F y, fun h ⟨a, ys, n, e, x, r⟩ => ⟨a, ys, n, e, h _ _ x, r.mono h⟩⟩
inductive nD (l : List VP) (F : Fz) (y : Value) : Prop
 | mk (a : Addr) (ys : List Value) (e : y = .ref a) (h : F a = some (eK ys)) (r : Rel2 F l ys) : nD l F y
noncomputable def aQ (l : List VP) : VP := ⟨fun F y => nD l F y, fun h ⟨a, ys, e, x, r⟩ => ⟨a, ys, e, h _ _ x, r.mono h⟩⟩
theorem FS.wk (h : FS G I τ s) (hτ : ∀ F, τ.p F → τ'.p F) : FS G I τ' s := let ⟨F, m, x⟩ := h; ⟨F, m, { x with tmp := hτ _ x.tmp }⟩
theorem FS.wd (h : FS G I τ s) : Wd G s := let ⟨_, _, x⟩ := h; x.wd
theorem FS.grow (h : FS G I τ s) {h' : Heap} {tk : Nat} (hk : ∀ b o, s.heap.get? b = some o → h'.get? b = some o) (hz : s.heap.objs.size ≤ h'.objs.size) : FS G I τ ⟨h', s.gens, s.drawn, tk, s.os⟩ := by
 obtain ⟨F, m, x⟩ := h
 exact ⟨F, m, x.step (x.wd.keeps hk hz x.wd.bare) (fun a o e _ => hk a o e) hz (iz) (Nat.le_refl _) (Fz.le.refl _) (fun a o e => .inl e) x.tmp⟩
theorem FS.toks (h : FS G I τ s) {tk : Nat} : FS G I τ ⟨s.heap, s.gens, s.drawn, tk, s.os⟩ := h.grow (iz) (Nat.le_refl _)
theorem FS.made (h : FS G I τ s) {h' : Heap} {tk : Nat} (hk : ∀ b o, s.heap.get? b = some o → h'.get? b = some o) (hz : s.heap.objs.size ≤ h'.objs.size)
  (hτ : ∀ F F' : Fz, τ.p F' → F.le F' → (∀ a o, F a = some o → s.heap.get? a = some o) → (∀ a o, h'.get? a = some o → s.heap.objs.size ≤ a → F' a = some o) → τ'.p F') : FS G I τ' ⟨h', s.gens, s.drawn, tk, s.os⟩ := by
 obtain ⟨F, m, x⟩ := h
 let F' : Fz := fun a => if s.heap.objs.size ≤ a then h'.get? a else F a
 have le : F.le F' := fun a o e => by
  show (if s.heap.objs.size ≤ a then h'.get? a else F a) = some o
  have := Heap.lt_size (x.fz a o e).1
  rw [if_neg (Nat.not_le.mpr this)]; exact e
 refine ⟨F', m, x.step (x.wd.keeps hk hz x.wd.bare) (fun a o e _ => hk a o e) hz (iz) (Nat.le_refl _) le (fun a o e => ?_) (hτ F F' (τ.mono le x.tmp) le (fun a o e => (x.fz a o e).1) fun a o e l => ?_)⟩
 ·by_cases q : s.heap.objs.size ≤ a
  ·have e' : (if s.heap.objs.size ≤ a then h'.get? a else F a) = some o := e
   rw [if_pos q] at e'
   exact .inr ⟨e', q⟩
  ·have e' : (if s.heap.objs.size ≤ a then h'.get? a else F a) = some o := e
   rw [if_neg q] at e'
   exact .inl e'
 ·show (if s.heap.objs.size ≤ a then h'.get? a else F a) = some o
  rw [if_pos l]; exact e
noncomputable def EvT (G : Gd) (k : Nat) (C : Cx) (σ : Sto) (e : Expr) (v : VP) : Prop :=
 ∀ A X Y τ s, AOk k A → FS G ⟨C, σ, X, Y⟩ τ s → wpAny G.M A (eval e C.env) (fun y s' => FS G ⟨C, σ, X, Y⟩ (τ.and (v.at y)) s') ff s
noncomputable def TsT (G : Gd) (k : Nat) (C : Cx) (σ : Sto) (e : Expr) (b : Bool) : Prop :=
 ∀ A X Y τ s, AOk k A → FS G ⟨C, σ, X, Y⟩ τ s → wpAny G.M A (isTrue e C.env (eval e C.env)) (fun b' s' => b' = b ∧ FS G ⟨C, σ, X, Y⟩ τ s') ff s
noncomputable def cN (G : Gd) (k : Nat) (op : Operator) (va vb vr : VP) : Prop :=
 ∀ I A τ s a b, AOk k A → FS G I τ s → (∀ F, τ.p F → va.p F a ∧ vb.p F b) → wpAny G.M A (binaryOp op a b) (fun y s' => FS G I (τ.and (vr.at y)) s') ff s
noncomputable def aY (G : Gd) (k : Nat) (op : CmpOp) (va vb vr : VP) : Prop :=
 ∀ I A τ s a b, AOk k A → FS G I τ s → (∀ F, τ.p F → va.p F a ∧ vb.p F b) → wpAny G.M A (compareOp op a b) (fun y s' => FS G I (τ.and (vr.at y)) s') ff s
noncomputable def UnT (G : Gd) (k : Nat) (op : UnaryOp) (va vr : VP) : Prop :=
 ∀ I A τ s a, AOk k A → FS G I τ s → (∀ F, τ.p F → va.p F a) → wpAny G.M A (unaryOp op a) (fun y s' => FS G I (τ.and (vr.at y)) s') ff s
noncomputable def d6 (G : Gd) (k : Nat) (va : VP) (b : Bool) : Prop :=
 ∀ I A τ s a, AOk k A → FS G I τ s → (∀ F, τ.p F → va.p F a) → wpAny G.M A (truthy a) (fun b' s' => b' = b ∧ FS G I τ s') ff s
theorem FS.tau (h : FS G I τ s) : ∃ F, τ.p F := let ⟨F, _, x⟩ := h; ⟨F, x.tmp⟩
theorem FS.take (h : FS G I τ s) {P : Prop} (hp : ∀ F, τ.p F → P) : P := let ⟨F, e⟩ := h.tau; hp F e
theorem gY {x : Str} {v : VP} (hx : (x, some v) ∈ σ) (h : FS G ⟨C, σ, X, Y⟩ τ s) (hn : autoParam ((x == ("__classdict__" : Str)) = false) tcD) : wpAny G.M A (loadName C.env x) (fun y s' => FS G ⟨C, σ, X, Y⟩ (τ.and (v.at y)) s') ff s := by
 obtain ⟨F, m, w⟩ := h
 refine ag (w.vars x v hx) fun y va vp => ?_
 have fin : FS G ⟨C, σ, X, Y⟩ (τ.and (v.at y)) s := ⟨F, m, { w with tmp := ⟨w.tmp, vp⟩ }⟩
 rcases va with ⟨hk, hm⟩ | ⟨hk | hk, c, hc, hi⟩
 ·exact wpAny_loadName_local w.fun_ hk w.ns hm fin
 ·exact wpAny_loadName_cell w.fun_ hk hc hi fin
 ·exact wpAny_loadName_free w.fun_ hk hc hi fin hn
theorem EvT.var {x : Str} {v : VP} {p : Pos} (hx : (x, some v) ∈ σ) (hd : autoParam ((x == ("__debug__" : Str)) = false) tcD) (hn : autoParam ((x == ("__classdict__" : Str)) = false) tcD) : EvT G k C σ (.Name x p) v :=
 fun _ _ _ _ _ _ h => wpAny_Name (gY hx h hn) hd
theorem EvT.int {i : Int} {kk : Nat} {p : Pos} : EvT G k C σ (.Constant (.int i) kk p) (vInt i) := fun _ _ _ _ _ _ h =>
 wpAny_Constant_int (h.toks.wk fun _ x => ⟨x, _, rfl⟩)
theorem EvT.none_ {kk : Nat} {p : Pos} : EvT G k C σ (.Constant .none kk p) cT := fun _ _ _ _ _ _ h => wpAny_Constant_none (h.wk fun _ x => ⟨x, rfl⟩)
theorem EvT.bool {b : Bool} {kk : Nat} {p : Pos} : EvT G k C σ (.Constant (.bool b) kk p) (vBool b) := fun _ _ _ _ _ _ h => wpAny_Constant_bool (h.wk fun _ x => ⟨x, rfl⟩)
theorem EvT.str {x : Str} {kk : Nat} {p : Pos} : EvT G k C σ (.Constant (.str x) kk p) (vStr x) := fun _ _ _ _ _ _ h =>
 wpAny_Constant_str (h.toks.wk fun _ x => ⟨x, _, rfl⟩)
theorem EvT.bin {a b : Expr} {op : Operator} {p : Pos} {va vb vr : VP} (ha : EvT G k C σ a va) (hb : EvT G k C σ b vb) (ho : cN G k op va vb vr) : EvT G k C σ (.BinOp a op b p) vr := by
 intro A X Y τ s hA h
 refine wpAny_BinOp (wpAny_mono (ha A X Y τ s hA h) (fun y s₁ h₁ => ?_) iz)
 refine wpAny_mono (hb A X Y _ s₁ hA h₁) (fun z s₂ h₂ => ?_) iz
 refine wpAny_mono (ho _ A _ s₂ y z hA h₂ fun F q => ⟨q.1.2, q.2⟩) (fun r s₃ h₃ => ?_) iz
 exact h₃.wk fun F q => ⟨q.1.1.1, q.2⟩
theorem EvT.cmp {a b : Expr} {op : CmpOp} {p : Pos} {va vb vr : VP} (ha : EvT G k C σ a va) (hb : EvT G k C σ b vb) (ho : aY G k op va vb vr) (hm : behindInMarks op b = false := by with_unfolding_all rfl) :
  EvT G k C σ (.Compare a [op] [b] p) vr := by
 intro A X Y τ s hA h
 refine wpAny_Compare1 (wpAny_mono (ha A X Y τ s hA h) (fun y s₁ h₁ => ?_) iz) hm
 refine wpAny_mono (hb A X Y _ s₁ hA h₁) (fun z s₂ h₂ => ?_) iz
 refine wpAny_mono (ho _ A _ s₂ y z hA h₂ fun F q => ⟨q.1.2, q.2⟩) (fun r s₃ h₃ => ?_) iz
 exact h₃.wk fun F q => ⟨q.1.1.1, q.2⟩
theorem EvT.un {a : Expr} {op : UnaryOp} {p : Pos} {va vr : VP} (ha : EvT G k C σ a va) (ho : UnT G k op va vr) : EvT G k C σ (.UnaryOp op a p) vr := by
 intro A X Y τ s hA h
 refine wpAny_UnaryOp (wpAny_mono (ha A X Y τ s hA h) (fun y s₁ h₁ => ?_) iz)
 refine wpAny_mono (ho _ A _ s₁ y hA h₁ fun F q => q.2) (fun r s₃ h₃ => ?_) iz
 exact h₃.wk fun F q => ⟨q.1.1, q.2⟩
theorem TsT.cmp {a b : Expr} {op : CmpOp} {p : Pos} {va vb vr : VP} {t : Bool} (ha : EvT G k C σ a va) (hb : EvT G k C σ b vb) (ho : aY G k op va vb vr) (ht : d6 G k vr t) (hm : behindInMarks op b = false := by with_unfolding_all rfl) :
  TsT G k C σ (.Compare a [op] [b] p) t := by
 intro A X Y τ s hA h
 refine wpAny_isTrue_Compare1 (wpAny_mono (ha A X Y τ s hA h) (fun y s₁ h₁ => ?_) iz) hm
 refine wpAny_mono (hb A X Y _ s₁ hA h₁) (fun z s₂ h₂ => ?_) iz
 refine wpAny_mono (ho _ A _ s₂ y z hA h₂ fun F q => ⟨q.1.2, q.2⟩) (fun r s₃ h₃ => ?_) iz
 refine wpAny_mono (ht _ A _ s₃ r hA h₃ fun F q => q.2) (fun b' s₄ h₄ => ?_) iz
 exact ⟨h₄.1, h₄.2.wk fun F q => q.1.1.1⟩
theorem TsT.iQ {a : Expr} {p : Pos} {b : Bool} (ha : TsT G k C σ a b) : TsT G k C σ (.UnaryOp .Not a p) (!b) := by
 intro A X Y τ s hA h
 exact wpAny_isTrue_Not (wpAny_mono (ha A X Y τ s hA h) (fun y s₁ h₁ => ⟨by rw [h₁.1], h₁.2⟩) iz)
theorem TsT.val {e : Expr} {v : VP} {b : Bool} (he : EvT G k C σ e v) (ht : d6 G k v b) (hs : ∀ whole, isTrue e C.env whole = (do let v ← whole; standAt e.pos; holding [v] (truthy v)) := by intro _; rfl) : TsT G k C σ e b := by
 intro A X Y τ s hA h
 refine wpAny_isTrue_value (wpAny_mono (he A X Y τ s hA h) (fun y s₁ h₁ => ?_) iz) (hs _)
 exact wpAny_mono (ht _ A _ s₁ y hA h₁ fun F q => q.2) (fun b' s₄ h₄ => ⟨h₄.1, h₄.2.wk fun F q => q.1⟩) iz
theorem TsT.j3 {a b : Expr} {p : Pos} {x y : Bool} (ha : TsT G k C σ a x) (hb : x = true → TsT G k C σ b y) : TsT G k C σ (.BoolOp .And [a, b] p) (x && y) := by
 intro A X Y τ s hA h
 refine wpAny_isTrue_BoolOp (wpAny_allTrue_And_cons (wpAny_mono (ha A X Y τ s hA h) (fun b' s₁ h₁ => ?_) iz))
 obtain ⟨rfl, h₁⟩ := h₁
 cases b' with
 | false => exact ⟨rfl, h₁⟩
 | true =>
  show wpAny _ _ _ _ _ _
  refine wpAny_allTrue_And_cons (wpAny_mono (hb rfl A X Y τ s₁ hA h₁) (fun b' s₂ h₂ => ?_) iz)
  obtain ⟨rfl, h₂⟩ := h₂
  cases b' with
  | false => exact ⟨rfl, h₂⟩
  | true => exact wpAny_allTrue_And_nil ⟨rfl, h₂⟩
theorem TsT.or_ {a b : Expr} {p : Pos} {x y : Bool} (ha : TsT G k C σ a x) (hb : x = false → TsT G k C σ b y) : TsT G k C σ (.BoolOp .Or [a, b] p) (x || y) := by
 intro A X Y τ s hA h
 refine wpAny_isTrue_BoolOp (wpAny_allTrue_Or_cons (wpAny_mono (ha A X Y τ s hA h) (fun b' s₁ h₁ => ?_) iz))
 obtain ⟨rfl, h₁⟩ := h₁
 cases b' with
 | true => exact ⟨rfl, h₁⟩
 | false =>
  show wpAny _ _ _ _ _ _
  refine wpAny_allTrue_Or_cons (wpAny_mono (hb rfl A X Y τ s₁ hA h₁) (fun b' s₂ h₂ => ?_) iz)
  obtain ⟨rfl, h₂⟩ := h₂
  cases b' with
  | true => exact ⟨rfl, h₂⟩
  | false => exact wpAny_allTrue_Or_nil ⟨rfl, h₂⟩
theorem EvT.ifx {t a b : Expr} {p : Pos} {c : Bool} {v : VP} (ht : TsT G k C σ t c) (ha : c = true → EvT G k C σ a v) (hb : c = false → EvT G k C σ b v) : EvT G k C σ (.IfExp t a b p) v := by
 intro A X Y τ s hA h
 refine wpAny_IfExp (wpAny_mono (ht A X Y τ s hA h) (fun b' s₁ h₁ => ?_) iz)
 obtain ⟨rfl, h₁⟩ := h₁
 cases b' with
 | true => exact ha rfl A X Y τ s₁ hA h₁
 | false => exact hb rfl A X Y τ s₁ hA h₁
theorem EvT.orR {a b : Expr} {p : Pos} {va v : VP} {c : Bool} (ha : EvT G k C σ a va) (ht : d6 G k va c) (h1 : c = true → va = v) (h2 : c = false → EvT G k C σ b v) : EvT G k C σ (.BoolOp .Or [a, b] p) v := by
 intro A X Y τ s hA h
 refine wpAny_Or2 (wpAny_mono (ha A X Y τ s hA h) (fun y s₁ h₁ => ?_) iz)
 refine wpAny_mono (ht _ A _ s₁ y hA h₁ fun F q => q.2) (fun b' s₂ h₂ => ?_) iz
 obtain ⟨rfl, h₂⟩ := h₂
 cases b' with
 | true => rw [← h1 rfl]; exact h₂
 | false => exact wpAny_mono (h2 rfl A X Y τ s₂ hA (h₂.wk fun F q => q.1)) (iz) iz
theorem dD {op : Operator} {i j r : Int} (h : ∀ (A : Around) (s : Shared) (t u : Tok) (Q : Value → Shared → Prop), Q (.int r s.toks) { s with toks := s.toks + 1 } → wpAny G.M A (binaryOp op (.int i t) (.int j u)) Q ff s) : cN G k op (vInt i) (vInt j) (vInt r) := by
 intro I A τ s a b hA hs hab
 obtain ⟨⟨t, rfl⟩, u, rfl⟩ := hs.take (P := (∃ t, a = .int i t) ∧ ∃ t, b = .int j t) hab
 exact h A s t u _ (hs.toks.wk fun _ x => ⟨x, _, rfl⟩)
theorem cN.add {i j : Int} : cN G k .Add (vInt i) (vInt j) (vInt (i + j)) := dD fun _ _ _ _ _ q => add_int q
theorem cN.sub {i j : Int} : cN G k .Sub (vInt i) (vInt j) (vInt (i - j)) := dD fun _ _ _ _ _ q => sub_int q
theorem cN.mul {i j : Int} (h : IntMulOk i j) : cN G k .Mult (vInt i) (vInt j) (vInt (i * j)) := dD fun _ _ _ _ _ q => mul_int q h
theorem cN.div {i j : Int} (hj : j ≠ 0) (h : Builtin.divisionGoesByPylong i j = false) : cN G k .FloorDiv (vInt i) (vInt j) (vInt (i.fdiv j)) := dD fun _ _ _ _ _ q => floordiv_int hj q (.inl h)
theorem cN.mod {i j : Int} (hj : j ≠ 0) : cN G k .Mod (vInt i) (vInt j) (vInt (i.fmod j)) := dD fun _ _ _ _ _ q => mod_int' hj q
theorem cN.qJ {i j : Int} : cN G k .BitAnd (vInt i) (vInt j) (vInt (Builtin.bitAnd i j)) := dD fun _ _ _ _ _ q => and_int q
theorem cN.shr {i j : Int} (hj : 0 ≤ j) : cN G k .RShift (vInt i) (vInt j) (vInt (i.fdiv (2 ^ j.toNat))) := dD fun _ _ _ _ _ q => rshift_int hj q
theorem cN.pow {i j : Int} (h1 : 0 ≤ j) (h2 : j ≤ 1000000) (h3 : i.natAbs < 2 ^ 64) : cN G k .Pow (vInt i) (vInt j) (vInt (i ^ j.toNat)) := dD fun _ _ _ _ _ q => pow_int_small h1 h2 h3 q
theorem eS {op : CmpOp} {i j : Int} {b : Bool} (h : ∀ (A : Around) (s : Shared) (t u : Tok) (Q : Value → Shared → Prop), Q (.bool b) s → wpAny G.M A (compareOp op (.int i t) (.int j u)) Q ff s) : aY G k op (vInt i) (vInt j) (vBool b) := by
 intro I A τ s a b hA hs hab
 obtain ⟨⟨t, rfl⟩, u, rfl⟩ := hs.take (P := (∃ t, a = .int i t) ∧ ∃ t, b = .int j t) hab
 exact h A s t u _ (hs.wk fun _ x => ⟨x, rfl⟩)
theorem aY.eq {i j : Int} : aY G k .Eq (vInt i) (vInt j) (vBool (i == j)) := eS fun _ _ _ _ _ q => eq_int q
theorem aY.ne {i j : Int} : aY G k .NotEq (vInt i) (vInt j) (vBool (i != j)) := eS fun _ _ _ _ _ q => ne_int q
theorem aY.lt {i j : Int} : aY G k .Lt (vInt i) (vInt j) (vBool (decide (i < j))) := eS fun _ _ _ _ _ q => lt_int q
theorem aY.le {i j : Int} : aY G k .LtE (vInt i) (vInt j) (vBool (decide (i ≤ j))) := eS fun _ _ _ _ _ q => le_int q
theorem aY.gt {i j : Int} : aY G k .Gt (vInt i) (vInt j) (vBool (decide (j < i))) := eS fun _ _ _ _ _ q => gt_int q
theorem aY.ge {i j : Int} : aY G k .GtE (vInt i) (vInt j) (vBool (decide (j ≤ i))) := eS fun _ _ _ _ _ q => ge_int q
theorem aY.eqS {x y : Str} : aY G k .Eq (vStr x) (vStr y) (vBool (x == y)) := by
 intro I A τ s a b hA hs hab
 obtain ⟨⟨t, rfl⟩, u, rfl⟩ := hs.take (P := (∃ t, a = .str x t) ∧ ∃ t, b = .str y t) hab
 exact eq_str (hs.wk fun _ x => ⟨x, rfl⟩)
theorem aY.eqB {x y : Bool} : aY G k .Eq (vBool x) (vBool y) (vBool (x == y)) := by
 intro I A τ s a b hA hs hab
 obtain ⟨rfl, rfl⟩ := hs.take (P := a = .bool x ∧ b = .bool y) hab
 exact eq_bool (hs.wk fun _ x => ⟨x, rfl⟩)
noncomputable def VP.kS (v : VP) : Prop := ∀ F y, v.p F y → y ≠ .none
theorem aY.isN : aY G k .Is cT cT (vBool true) := by
 intro I A τ s a b hA hs hab
 obtain ⟨rfl, rfl⟩ := hs.take (P := a = .none ∧ b = .none) hab
 exact is_none (hs.wk fun _ x => ⟨x, rfl⟩)
theorem aY.lH {v : VP} (hv : v.kS) : aY G k .Is v cT (vBool false) := by
 intro I A τ s a b hA hs hab
 have hb : b = .none := hs.take fun F q => (hab F q).2
 have ha : a ≠ .none := hs.take fun F q => hv F a (hab F q).1
 subst hb
 exact is_none (hs.wk fun _ x => ⟨x, by rw [show (a == Value.none) = false from beq_eq_false_iff_ne.mpr ha]; rfl⟩)
theorem aY.oh : aY G k .IsNot cT cT (vBool false) := by
 intro I A τ s a b hA hs hab
 obtain ⟨rfl, rfl⟩ := hs.take (P := a = .none ∧ b = .none) hab
 exact isNot_none (hs.wk fun _ x => ⟨x, rfl⟩)
theorem aY.rO {v : VP} (hv : v.kS) : aY G k .IsNot v cT (vBool true) := by
 intro I A τ s a b hA hs hab
 have hb : b = .none := hs.take fun F q => (hab F q).2
 have ha : a ≠ .none := hs.take fun F q => hv F a (hab F q).1
 subst hb
 exact isNot_none (hs.wk fun _ x => ⟨x, by rw [show (a == Value.none) = false from beq_eq_false_iff_ne.mpr ha]; rfl⟩)
theorem hW {i : Int} : (vInt i).kS := fun _ _ ⟨_, e⟩ => by rw [e]; intro h; cases h
theorem d6.bool {b : Bool} : d6 G k (vBool b) b := by
 intro I A τ s a hA hs ha
 obtain rfl := hs.take (P := a = .bool b) ha
 exact wpAny_truthy_bool ⟨rfl, hs⟩
theorem d6.int {i : Int} : d6 G k (vInt i) (i != 0) := by
 intro I A τ s a hA hs ha
 obtain ⟨t, rfl⟩ := hs.take (P := ∃ t, a = .int i t) ha
 exact truthy_int ⟨rfl, hs⟩
theorem UnT.neg {i : Int} : UnT G k .USub (vInt i) (vInt (-i)) := by
 intro I A τ s a hA hs ha
 obtain ⟨t, rfl⟩ := hs.take (P := ∃ t, a = .int i t) ha
 exact neg_int (hs.toks.wk fun _ x => ⟨x, _, rfl⟩)
theorem UnT.iQ {v : VP} {b : Bool} (h : d6 G k v b) : UnT G k .Not v (vBool (!b)) := by
 intro I A τ s a hA hs ha
 exact not_value (wpAny_mono (h I A τ s a hA hs ha) (fun b' s₁ h₁ => h₁.2.wk fun F q => ⟨q, by rw [h₁.1]; rfl⟩) iz)
theorem aO {α : Type} : ∀ {cs : List (Str × α)} {n : Str} {c : α}, (cs.map (·.1)).Nodup → (n, c) ∈ cs → cs.lookup n = some c
 | (n', c') :: cs, n, c, hnd, hm => by
  rw [List.map_cons, List.nodup_cons] at hnd
  rcases List.mem_cons.mp hm with e | hm
  ·cases e; simp
  ·have hne : n ≠ n' := fun e => hnd.1 (e ▸ List.mem_map_of_mem (f := (·.1)) hm)
   rw [List.lookup_cons, show (n == n') = false from beq_eq_false_iff_ne.mpr hne]
   exact aO hnd.2 hm
noncomputable def ExT (G : Gd) (k : Nat) (C : Cx) (σ : Sto) (X : List (Addr × OP)) (Y : List (Nat × GP)) (ss : List Stmt) (Ψ : Flow → Shared → Prop) : Prop :=
 ∀ A s, AOk k A → FS G ⟨C, σ, X, Y⟩ MP.tt s → wpAny G.M A (execs ss C.env) Ψ ff s
inductive j2 (G : Gd) (C : Cx) (v : VP) (fl : Flow) (s' : Shared) : Prop
 | mk (y : Value) (σ' : Sto) (X' : List (Addr × OP)) (Y' : List (Nat × GP)) (e : fl = .ret y) (h : FS G ⟨C, σ', X', Y'⟩ (v.at y) s') : j2 G C v fl s'
noncomputable def Cx.st (C : Cx) (x : Str) : Prop := C.env.kindOf x = some .local ∨ (C.env.kindOf x = some .cell ∧ ∃ c, C.env.cells.lookup x = some c ∧ C.ey c)
theorem bL {x : Str} {v : VP} {y : Value} {Q : Unit → Shared → Prop} (h : FS G ⟨C, σ, X, Y⟩ τ s) (hx : C.st x) (hv : ∀ F, τ.p F → v.p F y) (hu : Upd σ x v σ')
  (hQ : ∀ s', FS G ⟨C, σ', X, Y⟩ τ s' → Q () s') : wpAny G.M A (storeName C.env x y) Q ff s := by
 obtain ⟨F, m, w⟩ := h
 rcases hx with hl | ⟨hk, c, hc, hp⟩
 ·refine wpAny_storeName_local hl w.ns (fun h' hn hs => hQ _ ⟨F, _, w.ui hn hs (by rw [hu.names]; exact w.names) fun z u e => ?_⟩) (by rw [w.fun_]; rfl)
  rcases hu.mem w.names _ e with q | ⟨e, q⟩
  ·cases q
   exact ⟨y, .inl ⟨hl, by simp⟩, hv F w.tmp⟩
  ·refine ag (w.vars z u e) fun y' a b => ?_
   refine ⟨y', ?_, b⟩
   rcases a with ⟨a1, a2⟩ | a
   ·exact .inl ⟨a1, (if_neg q).trans a2⟩
   ·exact .inr a
 ·obtain ⟨⟨v₀, hi⟩, _⟩ := w.cells x c hc
  exact wpAny_storeName_cell w.fun_ hk hc hi fun h' hn hs => hQ _ ⟨F, m, w.setC hc hk hp hn hs hu (hv F w.tmp)⟩
theorem ExT.nil (h : ∀ s, FS G ⟨C, σ, X, Y⟩ MP.tt s → Ψ .next s) : ExT G k C σ X Y [] Ψ := fun _ _ _ hs => wpAny_execs_nil (h _ hs)
theorem ExT.assign {x : Str} {e : Expr} {v : VP} {p q : Pos} {rest : List Stmt} (he : EvT G k C σ e v) (hx : C.st x) (hu : Upd σ x v σ') (hr : ExT G k C σ' X Y rest Ψ)
  (hs : autoParam (swapsWith e (some (.Name x q)) p.line C.env = pure false) tcR) : ExT G k C σ X Y (.Assign [.Name x q] e p :: rest) Ψ := by
 intro A s hA h
 refine wpAny_execs_cons (wpAny_Assign_Name (wpAny_mono (he A X Y _ s hA h) (fun y s₁ h₁ => ?_) iz) hs)
 exact bL h₁ hx (fun F z => z.2) hu fun s' h' => hr A s' hA (h'.wk fun _ _ => trivial)
theorem ExT.ret {e : Expr} {v : VP} {p : Pos} {rest : List Stmt} (he : EvT G k C σ e v) (hq : ∀ y s, FS G ⟨C, σ, X, Y⟩ (v.at y) s → Ψ (.ret y) s) : ExT G k C σ X Y (.Return (some e) p :: rest) Ψ := by
 intro A s hA h
 exact wpAny_execs_cons (wpAny_Return_some (wpAny_mono (he A X Y _ s hA h) (fun y s₁ h₁ => hq y s₁ (h₁.wk fun _ z => z.2)) iz))
theorem j2.of {v : VP} {y : Value} (h : FS G ⟨C, σ, X, Y⟩ (v.at y) s) : j2 G C v (.ret y) s := ⟨y, σ, X, Y, rfl, h⟩
noncomputable def Th (G : Gd) (k : Nat) (C : Cx) (rest : List Stmt) (Ψ : Flow → Shared → Prop) : Flow → Shared → Prop := fun f s => match f with
 | .next => ∀ A, AOk k A → wpAny G.M A (execs rest C.env) Ψ ff s
 | f => Ψ f s
theorem ExT.th {rest : List Stmt} (h : ExT G k C σ X Y rest Ψ) : ExT G k C σ X Y [] (Th G k C rest Ψ) := .nil fun s hs A hA => h A s hA hs
theorem ExT.ifT {t : Expr} {body orelse rest : List Stmt} {p : Pos} (ht : TsT G k C σ t true) (hb : ExT G k C σ X Y body (Th G k C rest Ψ)) : ExT G k C σ X Y (.If t body orelse p :: rest) Ψ := by
 intro A s hA h
 refine wpAny_execs_cons (wpAny_If (wpAny_mono (ht A X Y _ s hA h) (fun b s₁ h₁ => ?_) iz))
 obtain ⟨rfl, h₁⟩ := h₁
 exact wpAny_mono (hb A s₁ hA h₁) (fun f s₂ h₂ => by cases f with | next => exact h₂ A hA | brk => exact h₂ | cont => exact h₂ | ret v => exact h₂) iz
theorem ExT.ifF {t : Expr} {body orelse rest : List Stmt} {p : Pos} (ht : TsT G k C σ t false) (hb : ExT G k C σ X Y orelse (Th G k C rest Ψ)) : ExT G k C σ X Y (.If t body orelse p :: rest) Ψ := by
 intro A s hA h
 refine wpAny_execs_cons (wpAny_If (wpAny_mono (ht A X Y _ s hA h) (fun b s₁ h₁ => ?_) iz))
 obtain ⟨rfl, h₁⟩ := h₁
 exact wpAny_mono (hb A s₁ hA h₁) (fun f s₂ h₂ => by cases f with | next => exact h₂ A hA | brk => exact h₂ | cont => exact h₂ | ret v => exact h₂) iz
theorem ExT.if_ {t : Expr} {body orelse rest : List Stmt} {p : Pos} {b : Bool} (ht : TsT G k C σ t b) (h1 : b = true → ExT G k C σ X Y body (Th G k C rest Ψ)) (h2 : b = false → ExT G k C σ X Y orelse (Th G k C rest Ψ)) : ExT G k C σ X Y (.If t body orelse p :: rest) Ψ := by
 cases b with
 | true => exact .ifT ht (h1 rfl)
 | false => exact .ifF ht (h2 rfl)
theorem ExT.weak {ss : List Stmt} {Ψ' : Flow → Shared → Prop} (h : ExT G k C σ X Y ss Ψ) (hΨ : ∀ f s, Ψ f s → Ψ' f s) : ExT G k C σ X Y ss Ψ' := fun A s hA hs => wpAny_mono (h A s hA hs) hΨ iz
theorem ExT.aug {x : Str} {op : Operator} {e : Expr} {v₀ v vr : VP} {p q : Pos} {rest : List Stmt} (h0 : (x, some v₀) ∈ σ) (he : EvT G k C σ e v)
  (ho : ∀ I A τ s a b, AOk k A → FS G I τ s → (∀ F, τ.p F → v₀.p F a ∧ v.p F b) → wpAny G.M A (inplaceOp op a b) (fun y s' => FS G I (τ.and (vr.at y)) s') ff s) (hx : C.st x) (hu : Upd σ x vr σ') (hr : ExT G k C σ' X Y rest Ψ)
  (hn : autoParam ((x == ("__classdict__" : Str)) = false) tcD) : ExT G k C σ X Y (.AugAssign (.Name x q) op e p :: rest) Ψ := by
 intro A s hA h
 refine wpAny_execs_cons (wpAny_AugAssign_Name (wpAny_mono (gY h0 h hn) (fun y s₁ h₁ => ?_) iz))
 refine wpAny_mono (he A X Y _ s₁ hA h₁) (fun z s₂ h₂ => ?_) iz
 refine wpAny_mono (ho _ A _ s₂ y z hA h₂ fun F q => ⟨q.1.2, q.2⟩) (fun r s₃ h₃ => ?_) iz
 exact bL h₃ hx (fun F z => z.2) hu fun s' h' => hr A s' hA (h'.wk fun _ _ => trivial)
noncomputable def av (sc : Scope) : List Str := (sc.names.filter fun p => p.2 == .local || p.2 == .cell).map (·.1)
theorem gV {kindOf : Str → Option NameKind} : ∀ {bs : List (Str × Value)} {x : Str} {m : Str → Option Value}, x ∉ bs.map (·.1) → bindL kindOf bs m x = m x
 | [], _, _, _ => rfl
 | (n, v) :: r, x, m, h => by
  rw [List.map_cons, List.mem_cons, not_or] at h
  unfold bindL
  rw [gV h.2]
  split
  ·exact if_neg h.1
  ·rfl
theorem iE {kindOf : Str → Option NameKind} : ∀ {bs : List (Str × Value)} {x : Str} {m : Str → Option Value}, x ∉ bs.map (·.1) → bindC kindOf bs m x = m x
 | [], _, _, _ => rfl
 | (n, v) :: r, x, m, h => by
  rw [List.map_cons, List.mem_cons, not_or] at h
  unfold bindC
  rw [iE h.2]
  split
  ·rfl
  ·exact if_neg h.1
theorem jo {kindOf : Str → Option NameKind} : ∀ {bs : List (Str × Value)} {x : Str} {y : Value} {m : Str → Option Value}, (bs.map (·.1)).Nodup → (x, y) ∈ bs → kindOf x = some .local → bindL kindOf bs m x = some y
 | (n, v) :: r, x, y, m, hn, hm, hk => by
  rw [List.map_cons, List.nodup_cons] at hn
  unfold bindL
  rcases List.mem_cons.mp hm with e | hm
  ·cases e
   rw [gV hn.1, if_pos hk]; simp
  ·exact jo hn.2 hm hk
theorem i7 {kindOf : Str → Option NameKind} : ∀ {bs : List (Str × Value)} {x : Str} {y : Value} {m : Str → Option Value}, (bs.map (·.1)).Nodup → (x, y) ∈ bs → kindOf x = some .cell → bindC kindOf bs m x = some y
 | (n, v) :: r, x, y, m, hn, hm, hk => by
  rw [List.map_cons, List.nodup_cons] at hn
  unfold bindC
  rcases List.mem_cons.mp hm with e | hm
  ·cases e
   rw [iE hn.1, if_neg (by rw [hk]; decide)]; simp
  ·exact i7 hn.2 hm hk
theorem Rel2.mem {F : Fz} {l : List VP} {ys : List Value} (r : Rel2 F l ys) : ∀ {pn : List Str} {x : Str} {v : VP}, (x, v) ∈ pn.zip l → ∃ y, (x, y) ∈ pn.zip ys ∧ v.p F y := by
 induction r with
 | nil => intro pn x v h; cases pn <;> simp at h
 | cons a _ ih =>
  intro pn x v h
  cases pn with
  | nil => simp at h
  | cons n pn =>
   rw [List.zip_cons_cons] at h ⊢
   rcases List.mem_cons.mp h with e | h
   ·cases e; exact ⟨_, .head _, a⟩
   ·refine ag (ih h) fun y p q => ?_; exact ⟨y, .tail _ p, q⟩
theorem aR {x : Str} : ∀ (names : List (Str × NameKind)) (n : Nat) (acc : List (Str × Addr)), (x, NameKind.cell) ∈ names ∨ (acc.lookup x).isSome = true → ((cellsFrom n names acc).lookup x).isSome = true
 | [], n, acc, h => by
  rcases h with h | h
  ·cases h
  ·exact h
 | (y, kd) :: r, n, acc, h => by
  unfold cellsFrom
  split
  ·rename_i hk
   refine aR r (n + 1) _ ?_
   rcases h with h | h
   ·rcases List.mem_cons.mp h with e | h
    ·cases e; right; simp
    ·exact .inl h
   ·right
    rw [List.lookup_cons]
    split
    ·rfl
    ·exact h
  ·rename_i hk
   refine aR r n _ ?_
   rcases h with h | h
   ·rcases List.mem_cons.mp h with e | h
    ·cases e; exact absurd rfl hk
    ·exact .inl h
   ·exact .inr h
noncomputable def FnT (G : Gd) (k : Nat) (f : Value) (pos : List VP) (kn : List Str) (kv : List VP) (v : VP) : Prop :=
 ∀ I A τ s ys zs, AOk k A → FS G I τ s → (∀ F, τ.p F → Rel2 F pos ys ∧ Rel2 F kv zs) → codeAny G.M A (.call f ⟨ys, kn.zip zs⟩) (fun r s' => ∃ y, r = .ok (.ret y) ∧ FS G I (τ.and (v.at y)) s') s
theorem FnT.call {G : Gd} {k : Nat} {f : Value} {pos : List VP} {kn : List Str} {kv : List VP} {v : VP} (h : FnT G k f pos kn kv v) {I : Ix} {A : Around} {τ : MP} {s : Shared} {ys zs : List Value} (hA : AOk k A) (hs : FS G I τ s) (hr : ∀ F, τ.p F → Rel2 F pos ys ∧ Rel2 F kv zs) :
  wpAny G.M A (call f ys (kn.zip zs)) (fun y s' => FS G I (τ.and (v.at y)) s') ff s :=
 wpAny_call (codeAny_mono (h I A τ s ys zs hA hs hr) fun r s' hp => by refine ag (hp) fun y re0 hf => ?_; subst re0; exact hf)
theorem Wd.lim {s : Shared} (x : Wd G s) : s.heap.NoLimit :=
 ⟨fun _ => none, ⟨_, #[], 0, x.K _ _ G.kst, rfl, by intro e he; simp at he, fun name => by simp [nsFind, findBy]⟩, rfl⟩
theorem FS.gq {τ' : MP} {s s' : Shared} {F : Fz} {fd : FuncData} {a : Addr} {pn : List Str} {bs : List Value} {bv : List VP} {σ0 : Sto} {xa xg : List Nat} {X0 : List (Addr × OP)} {Y0 : List (Nat × GP)}
  (wd : Wd G s) (hF : ∀ a o, F a = some o → s.heap.get? a = some o ∧ ¬ G.gb a) (hxa : ∀ a ∈ xa, G.H0.objs.size ≤ a ∧ a < s.heap.objs.size) (hxg : ∀ g ∈ xg, g < s.gens.size)
  (hX : ∀ p ∈ X0, (∃ o, s.heap.get? p.1 = some o ∧ p.2.p F o) ∧ p.1 ∈ xa ∧ F p.1 = none) (hXn : (X0.map (·.1)).Nodup) (hY : ∀ q ∈ Y0, (∃ g, s.gens[q.1]? = some g ∧ q.2.p F g) ∧ q.1 ∈ xg) (hYn : (Y0.map (·.1)).Nodup)
  (hg : fd.globals = mainGlobals ∧ fd.builtins = builtinsNs) (hk : fd.scope.kind = .function) (hnd : (fd.scope.names.map (·.1)).Nodup) (hpn : pn.Nodup) (hσn : σ0.map (·.1) = av fd.scope)
  (hσ : ∀ x v, (x, some v) ∈ σ0 → (x, v) ∈ pn.zip bv) (hr : Rel2 F bv bs) (hlen : bs.length = pn.length) (hτ : τ'.p F)
  (x : InCallC s (callEnvC fd s.heap.objs.size a).locals (bindL (callEnvC fd s.heap.objs.size a).kindOf (pn.zip bs) fun _ => none) (callEnvC fd s.heap.objs.size a).cells (bindC (callEnvC fd s.heap.objs.size a).kindOf (pn.zip bs) fun _ => none) s') :
  FS G ⟨⟨callEnvC fd s.heap.objs.size a, s, F, xa, xg⟩, σ0, X0, Y0⟩ τ' s' := by
 refine ez (x.done) fun h' tk re0 keep => ?_; subst re0
 have hz : s.heap.objs.size ≤ h'.objs.size := by
  have := x.toInCall.ns.lt
  exact Nat.le_of_lt (show s.heap.objs.size < h'.objs.size from this)
 have locs : ∀ n, n ∈ av fd.scope → (callEnvC fd s.heap.objs.size a).kindOf n = some .local ∨ (callEnvC fd s.heap.objs.size a).kindOf n = some .cell := fun n hn => by
  refine ag (List.mem_map.mp hn) fun p hp e => ?_
  have hp2 := List.mem_filter.mp hp
  have hl : fd.scope.names.lookup p.1 = some p.2 := aO hnd hp2.1
  subst e
  show fd.scope.names.lookup p.1 = _ ∨ fd.scope.names.lookup p.1 = _
  have q := hp2.2
  rw [hl]
  rcases Bool.or_eq_true_iff.mp q with q | q
  ·exact .inl (congrArg some (eq_of_beq q))
  ·exact .inr (congrArg some (eq_of_beq q))
 have nz : ((pn.zip bs).map (·.1)).Nodup := by
  have : (pn.zip bs).map (·.1) = pn := by rw [List.map_fst_zip pZ]
  rw [this]; exact hpn
 have low : ∀ c, s.heap.objs.size ≤ c → F c = none := fun c hc => by
  cases q : F c with
  | none => rfl
  | some o => exact absurd (Heap.lt_size (hF _ o q).1) (Nat.not_lt.mpr hc)
 refine ⟨F, _, {
  wd := wd.keeps keep hz wd.bare
  kept := ⟨fun b o e _ _ => keep b o e, hz, fun _ _ e _ => e, Nat.le_refl _⟩
  base := wd.big
  xab := hxa
  xgb := hxg
  le := Fz.le.refl _
  fz := fun b o e => let ⟨p, q⟩ := hF b o e; ⟨keep b o p, q, .inl e⟩
  ns := x.toInCall.ns
  loc := ⟨low _ (Nat.le_refl _), .inl (Nat.le_refl _)⟩
  fun_ := hk
  glob := hg
  names := by
   rw [hσn]
   exact hnd.sublist ((List.filter_sublist).map _)
  vars := fun n v e => by
   refine ag (hr.mem (hσ n v e)) fun y hy vy => ?_
   refine ⟨y, ?_, vy⟩
   have hn : n ∈ av fd.scope := by rw [← hσn]; exact List.mem_map_of_mem (f := (·.1)) e
   rcases locs n hn with q | q
   ·exact .inl ⟨q, jo nz hy q⟩
   ·have hs : ((cellsFrom (s.heap.objs.size + 1) fd.scope.names []).lookup n).isSome = true := aR _ _ _ (.inl (by
     refine ag (List.mem_map.mp hn) fun p hp e => ?_
     have hp2 := List.mem_filter.mp hp
     have hl : fd.scope.names.lookup p.1 = some p.2 := aO hnd hp2.1
     subst e
     have q' : fd.scope.names.lookup p.1 = some .cell := q
     rw [hl] at q'
     have := Option.some.inj q'
     obtain ⟨p1, p2⟩ := p
     subst this
     exact hp2.1))
    obtain ⟨c, hc⟩ := Option.isSome_iff_exists.mp hs
    exact .inr ⟨.inl q, c, hc, (i7 nz hy q : bindC _ _ _ n = some y) ▸ x.cell n c hc⟩
  cells := fun n c e => by
   have hm : (n, c) ∈ (callEnvC fd s.heap.objs.size a).cells := mem_of_lookup e
   have ab := x.above n c hm
   have ab' : s.heap.objs.size < c := ab
   refine ⟨⟨_, x.cell n c e⟩, low c (Nat.le_of_lt ab'), fun hm => ?_, Nat.ne_of_gt ab, Nat.le_trans wd.big (Nat.le_of_lt ab')⟩
   refine ag (List.mem_map.mp hm) fun p hp e => ?_
   subst e
   exact absurd (hxa _ (hX p hp).2.1).2 (Nat.not_lt.mpr (Nat.le_of_lt ab'))
  cellsInj := fun n n' c e e' => name_of_addr x.apart (mem_of_lookup e) (mem_of_lookup e')
  own := fun p hp => by
   refine bx (hX p hp) fun nn0 b c => ?_; refine ag (nn0) fun o a1 a2 => ?_
   exact ⟨⟨o, keep _ _ a1, a2⟩, .inr b, c, fun e => Nat.lt_irrefl s.heap.objs.size (by have := Heap.lt_size a1; rw [e] at this; exact this)⟩
  nodup := hXn
  gown := fun q hq => let ⟨a, b⟩ := hY q hq; ⟨a, .inr b⟩
  ynd := hYn
  tmp := hτ }⟩
theorem FS.enter {C : Cx} {σ : Sto} {X : List (Addr × OP)} {Y : List (Nat × GP)} {τ τ' : MP} {s s' : Shared} {F : Fz} {m : Str → Option Value} {fd : FuncData} {a : Addr} {pn : List Str} {bs : List Value} {bv : List VP} {σ0 : Sto}
  (h : FSB G C σ X Y τ s F m) (hg : fd.globals = mainGlobals ∧ fd.builtins = builtinsNs) (hk : fd.scope.kind = .function) (hnd : (fd.scope.names.map (·.1)).Nodup) (hpn : pn.Nodup) (hσn : σ0.map (·.1) = av fd.scope)
  (hσ : ∀ x v, (x, some v) ∈ σ0 → (x, v) ∈ pn.zip bv) (hr : Rel2 F bv bs) (hlen : bs.length = pn.length) (hτ : τ'.p F)
  (x : InCallC s (callEnvC fd s.heap.objs.size a).locals (bindL (callEnvC fd s.heap.objs.size a).kindOf (pn.zip bs) fun _ => none) (callEnvC fd s.heap.objs.size a).cells (bindC (callEnvC fd s.heap.objs.size a).kindOf (pn.zip bs) fun _ => none) s') :
  FS G ⟨⟨callEnvC fd s.heap.objs.size a, s, F, [], []⟩, σ0, [], []⟩ τ' s' :=
 FS.gq h.wd (fun a o e => let ⟨p, q, _⟩ := h.fz a o e; ⟨p, q⟩) (fun _ h => nomatch h) (fun _ h => nomatch h) (fun _ h => nomatch h) List.nodup_nil (fun _ h => nomatch h) List.nodup_nil hg hk hnd hpn hσn hσ hr hlen hτ x
theorem FS.back {C C' : Cx} {σ σ' : Sto} {X X' : List (Addr × OP)} {Y Y' : List (Nat × GP)} {τ τ' : MP} {s s' : Shared} {F : Fz} {m : Str → Option Value}
  (h : FSB G C σ X Y τ s F m) (h' : FS G ⟨C', σ', X', Y'⟩ τ' s') (e1 : C'.s₀ = s) (e2 : C'.F₀ = F) (e3 : C'.xa = []) (e4 : C'.xg = []) : FS G ⟨C, σ, X, Y⟩ (τ.and τ') s' := by
 obtain ⟨F', m', w⟩ := h'
 refine ⟨F', m, h.step w.wd (fun a o e t => ?_) ?_ (fun i x e => ?_) ?_ (by rw [← e2]; exact w.le) (fun a o e => ?_) ⟨τ.mono (by rw [← e2]; exact w.le) h.tmp, w.tmp⟩⟩
 ·exact w.kept.heap a o (by rw [e1]; exact e) (by rw [e3]; simp) t
 ·have := w.kept.size; rw [e1] at this; exact this
 ·exact w.kept.gens i x (by rw [e1]; exact e) (by rw [e4]; simp)
 ·have := w.kept.gsize; rw [e1] at this; exact this
 ·have := w.fz a o e
  rcases this.2.2 with q | q
  ·rw [e2] at q; exact .inl q
  ·rw [e1] at q; exact .inr ⟨this.1, q⟩
theorem FnT.of_body {a : Addr} {oc : Value} {od : Option Addr} {osl : Array (Option Value)} {fd : FuncData} {stmts : List Stmt} {pos kv bv : List VP} {kn pn : List Str} {v : VP} {σ0 : Sto}
  (hK : G.K.lookup a = some ⟨oc, od, .func fd, osl⟩) (hcd : codeIn G.K fd.code fd.qualname = true) (hbody : fd.body = .stmts stmts)
  (hg : fd.globals = mainGlobals ∧ fd.builtins = builtinsNs) (hcl : fd.closure = []) (hk : fd.scope.kind = .function) (hco : fd.scope.isCoroutine = false) (hgen : fd.scope.isGenerator = false)
  (hbind : ∀ (ys zs : List Value) (s : Shared), ys.length = pos.length → zs.length = kv.length → Wd G s → ∃ bs : List Value, BindsTo s fd ⟨ys, kn.zip zs⟩ (pn.zip bs) ∧ bs.length = pn.length ∧ ∀ F, Rel2 F pos ys → Rel2 F kv zs → Rel2 F bv bs)
  (hnd : (fd.scope.names.map (·.1)).Nodup) (hpn : pn.Nodup) (hpl : ∀ x ∈ pn, x ∈ av fd.scope) (hσn : σ0.map (·.1) = av fd.scope) (hσ : ∀ x v, (x, some v) ∈ σ0 → (x, v) ∈ pn.zip bv)
  (body : ∀ (s₀ : Shared) (F₀ : Fz), (∀ x ∈ σ0.map (·.1), Cx.st ⟨callEnvC fd s₀.heap.objs.size a, s₀, F₀, [], []⟩ x) → ExT G k ⟨callEnvC fd s₀.heap.objs.size a, s₀, F₀, [], []⟩ σ0 [] [] stmts (j2 G ⟨callEnvC fd s₀.heap.objs.size a, s₀, F₀, [], []⟩ v)) :
  FnT G (k + 1) (.ref a) pos kn kv v := by
 intro I A τ s ys zs hA h hrel
 obtain ⟨F, m, w⟩ := h
 obtain ⟨r1, r2⟩ := hrel F w.tmp
 refine cx (hbind ys zs s r1.length r2.length w.wd) fun bs hb hlen hbr => ?_
 have kinds : ∀ p ∈ fd.scope.names, fd.scope.names.lookup p.1 = some p.2 := fun p hp => aO hnd hp
 have locs : ∀ n, n ∈ av fd.scope → fd.scope.names.lookup n = some .local ∨ (fd.scope.names.lookup n = some .cell ∧ ((cellsFrom (s.heap.objs.size + 1) fd.scope.names []).lookup n).isSome = true) := fun n hn => by
  refine ag (List.mem_map.mp hn) fun p hp e => ?_
  have hp2 := List.mem_filter.mp hp
  have hl := kinds p hp2.1
  subst e
  rcases Bool.or_eq_true_iff.mp hp2.2 with q | q
  ·exact .inl (by rw [hl]; exact congrArg some (eq_of_beq q))
  ·have q' := eq_of_beq q
   refine .inr ⟨by rw [hl, q'], aR _ _ _ (.inl ?_)⟩
   obtain ⟨p1, p2⟩ := p
   dsimp only at q' ⊢
   subst q'
   exact hp2.1
 refine codeAny_call_function hA.room (w.wd.K _ _ hK) rfl hco hgen hbody (codeRec_of w.wd.K hcd) (hb _ _ _ _ ?_)
 rw [hcl]
 refine wpAny_newFunctionEnv_cells hk (fun p hp => ?_) fun env he s' x => ?_
 ·obtain ⟨p1, p2⟩ := p
  exact locs p1 (hpl p1 (List.of_mem_zip hp).1)
 subst he
 refine ez (x.done) fun h' tk re0 keep => ?_; subst re0
 have en := FS.enter (τ' := MP.tt) w hg hk hnd hpn hσn hσ (hbr F r1 r2) hlen trivial x
 have hlim : Heap.NoLimit h' := w.wd.lim.keeps keep
 refine ⟨hlim, codeAny_func ?_⟩
 have bd := body s F (fun n hn => by
  rw [hσn] at hn
  rcases locs n hn with q | ⟨q, q2⟩
  ·exact .inl q
  ·obtain ⟨c, hc⟩ := Option.isSome_iff_exists.mp q2
   exact .inr ⟨q, c, hc, .inl (Nat.le_of_lt (x.above n c (mem_of_lookup hc)))⟩) _ _ (hA.deeper (env := callEnvC fd s.heap.objs.size a)) en
 refine wpAny_mono bd (fun fl s'' hp => ?_) fun _ _ z => z.elim
 obtain ⟨y, σ', X', Y', rfl, hf⟩ := hp
 exact ⟨y, rfl, FS.back w hf rfl rfl rfl rfl⟩
noncomputable def rl (vl : List VP) (ys : List Value) : MP := ⟨fun F => Rel2 F vl ys, fun h r => r.mono h⟩
theorem EvT.glob {x : Str} {v : Value} {p : Pos} (hk : C.env.kindOf x = some .globalImplicit) (hx : nsIn G.K mainGlobals x = some (some v)) (hd : autoParam ((x == ("__debug__" : Str)) = false) tcD) : EvT G k C σ (.Name x p) (vIs v) := by
 intro A X Y τ s hA h
 obtain ⟨F, m, w⟩ := h
 refine Name_function_global w.fun_ hk ?_ hd
 unfold loadGlobal
 refine wpAny_bind ?_
 rw [w.glob.1]
 exact looks_nsIn w.wd.K hx _ _ _ _ (iz) (wpAny_pure ⟨F, m, { w with tmp := ⟨w.tmp, rfl⟩ }⟩)
theorem EvT.bi {x : Str} {v : Value} {p : Pos} (hk : C.env.kindOf x = some .globalImplicit) (hx : nsIn G.K mainGlobals x = some none) (hv : bootBuiltins x = some v) (hn : autoParam (x ≠ ("__name__" : Str)) tcD) (hd : autoParam ((x == ("__debug__" : Str)) = false) tcD) : EvT G k C σ (.Name x p) (vIs v) := by
 intro A X Y τ s hA h
 obtain ⟨F, m, w⟩ := h
 refine Name_function_global w.fun_ hk ?_ hd
 unfold loadGlobal
 refine wpAny_bind ?_
 rw [w.glob.1]
 refine looks_nsIn w.wd.K hx _ _ _ _ (iz) (wpAny_bind ?_)
 rw [w.glob.2]
 refine wpAny_nsGet w.wd.bns ?_
 rw [G.hmb x v hn hv]
 exact wpAny_pure ⟨F, m, { w with tmp := ⟨w.tmp, rfl⟩ }⟩
structure af (G : Gd) (k : Nat) (C : Cx) (σ : Sto) (pos : Pos) (es : List Expr) (vl : List VP) : Prop where
 ev : ∀ A X Y τ s, AOk k A → FS G ⟨C, σ, X, Y⟩ τ s → wpAny G.M A (spliced (backTo pos (starEach es C.env))) (fun ys s' => FS G ⟨C, σ, X, Y⟩ (τ.and (rl vl ys)) s') ff s
 st : (es = [] ∧ vl = []) ∨ ∃ x r, backTo pos (starEach es C.env) = (false, x) :: r
 pl : (backTo pos (starEach es C.env)).any (·.1) = false
theorem af.nil {pos : Pos} : af G k C σ pos [] [] := ⟨fun _ _ _ _ _ _ h => wpAny_items_nil (h.wk fun _ x => ⟨x, .nil⟩), .inl ⟨rfl, rfl⟩, rfl⟩
theorem af.cons {pos : Pos} {e : Expr} {es : List Expr} {v : VP} {vl : List VP} (he : EvT G k C σ e v) (hr : af G k C σ pos es vl) (hs : autoParam (starEach (e :: es) C.env = (false, eval e C.env) :: starEach es C.env) tcR) : af G k C σ pos (e :: es) (v :: vl) := by
 refine ⟨fun A X Y τ s hA h => ?_, .inr ⟨_, _, by rw [hs]; rfl⟩, by rw [hs]; exact hr.pl⟩
 refine wpAny_items_cons (wpAny_mono (he A X Y τ s hA h) (fun y s₁ h₁ => ?_) iz) hs
 exact wpAny_mono (hr.ev A X Y _ s₁ hA h₁) (fun ys s₂ h₂ => h₂.wk fun F z => ⟨z.1.1, .cons z.1.2 z.2⟩) iz
noncomputable def KwT (G : Gd) (k : Nat) (C : Cx) (σ : Sto) (pos : Pos) (kws : List Keyword) (vl : List VP) : Prop :=
 ∀ A X Y τ s, AOk k A → FS G ⟨C, σ, X, Y⟩ τ s → wpAny G.M A (evalAll ((backToKw pos (keywordEach kws C.env)).map (·.2))) (fun ys s' => FS G ⟨C, σ, X, Y⟩ (τ.and (rl vl ys)) s') ff s
theorem KwT.nil {pos : Pos} : KwT G k C σ pos [] [] := fun _ _ _ _ _ _ h => wpAny_evalAll_nil (h.wk fun _ x => ⟨x, .nil⟩)
theorem KwT.cons {pos q : Pos} {n : Option Str} {e : Expr} {kws : List Keyword} {v : VP} {vl : List VP} (he : EvT G k C σ e v) (hr : KwT G k C σ pos kws vl) : KwT G k C σ pos (⟨n, e, q⟩ :: kws) (v :: vl) := by
 intro A X Y τ s hA h
 refine wpAny_evalAll_cons (wpAny_bind (wpAny_mono (he A X Y τ s hA h) (fun y s₁ h₁ => wpAny_bind (wpAny_standAt (wpAny_pure ?_))) iz))
 exact wpAny_mono (hr A X Y _ s₁ hA h₁) (fun ys s₂ h₂ => h₂.wk fun F z => ⟨z.1.1, .cons z.1.2 z.2⟩) iz
noncomputable def aw (G : Gd) (k : Nat) (f : Value) (pos : List VP) (kn : List Str) (kv : List VP) (v : VP) : Prop :=
 ∀ I A τ s ys zs, AOk k A → FS G I τ s → (∀ F, τ.p F → Rel2 F pos ys ∧ Rel2 F kv zs) → wpAny G.M A (call f ys (kn.zip zs)) (fun y s' => FS G I (τ.and (v.at y)) s') ff s
theorem FnT.aq {f : Value} {pos : List VP} {kn : List Str} {kv : List VP} {v : VP} (h : FnT G k f pos kn kv v) : aw G k f pos kn kv v := fun _ _ _ _ _ _ hA hs hr => h.call hA hs hr
noncomputable def KpT (G : Gd) (f : Value) : Prop := ∀ h, G.K.In h → ∃ kk, (kk = Keeper.frame ∨ kk = Keeper.machine ∨ kk = Keeper.boundFrame) ∧ Looks G.M h (keeperOf f) kk
theorem KpT.of {f : Value} (h : keepIn G.K f = true) : KpT G f := fun hp X => keeps_K h hp X
theorem KpT.bi {id : String} : KpT G (.builtin id) := fun _ _ => ⟨.machine, .inr (.inl rfl), .of_pure rfl⟩
theorem KpT.ty {T : String} : KpT G (.type T) := fun _ _ => ⟨.machine, .inr (.inl rfl), .of_pure rfl⟩
theorem jO {p : Pos} {env : Env} : ∀ {kws : List Keyword} {kn : List Str}, kws.map (·.1) = kn.map some → (backToKw p (keywordEach kws env)).filterMap (·.1) = kn ∧ (backToKw p (keywordEach kws env)).all (·.1.isSome) = true ∧ (backToKw p (keywordEach kws env)).any (·.1.isNone) = false
 | [], [], _ => ⟨rfl, rfl, rfl⟩
 | ⟨_, _, _⟩ :: _, _ :: _, h => by
  obtain ⟨e, h⟩ := List.cons.inj h
  obtain ⟨a, b, c⟩ := jO (p := p) (env := env) h
  cases e
  exact ⟨congrArg (List.cons _) a, b, c⟩
theorem gE {f : Value} {first : List Value} {vf pos : List VP} {kn : List Str} {kv : List VP} {v : VP} {p : Pos} {args : List Expr} {kws : List Keyword} (hf : aw G k f (vf ++ pos) kn kv v) (hkp : KpT G f)
  (ha : af G k C σ p args pos) (hk : KwT G k C σ p kws kv) (hkn : (backToKw p (keywordEach kws C.env)).filterMap (·.1) = kn) (hall : (backToKw p (keywordEach kws C.env)).all (·.1.isSome) = true)
  (hplain : ((backTo p (starEach args C.env)).any (·.1) || (backToKw p (keywordEach kws C.env)).any (·.1.isNone)) = false) (hst : (args = [] ∧ pos = []) ∨ ∃ x r, backTo p (starEach args C.env) = (false, x) :: r)
  (hA : AOk k A) (h : FS G ⟨C, σ, X, Y⟩ τ s) (hfirst : ∀ F, τ.p F → Rel2 F vf first) :
  wpAny G.M A (callWith p f first (backTo p (starEach args C.env)) (backToKw p (keywordEach kws C.env))) (fun y s' => FS G ⟨C, σ, X, Y⟩ (τ.and (v.at y)) s') ff s := by
 have tail : ∀ (ys : List Value) (s₁ : Shared), FS G ⟨C, σ, X, Y⟩ (τ.and (rl pos ys)) s₁ → wpAny G.M A (evalAll ((backToKw p (keywordEach kws C.env)).map (·.2)))
   (fun ks s₂ => G.K.In s₂.heap ∧ wpAny G.M A (call f (first ++ ys) (((backToKw p (keywordEach kws C.env)).filterMap (·.1)).zip ks)) (fun y s' => FS G ⟨C, σ, X, Y⟩ (τ.and (v.at y)) s') ff s₂) ff s₁ := fun ys s₁ h₁ =>
  wpAny_mono (hk A X Y _ s₁ hA h₁) (fun zs s₂ h₂ => ⟨h₂.wd.K, by
   rw [hkn]
   exact wpAny_mono (hf _ A _ s₂ _ _ hA h₂ fun F z => ⟨(hfirst F z.1.1).append z.1.2, z.2⟩) (fun y s₃ h₃ => h₃.wk fun F z => ⟨z.1.1.1, z.2⟩) iz⟩) iz
 refine callWith_of (P := G.K.In) hplain hkp ?_
 rcases hst with ⟨e, e'⟩ | ⟨x, r, e⟩
 ·subst e e'
  refine evalArgs_kw_nil hall ?_
  exact tail [] s (h.wk fun F z => ⟨z, .nil⟩)
 ·have a1 := ha.ev A X Y τ s hA h
  rw [e] at a1 ⊢
  exact evalArgs_kw hall (wpAny_mono a1 (fun ys s₁ h₁ => tail ys s₁ h₁) iz)
theorem EvT.call {x : Str} {f : Value} {pos : List VP} {kn : List Str} {kv : List VP} {v : VP} {q p : Pos} {args : List Expr} {kws : List Keyword} (hx : EvT G k C σ (.Name x q) (vIs f)) (hf : aw G k f pos kn kv v) (hkp : KpT G f)
  (ha : af G k C σ p args pos) (hk : KwT G k C σ p kws kv) (hkn : autoParam (kws.map (·.1) = kn.map some) tcR) : EvT G k C σ (.Call (.Name x q) args kws p) v := by
 obtain ⟨k1, k2, k3⟩ := jO (p := p) (env := C.env) hkn
 intro A X Y τ s hA h
 refine wpAny_Call_Name_kw (wpAny_mono (hx A X Y τ s hA h) (fun y s₁ h₁ => ?_) iz)
 obtain rfl : y = f := h₁.take fun F z => z.2
 exact wpAny_mono (gE (vf := []) (first := []) hf hkp ha hk k1 k2 (by rw [ha.pl, k3]; rfl) ha.st hA h₁ fun _ _ => .nil) (fun y s₂ h₂ => h₂.wk fun F z => ⟨z.1.1, z.2⟩) iz
noncomputable def iW (G : Gd) (vo : VP) (name : Str) (f : Value) : Prop :=
 ∀ I A τ s (pl : Sem Bool) o, FS G I τ s → (∀ F, τ.p F → vo.p F o) → wpAny G.M A (getMethod o name pl) (fun r s' => r = (f, [o]) ∧ FS G I τ s') ff s
theorem EvT.iZ {o : Expr} {name : Str} {vo : VP} {f : Value} {pos : List VP} {kn : List Str} {kv : List VP} {v : VP} {ap p : Pos} {args : List Expr} {kws : List Keyword} {pl : Sem Bool} (ho : EvT G k C σ o vo) (hm : iW G vo name f) (hf : aw G k f (vo :: pos) kn kv v) (hkp : KpT G f)
  (ha : af G k C σ p args pos) (hk : KwT G k C σ p kws kv)
  (he : eval (.Call (.Attribute o name ap) args kws p) C.env = (do
   let ov ← eval o C.env
   standAt ap.atName
   let (f, first) ← holding [ov] (getMethod ov name pl)
   callWith p f first (backTo p (starEach args C.env)) (backToKw p (keywordEach kws C.env))) := by rfl)
  (hkn : autoParam (kws.map (·.1) = kn.map some) tcR) : EvT G k C σ (.Call (.Attribute o name ap) args kws p) v := by
 obtain ⟨k1, k2, k3⟩ := jO (p := p) (env := C.env) hkn
 intro A X Y τ s hA h
 refine methodCall_KW (pl := pl) (wpAny_mono (ho A X Y τ s hA h) (fun y s₁ h₁ => ?_) iz) he
 refine wpAny_mono (hm _ A _ s₁ pl y h₁ fun F z => z.2) (fun r s₂ h₂ => ?_) iz
 obtain ⟨rfl, h₂⟩ := h₂
 exact wpAny_mono (gE (vf := [vo]) (first := [y]) hf hkp ha hk k1 k2 (by rw [ha.pl, k3]; rfl) ha.st hA h₂ fun F z => .cons z.2 .nil) (fun y s₂ h₂ => h₂.wk fun F z => ⟨z.1.1, z.2⟩) iz
inductive EsR (F : Fz) : List (Str × VP) → List DictEntry → Prop where
 | nil : EsR F [] []
 | cons {n : Str} {v : VP} {fs : List (Str × VP)} {hs : Int} {t : Tok} {y : Value} {es : List DictEntry} : v.p F y → handedIn y = true → EsR F fs es → EsR F ((n, v) :: fs) (⟨hs, .str n t, y⟩ :: es)
theorem EsR.mono {F G : Fz} (h : F.le G) {fs : List (Str × VP)} {es : List DictEntry} (r : EsR F fs es) : EsR G fs es := by
 induction r with
 | nil => exact .nil
 | cons a b _ ih => exact .cons (VP.mono _ h a) b ih
theorem EsR.get {F : Fz} {fs : List (Str × VP)} {es : List DictEntry} (r : EsR F fs es) : ∀ {n : Str} {v : VP}, fs.lookup n = some v → ∃ y, getL n es = some (some y) ∧ handedIn y = true ∧ v.p F y := by
 induction r with
 | nil => intro n v e; cases e
 | @cons n' v' fs hs t y es a b c ih =>
  intro n v e
  rw [List.lookup_cons] at e
  unfold getL
  rw [List.find?_cons]
  cases q : (n == n') with
  | true =>
   rw [q] at e
   cases e
   have : (Value.str n' t).isStr n = true := by rw [eq_of_beq q]; simp [Value.isStr]
   simp only [this]
   exact ⟨y, rfl, b, a⟩
  | false =>
   rw [q] at e
   have e1 : (Value.str n' t).isStr n = false := by
    have : n' ≠ n := fun h => by rw [h] at q; simp at q
    simpa [Value.isStr] using this
   simp only [e1]
   refine cx (ih e) fun z g h1 h2 => ?_
   refine ⟨z, ?_, h1, h2⟩
   unfold getL at g
   split at g
   ·rename_i hh; rw [hh]; exact g
   ·rename_i hh
    split at g <;> cases g
theorem EsR.none {F : Fz} {fs : List (Str × VP)} {es : List DictEntry} (r : EsR F fs es) : ∀ {n : Str}, fs.lookup n = none → getL n es = some none := by
 induction r with
 | nil => intro n _; rfl
 | @cons n' v' fs hs t y es a b c ih =>
  intro n e
  rw [List.lookup_cons] at e
  unfold getL
  rw [List.find?_cons]
  cases q : (n == n') with
  | true => rw [q] at e; cases e
  | false =>
   rw [q] at e
   have e1 : (Value.str n' t).isStr n = false := by
    have : n' ≠ n := fun h => by rw [h] at q; simp at q
    simpa [Value.isStr] using this
   simp only [e1]
   have g := ih e
   unfold getL at g
   split at g
   ·cases g
   ·rename_i hh
    split at g
    ·cases g
    ·rename_i h2
     rw [hh]
     dsimp only
     rw [List.any_cons, show DictEntry.refKey ⟨hs, .str n' t, y⟩ = false from rfl, Bool.false_or, if_neg h2]
inductive l6 (C : Addr) (fs : List (Str × VP)) (F : Fz) (y : Value) : Prop
 | mk (x d : Addr) (es : List DictEntry) (n : Nat) (e : y = .ref x) (h : F x = some (instObj C d)) (h2 : F d = some (dictOf es n)) (r : EsR F fs es) : l6 C fs F y
noncomputable def aL (C : Addr) (fs : List (Str × VP)) : VP := ⟨fun F y => l6 C fs F y, fun h ⟨x, d, es, n, a, b, c, r⟩ => ⟨x, d, es, n, a, h _ _ b, h _ _ c, r.mono h⟩⟩
theorem ng {C : Addr} {fs : List (Str × VP)} : (aL C fs).kS := fun _ _ ⟨_, _, _, _, e, _, _, _⟩ => by rw [e]; intro h; cases h
theorem FSB.ee {F : Fz} {m : Str → Option Value} {x d D : Addr} {es : List DictEntry} {n : Nat} (w : FSB G C σ X Y τ s F m) (e1 : F x = some (instObj D d)) (e2 : F d = some (dictOf es n)) : InstAt s.heap x (instObj D d) D (some (dictOf es n)) :=
 ⟨(w.fz _ _ e1).1, rfl, rfl, (w.fz _ _ e2).1⟩
theorem iW.inst {D f : Addr} {fs : List (Str × VP)} {name : Str} (hg : plainGet G.K D name = true) (hf : findIn G.K (.ref D) name = some (some (.ref f))) (ht : isFn G.K (.ref f) = true) (hl : fs.lookup name = none) : iW G (aL D fs) name (.ref f) := by
 intro I A τ s pl o h ho
 obtain ⟨F, m, w⟩ := h
 obtain ⟨x, d, es, n, rfl, e1, e2, r⟩ := ho F w.tmp
 exact method_fn w.wd.K (w.ee e1 e2) (plainGet_of hg).1 (plainGet_of hg).2 hf (beq_iff_eq.mp ht) (by show (lookIn name (dictOf es n)).map _ = _; rw [lookIn_dict, r.none hl]; rfl) ⟨rfl, F, m, w⟩
theorem gz {value : Expr} {attr : Str} {p : Pos} {prog : Program} {w : World} {A : Around} {E : Value → Shared → Prop} {env : Env} {Q : Value → Shared → Prop} {s : Shared} (hb : attributeBase value attr env (eval value env) = eval value env)
  (h : wpAny (model prog w) A (eval value env) (fun o s₁ => wpAny (model prog w) A (getAttr o attr true) Q E s₁) E s) : wpAny (model prog w) A (eval (.Attribute value attr p) env) Q E s := by
 rw [arm_eval_Attribute, hb]
 refine wpAny_bind (wpAny_mono h (fun o s₁ h₁ => wpAny_bind (wpAny_standAt (wpAny_bind (wpAny_holding (wpAny_mono h₁ (fun r s₂ h₂ => ?_) iz))))) iz)
 exact wpAny_bind (wpAny_letTemporaryGo (wpAny_pure h₂))
theorem EvT.attr {o : Expr} {D : Addr} {fs : List (Str × VP)} {name : Str} {v : VP} {p : Pos} {attr : Option Value} (ho : EvT G k C σ o (aL D fs)) (hl : fs.lookup name = some v) (hg : plainGet G.K D name = true) (hh : hasDictIn G.K D = true) (ha : findIn G.K (.ref D) name = some attr) (hn : noGet G.K attr = true)
  (hb : autoParam (attributeBase o name C.env (eval o C.env) = eval o C.env) tcR) : EvT G k C σ (.Attribute o name p) v := by
 intro A X Y τ s hA h
 refine gz hb (wpAny_mono (ho A X Y τ s hA h) (fun y s₁ h₁ => ?_) iz)
 have h₂ := h₁
 obtain ⟨F, m, w⟩ := h₂
 obtain ⟨x, d, es, n, rfl, e1, e2, r⟩ := w.tmp.2
 refine cx (r.get hl) fun z g hz vz => ?_
 refine get_value w.wd.K (w.ee e1 e2) (plainGet_of hg).1 (findObj_own hh ha hn g) hz ?_
 have h₃ : FS G ⟨C, σ, X, Y⟩ (τ.and (v.at z)) s₁ := ⟨F, m, { w with tmp := ⟨w.tmp.1, vz⟩ }⟩
 exact h₃.toks
inductive mA (fs : List (Str × VP)) (F : Fz) (o : Obj) : Prop
 | mk (es : List DictEntry) (n : Nat) (e : o = dictOf es n) (r : EsR F fs es) : mA fs F o
noncomputable def bJ (fs : List (Str × VP)) : OP := ⟨fun F o => mA fs F o, fun h ⟨es, n, e, r⟩ => ⟨es, n, e, r.mono h⟩⟩
noncomputable def dh (D x d : Addr) : VP := ⟨fun F y => y = .ref x ∧ F x = some (instObj D d), fun h ⟨a, b⟩ => ⟨a, h _ _ b⟩⟩
noncomputable def jM (n : Str) (v : VP) : List (Str × VP) → List (Str × VP)
 | [] => [(n, v)]
 | p :: r => if (p.1 == n) = true then (p.1, v) :: r else p :: jM n v r
theorem EsR.noRef {F : Fz} {fs : List (Str × VP)} {es : List DictEntry} (r : EsR F fs es) : es.any (·.refKey) = false := by
 induction r with
 | nil => rfl
 | @cons n' v' fs hs t y es a b c ih =>
  rw [List.any_cons, show DictEntry.refKey ⟨hs, .str n' t, y⟩ = false from rfl, Bool.false_or, ih]
theorem EsR.put {F : Fz} {fs : List (Str × VP)} {es : List DictEntry} (r : EsR F fs es) {n : Str} {v : VP} {y : Value} {hs : Int} {t : Tok} (hv : v.p F y) (hy : handedIn y = true) : EsR F (jM n v fs) (putL n hs (.str n t) y es) := by
 induction r with
 | nil => exact .cons hv hy .nil
 | @cons n' v' fs hs' t' y' es a b c ih =>
  unfold jM putL
  have e : (Value.str n' t').isStr n = (n' == n) := by simp only [Value.isStr]
  dsimp only
  rw [e]
  cases q : (n' == n) with
  | true => simp only [if_true]; exact .cons hv hy c
  | false => simp only [Bool.false_eq_true, if_false]; exact .cons a b ih
theorem EsR.length {F : Fz} {fs : List (Str × VP)} {es : List DictEntry} (r : EsR F fs es) : es.length = fs.length := by
 induction r with
 | nil => rfl
 | cons _ _ _ ih => simp [ih]
theorem ia {w : World} {prog : Program} {K : Frag} {D x dx : Addr} {es : List DictEntry} {n : Nat} {name : Str} {y : Value} {Q : Unit → Shared → Prop} {E : Value → Shared → Prop} (X : K.In s.heap) (hx : s.heap.get? x = some (instObj D dx)) (hd : s.heap.get? dx = some (dictOf es n))
  (hs : findIn K (.ref D) "__setattr__" = some (some (.builtin "object.__setattr__"))) (hp : plainOver K D = true) (ht : takerIn K D name = some none) (hh : hasDictIn K D = true) (hr : es.any (·.refKey) = false) (hz : es.length ≤ 900)
  (h : ∀ h', Heap.SameBut dx s.heap h' → h'.get? dx = some (dictOf (putL name (PyData.keyHash w.params name) (.str name (s.toks + 1)) y es) (putN name es n)) → Q () { s with heap := h', toks := s.toks + 2 }) :
  wpAny (model prog w) A (setAttr (.ref x) name y) Q E s := by
 have I : InstAt s.heap x (instObj D dx) D (some (dictOf es n)) := ⟨hx, rfl, rfl, hd⟩
 refine set_plain X I hs (osa_open (s := { s with toks := s.toks + 1 }) X I hp ht fun b => ?_)
 refine ag (any_some hh) fun cd hc hd' => ?_
 show wpAny _ _ (Builtin.ObjectAttr.storeInOwnDict _ _ _ _ _ _) _ _ _
 refine wpAny_bind (wpAny_pure (wpAny_bind (wpAny_bind (wpAny_loadPart hx (wpAny_bind (Looks.here (s := { s with toks := s.toks + 1 }) (looks_clsIn X hc) ?_))))))
 rw [hd']
 refine wpAny_pure (a := some dx) (wpAny_bind (wpAny_pure (wpAny_bind ?_)))
 unfold nsSet
 refine wpAny_bind (wpAny_bind (wpAny_askSetting (wpAny_pure (wpAny_bind (wpAny_mkText (wpAny_bind (wpAny_loadPart hd ?_)))))))
 have c : (!es.any (·.key.isStr name) && es.any (·.refKey)) = false := by rw [hr, Bool.and_false]
 dsimp only
 rw [aRefKeyMayBeTheName_at, ← Array.any_toList, ← Array.any_toList, List.toList_toArray, c]
 have e : Obj.putName name (PyData.keyHash w.params name) (.str name (s.toks + 1)) y (dictOf es n) = dictOf (putL name (PyData.keyHash w.params name) (.str name (s.toks + 1)) y es) (putN name es n) := by rw [putName_dict]
 have up : (s.heap.update dx (Obj.putName name (PyData.keyHash w.params name) (.str name (s.toks + 1)) y)).get? dx = some (dictOf (putL name (PyData.keyHash w.params name) (.str name (s.toks + 1)) y es) (putN name es n)) := by
  rw [← e]; exact Heap.get?_update_self _ hd (by rw [e]; rfl)
 have len : ∀ l : List DictEntry, (putL name (PyData.keyHash w.params name) (.str name (s.toks + 1)) y l).length ≤ l.length + 1 := by
  intro l
  induction l with
  | nil => simp [putL]
  | cons e r ih =>
   unfold putL
   split
   ·simp
   ·simp only [List.length_cons]; exact Z27
 refine wpAny_updatePart hd ?_
 refine wpAny_bind (wpAny_lookBehind up (pastItsLine_dict (by rw [List.size_toArray, sizeLine_eq]; have := len es; omega)) ?_)
 exact wpAny_pure (h _ (Heap.SameBut.update ..) up)
theorem ExT.setattr {self name : Str} {D x d : Addr} {fs : List (Str × VP)} {e : Expr} {v : VP} {p q r : Pos} {rest : List Stmt} (hv : (self, some (dh D x d)) ∈ σ) (he : EvT G k C σ e v) (hh : ∀ F y, v.p F y → handedIn y = true)
  (hs : findIn G.K (.ref D) "__setattr__" = some (some (.builtin "object.__setattr__"))) (hp : plainOver G.K D = true) (ht : takerIn G.K D name = some none) (hd : hasDictIn G.K D = true) (hz : fs.length ≤ 900)
  (hr : ExT G k C σ (X₁ ++ (d, bJ (jM name v fs)) :: X₂) Y rest Ψ) (hw : autoParam (swapsWith e (some (.Attribute (.Name self r) name q)) p.line C.env = pure false) tcR)
  (hb : autoParam ((self == ("__debug__" : Str)) = false) tcD) (hn : autoParam ((self == ("__classdict__" : Str)) = false) tcD) :
  ExT G k C σ (X₁ ++ (d, bJ fs) :: X₂) Y (.Assign [.Attribute (.Name self r) name q] e p :: rest) Ψ := by
 intro A s hA h
 refine wpAny_execs_cons (plainObj_wpAny_Assign_Attribute (wpAny_mono (he A _ Y _ s hA h) (fun y s₁ h₁ => ?_) iz) hw)
 refine wpAny_mono (EvT.var (k := k) hv hb hn A _ Y _ s₁ hA h₁) (fun o s₂ h₂ => ?_) iz
 obtain ⟨F, m, w⟩ := h₂
 refine bx (w.tmp) fun nn0 re1 hx => ?_; obtain ⟨_, hy⟩ := nn0; subst re1
 obtain ⟨⟨o, ho, es, n, rfl, hes⟩, _⟩ := w.own (d, bJ fs) (by simp)
 refine ia w.wd.K (w.fz _ _ hx).1 ho hs hp ht hd hes.noRef (by rw [hes.length]; assumption) fun h' hb hg => ?_
 exact hr A _ hA ⟨F, m, (w.iM (P' := bJ (jM name v fs)) hg hb ⟨_, _, rfl, hes.put hy (hh F y hy)⟩).weak w.names (fun _ _ e => ⟨_, e, iz⟩) (List.Sublist.refl _) (List.Sublist.refl _) fun _ _ => trivial⟩
theorem AOk.make {C : Addr} {ys : List Value} {kw : List (Str × Value)} (h : AOk (k + 1) A) : AOk k (A.under (.builtin "type.__call__" ⟨.ref C :: ys, kw⟩)) := by
 refine ⟨h.1, ?_, ?_, ?_⟩
 ·show pushGuards (Code.guards (.builtin "type.__call__" ⟨.ref C :: ys, kw⟩)) A.guards = some []
  rw [show Code.guards (.builtin "type.__call__" ⟨.ref C :: ys, kw⟩) = [] from rfl]
  exact h.2.1
 ·show A.depth + Code.weight (.builtin "type.__call__" ⟨.ref C :: ys, kw⟩) + _ + _ < _
  rw [show Code.weight (.builtin "type.__call__" ⟨.ref C :: ys, kw⟩) = 1 from rfl]
  have := h.2.2.1; omega
 ·show A.units + Code.cUnits (.builtin "type.__call__" ⟨.ref C :: ys, kw⟩) + _ + _ < _
  rw [show Code.cUnits (.builtin "type.__call__" ⟨.ref C :: ys, kw⟩) = 1 from rfl]
  have := h.2.2.2; omega
noncomputable def qZ (G : Gd) (C : Cx) (d : Addr) (fs : List (Str × VP)) : Flow → Shared → Prop := fun fl s' => (fl = .next ∨ fl = .ret .none) ∧ ∃ σ' X₁ X₂ Y', FS G ⟨C, σ', X₁ ++ (d, bJ fs) :: X₂, Y'⟩ MP.tt s'
theorem FnT.cls {D fI : Addr} {oc : Value} {od : Option Addr} {osl : Array (Option Value)} {fd : FuncData} {stmts : List Stmt} {pos kv bv : List VP} {kn pn : List Str} {fs : List (Str × VP)} {σ0 : Addr → Addr → Sto}
  (hm : makesIn G.K D = true) (hi : findIn G.K (.ref D) "__init__" = some (some (.ref fI))) (hf : typeIn G.K (.ref fI) = some (.type "function"))
  (hK : G.K.lookup fI = some ⟨oc, od, .func fd, osl⟩) (hcd : codeIn G.K fd.code fd.qualname = true) (hbody : fd.body = .stmts stmts)
  (hg : fd.globals = mainGlobals ∧ fd.builtins = builtinsNs) (hcl : fd.closure = []) (hk : fd.scope.kind = .function) (hco : fd.scope.isCoroutine = false) (hgen : fd.scope.isGenerator = false)
  (hbind : ∀ (x : Addr) (ys zs : List Value) (s : Shared), ys.length = pos.length → zs.length = kv.length → Wd G s → ∃ bs : List Value, BindsTo s fd ⟨.ref x :: ys, kn.zip zs⟩ (pn.zip (.ref x :: bs)) ∧ bs.length + 1 = pn.length ∧ ∀ F, Rel2 F pos ys → Rel2 F kv zs → Rel2 F bv bs)
  (hnd : (fd.scope.names.map (·.1)).Nodup) (hpn : pn.Nodup) (hpl : ∀ x ∈ pn, x ∈ av fd.scope) (hσn : ∀ x d, (σ0 x d).map (·.1) = av fd.scope) (hσ : ∀ x d n v, (n, some v) ∈ σ0 x d → (n, v) ∈ pn.zip (dh D x d :: bv))
  (body : ∀ (s₀ : Shared) (F₀ : Fz) (x d : Addr), (∀ n ∈ av fd.scope, Cx.st ⟨callEnvC fd s₀.heap.objs.size fI, s₀, F₀, [d], []⟩ n) → ExT G k ⟨callEnvC fd s₀.heap.objs.size fI, s₀, F₀, [d], []⟩ (σ0 x d) [(d, bJ [])] [] stmts (qZ G ⟨callEnvC fd s₀.heap.objs.size fI, s₀, F₀, [d], []⟩ d fs)) :
  FnT G (k + 2) (.ref D) pos kn kv (aL D fs) := by
 intro I A τ s ys zs hA h hrel
 obtain ⟨F, m, w⟩ := h
 obtain ⟨r1, r2⟩ := hrel F w.tmp
 obtain ⟨hh, g, dr, t, os⟩ := s
 refine make_core (makes_of w.wd.K hm) (looks_findIn w.wd.K hi) (fun self => bind_fn w.wd.K self hf) (.inl rfl) ?_
 let s1 : Shared := ⟨(hh.push emptyDict).push (instObj D hh.objs.size), g, dr, t, os⟩
 have hk1 : ∀ b o, hh.get? b = some o → s1.heap.get? b = some o := fun b o e => Heap.get?_push_of_some _ (Heap.get?_push_of_some _ e)
 have hz1 : s1.heap.objs.size = hh.objs.size + 2 := by show ((hh.push emptyDict).push (instObj D hh.objs.size)).objs.size = _; rw [Heap.size_push, Heap.size_push]
 have gd : s1.heap.get? hh.objs.size = some emptyDict := Heap.get?_push_of_some _ (Heap.get?_push_size _ rfl)
 have gx : s1.heap.get? (hh.objs.size + 1) = some (instObj D hh.objs.size) := by
  have := Heap.get?_push_size (hh.push emptyDict) (o := instObj D hh.objs.size) rfl
  rwa [Heap.size_push] at this
 have wd1 : Wd G s1 := w.wd.keeps hk1 (by show hh.objs.size ≤ s1.heap.objs.size; omega) w.wd.bare
 let F1 : Fz := fun b => if b = hh.objs.size + 1 then some (instObj D hh.objs.size) else F b
 have lowF : ∀ c, hh.objs.size ≤ c → F c = none := fun c hc => by
  cases q : F c with
  | none => rfl
  | some o => exact absurd (Heap.lt_size (w.fz _ o q).1) (Nat.not_lt.mpr hc)
 have le1 : F.le F1 := fun b o e => by
  show (if b = hh.objs.size + 1 then some (instObj D hh.objs.size) else F b) = some o
  by_cases q : b = hh.objs.size + 1
  ·subst q; rw [lowF _ (Nat.le_succ _)] at e; cases e
  ·rw [if_neg q]; exact e
 have hF1 : ∀ a o, F1 a = some o → s1.heap.get? a = some o ∧ ¬ G.gb a := fun a o e => by
  have e' : (if a = hh.objs.size + 1 then some (instObj D hh.objs.size) else F a) = some o := e
  by_cases q : a = hh.objs.size + 1
  ·subst q
   rw [if_pos rfl] at e'
   cases e'
   exact ⟨gx, Gd.ef (Nat.le_trans w.wd.big (Nat.le_succ _))⟩
  ·rw [if_neg q] at e'
   exact ⟨hk1 _ _ (w.fz a o e').1, (w.fz a o e').2.1⟩
 have F1d : F1 hh.objs.size = none := by
  show (if hh.objs.size = hh.objs.size + 1 then some (instObj D hh.objs.size) else F hh.objs.size) = none
  rw [if_neg (by omega)]; exact lowF _ (Nat.le_refl _)
 have F1x : F1 (hh.objs.size + 1) = some (instObj D hh.objs.size) := if_pos rfl
 refine cx (hbind (hh.objs.size + 1) ys zs s1 r1.length r2.length wd1) fun bs hb hlen hbr => ?_
 have kinds : ∀ p ∈ fd.scope.names, fd.scope.names.lookup p.1 = some p.2 := fun p hp => aO hnd hp
 have locs : ∀ n, n ∈ av fd.scope → fd.scope.names.lookup n = some .local ∨ (fd.scope.names.lookup n = some .cell ∧ ((cellsFrom (s1.heap.objs.size + 1) fd.scope.names []).lookup n).isSome = true) := fun n hn => by
  refine ag (List.mem_map.mp hn) fun p hp e => ?_
  have hp2 := List.mem_filter.mp hp
  have hl := kinds p hp2.1
  subst e
  rcases Bool.or_eq_true_iff.mp hp2.2 with q | q
  ·exact .inl (by rw [hl]; exact congrArg some (eq_of_beq q))
  ·have q' := eq_of_beq q
   refine .inr ⟨by rw [hl, q'], aR _ _ _ (.inl ?_)⟩
   obtain ⟨p1, p2⟩ := p
   dsimp only at q' ⊢
   subst q'
   exact hp2.1
 have hA' : AOk (k + 1) (A.under (.builtin "type.__call__" ⟨.ref D :: ys, kn.zip zs⟩)) := AOk.make hA
 refine codeAny_call_function hA'.room (wd1.K _ _ hK) rfl hco hgen hbody (codeRec_of wd1.K hcd) (hb _ _ _ _ ?_)
 rw [hcl]
 refine wpAny_newFunctionEnv_cells hk (fun p hp => ?_) fun env he s' x => ?_
 ·obtain ⟨p1, p2⟩ := p
  exact locs p1 (hpl p1 (List.of_mem_zip hp).1)
 subst he
 refine ez (x.done) fun h' tk re0 keep => ?_; subst re0
 have en := FS.gq (τ' := MP.tt) (σ0 := σ0 (hh.objs.size + 1) hh.objs.size) (xa := [hh.objs.size]) (xg := []) (X0 := [(hh.objs.size, bJ [])]) (Y0 := []) wd1 hF1
  (fun a ha => by rw [List.mem_singleton.mp ha]; exact ⟨w.wd.big, by omega⟩) (fun _ h => nomatch h)
  (fun p hp => by rw [List.mem_singleton.mp hp]; exact ⟨⟨_, gd, [], 0, rfl, .nil⟩, .head _, F1d⟩) (by simp) (fun _ h => nomatch h) List.nodup_nil hg hk hnd hpn (hσn _ _) (hσ _ _) (.cons ⟨rfl, F1x⟩ ((hbr F r1 r2).mono le1)) (by simpa using hlen) trivial x
 refine ⟨wd1.lim.keeps keep, codeAny_func ?_⟩
 have bd := body s1 F1 (hh.objs.size + 1) hh.objs.size (fun n hn => by
  rcases locs n hn with q | ⟨q, q2⟩
  ·exact .inl q
  ·obtain ⟨c, hc⟩ := Option.isSome_iff_exists.mp q2
   exact .inr ⟨q, c, hc, .inl (Nat.le_of_lt (x.above n c (mem_of_lookup hc)))⟩) _ _ (hA'.deeper (env := callEnvC fd s1.heap.objs.size fI)) en
 refine wpAny_mono bd (fun fl s'' hp => ?_) fun _ _ z => z.elim
 obtain ⟨hfl, σ', X₁, X₂, Y', F', m', w'⟩ := hp
 obtain ⟨⟨o, ho, es, n, rfl, hes⟩, -, hFd, -⟩ := w'.own (hh.objs.size, bJ fs) (by simp)
 have fin : FS G I (τ.and ((aL D fs).at (.ref (hh.objs.size + 1)))) s'' := by
  let F2 : Fz := fun b => if b = hh.objs.size then some (dictOf es n) else F' b
  have le2 : F'.le F2 := fun b o e => by
   show (if b = hh.objs.size then some (dictOf es n) else F' b) = some o
   by_cases q : b = hh.objs.size
   ·subst q; rw [hFd] at e; cases e
   ·rw [if_neg q]; exact e
  have lee : F.le F2 := (le1.trans w'.le).trans le2
  refine ⟨F2, m, w.step w'.wd (fun a o e t => ?_) ?_ (fun i x e => ?_) ?_ lee (fun a o e => ?_) ⟨τ.mono lee w.tmp, hh.objs.size + 1, hh.objs.size, es, n, rfl, le2 _ _ (w'.le _ _ F1x), if_pos rfl, hes.mono le2⟩⟩
  ·exact w'.kept.heap a o (hk1 _ _ e) (fun hm => by rw [List.mem_singleton.mp hm] at e; exact Nat.lt_irrefl _ (Heap.lt_size e)) t
  ·have := w'.kept.size
   exact Nat.le_trans (by show hh.objs.size ≤ s1.heap.objs.size; omega) this
  ·exact w'.kept.gens i x e (by simp)
  ·exact w'.kept.gsize
  ·have e' : (if a = hh.objs.size then some (dictOf es n) else F' a) = some o := e
   by_cases q : a = hh.objs.size
   ·subst q
    rw [if_pos rfl] at e'
    cases e'
    exact .inr ⟨ho, Nat.le_refl _⟩
   ·rw [if_neg q] at e'
    have := w'.fz a o e'
    rcases this.2.2 with q2 | q2
    ·have q3 : (if a = hh.objs.size + 1 then some (instObj D hh.objs.size) else F a) = some o := q2
     by_cases q4 : a = hh.objs.size + 1
     ·exact .inr ⟨this.1, by subst q4; exact Nat.le_succ _⟩
     ·rw [if_neg q4] at q3; exact .inl q3
    ·exact .inr ⟨this.1, Nat.le_trans (by show hh.objs.size ≤ s1.heap.objs.size; omega) q2⟩
 rcases hfl with rfl | rfl
 ·exact ⟨rfl, _, rfl, fin⟩
 ·exact ⟨rfl, _, rfl, fin⟩
noncomputable def kR (K : Frag) (n : Nat) : Heap := ⟨Array.ofFn fun i : Fin n => (K.lookup i.val).getD ⟨.none, none, .freed, #[]⟩, {}⟩
theorem FSB.fr {F : Fz} {m : Str → Option Value} (w : FSB G C σ X Y τ s F m) : ∃ h₀ : Heap, Fr h₀ C.L s.heap m ∧ G.K.In h₀ := by
 have ge : ∀ a, (kR G.K G.H0.objs.size).objs[a]? = if a < G.H0.objs.size then some ((G.K.lookup a).getD ⟨.none, none, .freed, #[]⟩) else none := fun a => by
  unfold kR
  rw [Array.getElem?_ofFn]
  by_cases q : a < G.H0.objs.size
  ·rw [dif_pos q, if_pos q]
  ·rw [dif_neg q, if_neg q]
 refine ⟨kR G.K G.H0.objs.size, ⟨w.ns, fun b o e => ?_, ?_⟩, fun a o e => ?_⟩
 ·obtain ⟨e1, e2⟩ := Heap.get?_some_iff.mp e
  rw [ge] at e1
  split at e1
  ·cases q : G.K.lookup b with
   | none => rw [q] at e1; cases e1; cases e2
   | some o' => rw [q] at e1; cases e1; exact w.wd.K _ _ q
  ·cases e1
 ·have : (kR G.K G.H0.objs.size).objs.size = G.H0.objs.size := by unfold kR; simp
  rw [this]; exact w.dy w.loc.2
 ·refine Heap.get?_some_iff.mpr ⟨?_, (Heap.get?_some_iff.mp (w.wd.K _ _ e)).2⟩
  rw [ge, if_pos (G.klow _ _ e), e]; rfl
theorem EvT.prop {o : Expr} {D p fget : Addr} {fs : List (Str × VP)} {name : Str} {v : VP} {q : Pos} {rest : List Value} (ho : EvT G (k + 1) C σ o (aL D fs)) (hg : plainGet G.K D name = true) (hh : hasDictIn G.K D = true)
  (ha : findIn G.K (.ref D) name = some (some (.ref p))) (hn : specialIn G.K (.ref p) "__get__" = some (some (.builtin "property.__get__"))) (ht : takesIn G.K (.ref p) = some true) (hp : recIn G.K p "property" = some (.ref fget :: rest))
  (hf : FnT G k (.ref fget) [aL D fs] [] [] v) (hv : ∀ F y, v.p F y → handedIn y = true)
  (hb : autoParam (attributeBase o name C.env (eval o C.env) = eval o C.env) tcR) : EvT G (k + 1) C σ (.Attribute o name q) v := by
 intro A X Y τ s hA h
 refine gz hb (wpAny_mono (ho A X Y τ s hA h) (fun y s₁ h₁ => ?_) iz)
 have h₂ := h₁
 obtain ⟨F, m, w⟩ := h₂
 obtain ⟨x, d, es, n, rfl, e1, e2, r⟩ := w.tmp.2
 refine ag (w.fr) fun h₀ Fr₀ X₀ => ?_
 refine get_prop Fr₀ X₀ (w.ee e1 e2) hg hh ha hn ht hp ?_
 have h₃ : FS G ⟨C, σ, X, Y⟩ (τ.and ((aL D fs).at (.ref x))) { s₁ with toks := s₁.toks + 1 } := h₁.toks
 refine codeAny_mono (hf _ A.in1 _ _ [.ref x] [] hA.in1 h₃ fun F z => ⟨.cons z.2 .nil, .nil⟩) fun r s' hr => ?_
 refine ag (hr) fun y re0 hy => ?_; subst re0
 have e : handedIn y = true := hy.take fun F z => hv F y z.2
 show wpAny _ _ (handedOut y) _ _ _
 rw [handedOut_of e]
 exact wpAny_pure (hy.wk fun F z => ⟨z.1.1, z.2⟩)
theorem EvT.item {o i : Expr} {D f : Addr} {fs : List (Str × VP)} {vi v : VP} {q : Pos} (ho : EvT G (k + 1) C σ o (aL D fs)) (hi : EvT G (k + 1) C σ i vi) (hs : findIn G.K (.ref D) "__getitem__" = some (some (.ref f))) (hfn : fnIn G.K f = true) (hfi : isFn G.K (.ref f) = true)
  (hf : aw G k (.ref f) [aL D fs, vi] [] [] v) (hsl : ∀ x y, subscripted i true (.ref x) y = runValue (.builtin "lifetime.subscript" ⟨[.ref x, y], []⟩) := by intro _ _; with_unfolding_all rfl) : EvT G (k + 1) C σ (.Subscript o i q) v := by
 intro A X Y τ s hA h
 refine Subscript_ (wpAny_mono (ho A X Y τ s hA h) (fun y s₁ h₁ => wpAny_mono (hi A X Y _ s₁ hA h₁) (fun z s₂ h₂ => ?_) iz) iz)
 have h₃ := h₂
 obtain ⟨F, m, w⟩ := h₃
 obtain ⟨x, d, es, n, rfl, e1, e2, r⟩ := w.tmp.1.2
 refine ag (w.fr) fun h₀ Fr₀ X₀ => ?_
 refine sub_K Fr₀ X₀ (w.ee e1 e2) hs hfn hfi ?_ (hsl _ _)
 exact wpAny_mono (hf _ A.in1 _ _ [.ref x, z] [] hA.in1 h₂ fun F z => ⟨.cons z.1.2 (.cons z.2 .nil), .nil⟩) (fun y s' hy => hy.wk fun F z => ⟨z.1.1.1, z.2⟩) iz
noncomputable def VP.real (v : VP) : Prop := ∀ F y, v.p F y → y ≠ .notImplemented
theorem mX {b : Bool} : (vBool b).real := fun _ _ e => by rw [show _ = Value.bool b from e]; intro h; cases h
theorem m5 {D : Addr} {fs : List (Str × VP)} : (aL D fs).real := fun _ _ ⟨_, _, _, _, e, _, _, _⟩ => by rw [e]; intro h; cases h
theorem l9 {v : VP} {y : Value} (hv : v.real) (h : FS G I (τ.and (v.at y)) s) {Q : Value → Shared → Prop} (q : Q y s) : PySem.W.CmpBack Q y s := by
 have : y ≠ .notImplemented := h.take fun F z => hv F y z.2
 cases y <;> first | exact q | exact absurd rfl this
theorem AOk.units (h : AOk k A) : A.units < cLine := by have := h.2.2.2; omega
theorem aY.instInt {op : CmpOp} {D f : Addr} {fs : List (Str × VP)} {i : Int} {v : VP} (hop : ∀ (M : Model) (A : Around) (a b : Value) (Q : Value → Shared → Prop) (s : Shared), wpAny M A (richCompare op a b) Q ff s → wpAny M A (compareOp op a b) Q ff s) (hn : notFirst G.K D (.type "int") = true) (hs : findIn G.K (.ref D) (cmpInfo op).2.1 = some (some (.ref f))) (hf : isFn G.K (.ref f) = true)
  (hc : aw G k (.ref f) [aL D fs, vInt i] [] [] v) (hv : v.real) : aY G k op (aL D fs) (vInt i) v := by
 intro I A τ s a b hA hS hab
 have h := hS
 obtain ⟨F, m, w⟩ := h
 obtain ⟨⟨x, d, es, n, rfl, e1, e2, r⟩, t, rfl⟩ := hab F w.tmp
 refine ag (w.fr) fun h₀ Fr₀ X₀ => ?_
 refine hop _ _ _ _ _ _ (cmp_K hA.units Fr₀ X₀ (w.ee e1 e2) (Looks.of_pure (r := .type "int") rfl) hn hs hf ?_)
 exact wpAny_mono (hc _ A _ _ [.ref x, .int i t] [] hA hS fun F z => ⟨.cons (hab F z).1 (.cons (hab F z).2 .nil), .nil⟩) (fun y s' hy => l9 hv hy hy) iz
theorem cN.instInt {op : Operator} {D f : Addr} {fs : List (Str × VP)} {i : Int} {v : VP} {fo ro rc : Option Value} (hc : selfFirst G.K D = true) (hs : findIn G.K (.ref D) (PySem.dunder op.info.2) = some (some (.ref f))) (hf : isFn G.K (.ref f) = true) (hr : findIn G.K (.ref D) (dunderR op.info.2) = some rc) (hp : rc = none ∨ ∃ g : Addr, rc = some (.ref g))
  (h1 : findIn G.K (.type "int") (PySem.dunder op.info.2) = some fo) (h2 : findIn G.K (.type "int") (dunderR op.info.2) = some ro) (hsub : subIn G.K (.type "int") (.ref D) = some false)
  (hcall : aw G k (.ref f) [aL D fs, vInt i] [] [] v) (hv : v.real) : cN G k op (aL D fs) (vInt i) v := by
 intro I A τ s a b hA hS hab
 have h := hS
 obtain ⟨F, m, w⟩ := h
 obtain ⟨⟨x, d, es, n, rfl, e1, e2, r⟩, t, rfl⟩ := hab F w.tmp
 refine ag (w.fr) fun h₀ Fr₀ X₀ => ?_
 refine ksp_binT Fr₀ X₀ (w.ee e1 e2) (T := "int") rfl hc hs hf hr hp h1 h2 hsub ?_
 exact wpAny_mono (hcall _ A _ _ [.ref x, .int i t] [] hA hS fun F z => ⟨.cons (hab F z).1 (.cons (hab F z).2 .nil), .nil⟩) (fun y s' hy => l9 hv hy hy) iz
theorem Rel2.two {F : Fz} {a b : VP} {ys : List Value} (h : Rel2 F [a, b] ys) : ∃ y z, ys = [y, z] ∧ a.p F y ∧ b.p F z := by
 obtain _ | ⟨h1, _ | ⟨h2, _ | _⟩⟩ := h
 exact ⟨_, _, rfl, h1, h2⟩
theorem Rel2.one {F : Fz} {a : VP} {ys : List Value} (h : Rel2 F [a] ys) : ∃ y, ys = [y] ∧ a.p F y := by
 obtain _ | ⟨h1, _ | _⟩ := h
 exact ⟨_, rfl, h1⟩
theorem Rel2.none {F : Fz} {ys : List Value} (h : Rel2 F [] ys) : ys = [] := by cases h; rfl
theorem aw.ly {i : Int} {c : Value} {b : Bool} (e : kitOne G.K (.type "int") c = some b) : aw G k (.builtin "isinstance") [vInt i, vIs c] [] [] (vBool b) := by
 intro I A τ s ys zs hA hS hr
 obtain ⟨F, hF⟩ := hS.tau
 obtain ⟨⟨y, z, rfl, ⟨t, rfl⟩, rfl⟩, rfl⟩ := (⟨(hr F hF).1.two, (hr F hF).2.none⟩ : _ ∧ _)
 exact kia_one kitx_int hS.wd.K trivial e (by intro h; cases h) fun tk => hS.toks.wk fun F z => ⟨z, rfl⟩
theorem aw.jt {D : Addr} {fs : List (Str × VP)} {c : Value} {b : Bool} (hg : plainGet G.K D "__class__" = true) (hdct : hasDictIn G.K D = true) (ha : findIn G.K (.ref D) "__class__" = some (some (.builtin "object.__class__")))
  (hn : specialIn G.K (.builtin "object.__class__") "__get__" = some (some (.builtin "getset_descriptor.__get__"))) (htk : takesIn G.K (.builtin "object.__class__") = some true) (hm : mroIn G.K D (.type "object") = some true) (e : kitOne G.K (.ref D) c = some b) :
  aw G k (.builtin "isinstance") [aL D fs, vIs c] [] [] (vBool b) := by
 intro I A τ s ys zs hA hS hr
 have h := hS
 obtain ⟨F, m, w⟩ := h
 obtain ⟨⟨y, z, rfl, ⟨x, d, es, n, rfl, e1, e2, r⟩, rfl⟩, rfl⟩ := (⟨(hr F w.tmp).1.two, (hr F w.tmp).2.none⟩ : _ ∧ _)
 exact kia_one (kitx_own hg hdct ha hn htk hm) hS.wd.K (w.ee e1 e2) e (by intro h; cases h) fun tk => hS.toks.wk fun F z => ⟨z, rfl⟩
theorem aw.pB {i : Int} {cs : List Value} {b : Bool} (e : kitAny G.K (.type "int") cs = some b) : aw G k (.builtin "isinstance") [vInt i, aQ (cs.map vIs)] [] [] (vBool b) := by
 intro I A τ s ys zs hA hS hr
 have h := hS
 obtain ⟨F, m, w⟩ := h
 obtain ⟨⟨y, z, rfl, ⟨t, rfl⟩, a, its, rfl, ea, ra⟩, rfl⟩ := (⟨(hr F w.tmp).1.two, (hr F w.tmp).2.none⟩ : _ ∧ _)
 have : its = cs := by
  have q : ∀ {cs its : List Value}, Rel2 F (cs.map vIs) its → its = cs := by
   intro cs
   induction cs with
   | nil => intro its h; cases h; rfl
   | cons c cs ih => intro its h; obtain _ | ⟨h1, h2⟩ := h; rw [ih h2, show _ = c from h1]
  exact q ra
 subst this
 exact kia_tup kitx_int hS.wd.K trivial (w.fz _ _ ea).1 e (by intro h; cases h) fun tk => hS.toks.wk fun F z => ⟨z, rfl⟩
theorem aw.n6 {D : Addr} {fs : List (Str × VP)} {cs : List Value} {b : Bool} (hg : plainGet G.K D "__class__" = true) (hdct : hasDictIn G.K D = true) (ha : findIn G.K (.ref D) "__class__" = some (some (.builtin "object.__class__")))
  (hn : specialIn G.K (.builtin "object.__class__") "__get__" = some (some (.builtin "getset_descriptor.__get__"))) (htk : takesIn G.K (.builtin "object.__class__") = some true) (hm : mroIn G.K D (.type "object") = some true) (e : kitAny G.K (.ref D) cs = some b) :
  aw G k (.builtin "isinstance") [aL D fs, aQ (cs.map vIs)] [] [] (vBool b) := by
 intro I A τ s ys zs hA hS hr
 have h := hS
 obtain ⟨F, m, w⟩ := h
 obtain ⟨⟨y, z, rfl, ⟨x, d, es, n, rfl, e1, e2, r⟩, a, its, rfl, ea, ra⟩, rfl⟩ := (⟨(hr F w.tmp).1.two, (hr F w.tmp).2.none⟩ : _ ∧ _)
 have : its = cs := by
  have q : ∀ {cs its : List Value}, Rel2 F (cs.map vIs) its → its = cs := by
   intro cs
   induction cs with
   | nil => intro its h; cases h; rfl
   | cons c cs ih => intro its h; obtain _ | ⟨h1, h2⟩ := h; rw [ih h2, show _ = c from h1]
  exact q ra
 subst this
 exact kia_tup (kitx_own hg hdct ha hn htk hm) hS.wd.K (w.ee e1 e2) (w.fz _ _ ea).1 e (by intro h; cases h) fun tk => hS.toks.wk fun F z => ⟨z, rfl⟩
theorem FSB.k6 (h : FSB G C σ (Xo ++ X) (Yo ++ Y) τ s F m) (w : FSB G C' σ' X₁ Y₁ τ' s' F' m') (e1 : C'.s₀ = s) (e2 : C'.F₀ = F) (e3 : ∀ a ∈ C'.xa, a ∈ Xo.map (·.1)) (e4 : ∀ g ∈ C'.xg, g ∈ Yo.map (·.1))
  (hX : ∀ p ∈ X₂, (∃ o, s'.heap.get? p.1 = some o ∧ p.2.p F' o) ∧ C'.ey p.1 ∧ F' p.1 = none) (hn : (X₂.map (·.1)).Nodup) (hY : ∀ q ∈ Y₂, (∃ g, s'.gens[q.1]? = some g ∧ q.2.p F' g) ∧ C'.ot q.1) (hyn : (Y₂.map (·.1)).Nodup) :
  FSB G C σ (X₂ ++ X) (Y₂ ++ Y) (τ.and τ') s' F' m := by
 subst e1 e2
 have hle := w.le
 have hsz := w.kept.size
 have nXo : ∀ p ∈ Xo, C.ey p.1 ∧ p.1 ≠ C.L := fun p hp => let ⟨_, b, _, d⟩ := h.own p (List.mem_append_left _ hp); ⟨b, d⟩
 have xaP : ∀ a ∈ C'.xa, C.ey a ∧ a ≠ C.L := fun a ha => by
  refine ag (List.mem_map.mp (e3 a ha)) fun p hp re0 => ?_; subst re0
  exact nXo p hp
 have off : ∀ a, C'.F₀ a = none → a < C'.s₀.heap.objs.size → F' a = none := fun a e l => by
  cases q : F' a with
  | none => rfl
  | some o =>
   rcases (w.fz a o q).2.2 with r | r
   ·rw [e] at r; cases r
   ·exact absurd l (Nat.not_lt.mpr r)
 have nL : C.L ∉ C'.xa := fun hm => (xaP _ hm).2 rfl
 have nC : ∀ x c, C.env.cells.lookup x = some c → c ∉ C'.xa := fun x c e hm => (h.cells x c e).2.2.1 (by
  rw [List.map_append]; exact List.mem_append_left _ (e3 c hm))
 have nd := h.nodup
 rw [List.map_append] at nd
 have nd := List.nodup_append.mp nd
 have ynd := h.ynd
 rw [List.map_append] at ynd
 have ynd := List.nodup_append.mp ynd
 have cellk : ∀ x c v, C.env.cells.lookup x = some c → C'.s₀.heap.IsCell c v → s'.heap.IsCell c v := fun x c v e ⟨o, ho, hd⟩ => ⟨o, w.kept.heap _ _ ho (nC x c e) (Gd.ef (h.cells x c e).2.2.2.2), hd⟩
 have pr : ∀ {a}, C'.ey a → C.ey a ∧ a ≠ C.L := fun {a} p => by
  rcases p with p | p
  ·refine ⟨.inl (Nat.le_trans h.kept.size p), fun e => ?_⟩
   subst e
   exact absurd h.ns.lt (Nat.not_lt.mpr p)
  ·exact xaP a p
 exact {
  wd := w.wd
  kept := ⟨fun a o e q t => w.kept.heap a o (h.kept.heap a o e q t) (fun hm => by
    rcases (xaP a hm).1 with p | p
    ·exact absurd (Heap.lt_size e) (Nat.not_lt.mpr p)
    ·exact q p) t, Nat.le_trans h.kept.size hsz, fun i x e q => w.kept.gens i x (h.kept.gens i x e q) (fun hm => by
    refine ag (List.mem_map.mp (e4 i hm)) fun p hp re0 => ?_; subst re0
    rcases (h.gown p (List.mem_append_left _ hp)).2 with z | z
    ·have : p.1 < C.s₀.gens.size := by
      rcases Nat.lt_or_ge p.1 C.s₀.gens.size with l | l
      ·exact l
      ·rw [Array.getElem?_eq_none l] at e; cases e
     exact absurd this (Nat.not_lt.mpr z)
    ·exact q z), Nat.le_trans h.kept.gsize w.kept.gsize⟩
  base := h.base
  xab := h.xab
  xgb := h.xgb
  le := h.le.trans hle
  fz := fun a o e => by
   refine bx (w.fz a o e) fun p q r => ?_
   refine ⟨p, q, ?_⟩
   rcases r with r | r
   ·exact (h.fz a o r).2.2
   ·exact .inr (Nat.le_trans h.kept.size r)
  ns := let ⟨o, es, ep, ho, r⟩ := h.ns; ⟨o, es, ep, w.kept.heap _ _ ho nL (h.eU h.loc.2), r⟩
  loc := ⟨off _ h.loc.1 h.ns.lt, h.loc.2⟩
  fun_ := h.fun_
  glob := h.glob
  names := h.names
  vars := fun x v e => let ⟨y, a, b⟩ := h.vars x v e; ⟨y, a.keeps fun c v ec ic => cellk x c v ec ic, v.mono hle b⟩
  cells := fun x c e => by
   refine bY (h.cells x c e) fun nn0 b d d2 => ?_; obtain ⟨v, iv⟩ := nn0
   refine ⟨⟨v, cellk x c v e iv⟩, off _ b iv.lt, fun hm => ?_, d2⟩
   rw [List.map_append] at hm
   rcases List.mem_append.mp hm with hm | hm
   ·refine ag (List.mem_map.mp hm) fun p hp q => ?_
    have hp2 := (hX p hp).2.1
    rw [q] at hp2
    rcases hp2 with z | z
    ·exact absurd iv.lt (Nat.not_lt.mpr z)
    ·exact nC x c e z
   ·exact d (by rw [List.map_append]; exact List.mem_append_right _ hm)
  cellsInj := h.cellsInj
  own := fun p hp => by
   rcases List.mem_append.mp hp with hp | hp
   ·refine bx (hX p hp) fun a b c => ?_
    exact ⟨a, (pr b).1, c, (pr b).2⟩
   ·refine bY (h.own p (List.mem_append_right _ hp)) fun nn0 b c d => ?_; refine ag (nn0) fun o a r => ?_
    exact ⟨⟨o, w.kept.heap _ _ a (fun hm => nd.2.2 _ (e3 _ hm) _ (List.mem_map_of_mem hp) rfl) (h.eU b), p.2.mono hle r⟩, b, off _ c (Heap.lt_size a), d⟩
  nodup := by
   rw [List.map_append]
   refine List.nodup_append.mpr ⟨hn, nd.2.1, fun a ha b hb e => ?_⟩
   subst e
   refine ag (List.mem_map.mp ha) fun p hp q => ?_
   refine ag (List.mem_map.mp hb) fun p' hp' q' => ?_
   obtain ⟨⟨o, a', _⟩, _⟩ := h.own p' (List.mem_append_right _ hp')
   have hp2 := (hX p hp).2.1
   rcases hp2 with z | z
   ·rw [q'] at a'; rw [q] at z; exact absurd (Heap.lt_size a') (Nat.not_lt.mpr z)
   ·rw [q] at z; exact nd.2.2 _ (e3 _ z) _ hb rfl
  gown := fun q hq => by
   rcases List.mem_append.mp hq with hq | hq
   ·obtain ⟨a, b⟩ := hY q hq
    refine ⟨a, ?_⟩
    rcases b with b | b
    ·exact .inl (Nat.le_trans h.kept.gsize b)
    ·refine ag (List.mem_map.mp (e4 _ b)) fun p hp e => ?_
     exact e ▸ (h.gown p (List.mem_append_left _ hp)).2
   ·obtain ⟨⟨g, a, r⟩, b⟩ := h.gown q (List.mem_append_right _ hq)
    exact ⟨⟨g, w.kept.gens _ _ a fun hm => ynd.2.2 _ (e4 _ hm) _ (List.mem_map_of_mem hq) rfl, q.2.mono hle r⟩, b⟩
  ynd := by
   rw [List.map_append]
   refine List.nodup_append.mpr ⟨hyn, ynd.2.1, fun a ha b hb e => ?_⟩
   subst e
   refine ag (List.mem_map.mp ha) fun p hp q => ?_
   refine ag (List.mem_map.mp hb) fun p' hp' q' => ?_
   obtain ⟨⟨g, a', _⟩, _⟩ := h.gown p' (List.mem_append_right _ hp')
   rcases (hY p hp).2 with z | z
   ·have : p'.1 < C'.s₀.gens.size := by
     rcases Nat.lt_or_ge p'.1 C'.s₀.gens.size with l | l
     ·exact l
     ·rw [Array.getElem?_eq_none l] at a'; cases a'
    rw [q'] at this; rw [q] at z
    exact absurd this (Nat.not_lt.mpr z)
   ·rw [q] at z; exact ynd.2.2 _ (e4 _ z) _ hb rfl
  tmp := ⟨τ.mono hle h.tmp, w.tmp⟩ }
theorem FSB.lend (h : FSB G C σ (Xo ++ X) (Yo ++ Y) τ s F m) {env : Env} {xa : List Addr} {xg : List Nat} (hf : env.scope.kind = .function) (hg : env.globals = mainGlobals ∧ env.builtins = builtinsNs)
  (hxa : ∀ a ∈ xa, a ∈ Xo.map (·.1)) (hxg : ∀ g ∈ xg, g ∈ Yo.map (·.1)) (hL : env.locals ∈ xa) (hns : s.heap.Ns env.locals m') (hnm : (σ'.map (·.1)).Nodup)
  (hX : ∀ p ∈ X₁, (∃ o, s.heap.get? p.1 = some o ∧ p.2.p F o) ∧ p.1 ∈ xa ∧ p.1 ≠ env.locals) (hXn : (X₁.map (·.1)).Nodup) (hY : ∀ q ∈ Y₁, (∃ g, s.gens[q.1]? = some g ∧ q.2.p F g) ∧ q.1 ∈ xg) (hYn : (Y₁.map (·.1)).Nodup)
  (hv : ∀ x v, (x, some v) ∈ σ' → ∃ y, jb env m' s.heap x y ∧ v.p F y) (hc : ∀ x c, env.cells.lookup x = some c → (∃ v, s.heap.IsCell c v) ∧ F c = none ∧ c ∉ xa ∧ G.H0.objs.size ≤ c) (hci : ∀ x y c, env.cells.lookup x = some c → env.cells.lookup y = some c → x = y) (hτ : τ'.p F) :
  FSB G ⟨env, s, F, xa, xg⟩ σ' X₁ Y₁ τ' s F m' := by
 have xo : ∀ a ∈ xa, C.ey a ∧ F a = none ∧ a < s.heap.objs.size := fun a ha => by
  refine ag (List.mem_map.mp (hxa a ha)) fun p hp re0 => ?_; subst re0
  refine bY (h.own p (List.mem_append_left _ hp)) fun nn0 b c _ => ?_; refine ag (nn0) fun o e _ => ?_
  exact ⟨b, c, Heap.lt_size e⟩
 exact {
  wd := h.wd
  kept := .refl s
  base := h.wd.big
  xab := fun a ha => ⟨h.dy (xo a ha).1, (xo a ha).2.2⟩
  xgb := fun g hg => by
   refine ag (List.mem_map.mp (hxg g hg)) fun p hp re0 => ?_; subst re0
   obtain ⟨⟨g', e, _⟩, _⟩ := h.gown p (List.mem_append_left _ hp)
   rcases Nat.lt_or_ge p.1 s.gens.size with l | l
   ·exact l
   ·rw [Array.getElem?_eq_none l] at e; cases e
  le := Fz.le.refl _
  fz := fun a o e => let ⟨x, y, _⟩ := h.fz a o e; ⟨x, y, .inl e⟩
  ns := hns
  loc := ⟨(xo _ hL).2.1, .inr hL⟩
  fun_ := hf
  glob := hg
  names := hnm
  vars := hv
  cells := fun x c e => let ⟨a, b, d, f⟩ := hc x c e; ⟨a, b, fun hm => by
   refine ag (List.mem_map.mp hm) fun p hp q => ?_
   exact d (q ▸ (hX p hp).2.1), fun q => d (q ▸ hL), f⟩
  cellsInj := hci
  own := fun p hp => let ⟨a, b, c⟩ := hX p hp; ⟨a, .inr b, (xo _ b).2.1, c⟩
  nodup := hXn
  gown := fun q hq => let ⟨a, b⟩ := hY q hq; ⟨a, .inr b⟩
  ynd := hYn
  tmp := hτ }
structure Src where
 S : Nat → List (Addr × OP) → List (Nat × GP) → Prop
inductive FSS (G : Gd) (Sr : Src) (i : Nat) (C : Cx) (σ : Sto) (X : List (Addr × OP)) (Y : List (Nat × GP)) (τ : MP) (s : Shared) : Prop
 | mk (X₁ : List (Addr × OP)) (Y₁ : List (Nat × GP)) (h : Sr.S i X₁ Y₁) (w : FS G ⟨C, σ, X₁ ++ X, Y₁ ++ Y⟩ τ s) : FSS G Sr i C σ X Y τ s
noncomputable abbrev gM := List (Addr × Obj)
noncomputable def Cx.holds (C : Cx) (G : Gd) (H : gM) : Prop := ∀ p ∈ H, C.s₀.heap.get? p.1 = some p.2 ∧ p.1 ∉ C.xa ∧ G.H0.objs.size ≤ p.1 ∧ C.F₀ p.1 = none
structure aM (G : Gd) (k : Nat) (t : Expr) (it : Value) (S : Src) (H : gM) (l : List VP) : Prop where
 item : ∀ C σ X Y τ A s i v, AOk k A → C.holds G H → l[i]? = some v → FSS G S i C σ X Y τ s →
  wpAny G.M A (pyNext it) (fun r s' => ∃ x, r = some x ∧ wpAny G.M A (letOwnedTupleGo t it x) (fun _ s'' => FSS G S (i + 1) C σ X Y (τ.and (v.at x)) s'') ff s') ff s
 done : ∀ C σ X Y τ A s, AOk k A → C.holds G H → FSS G S l.length C σ X Y τ s → wpAny G.M A (pyNext it) (fun r s' => r = none ∧ FS G ⟨C, σ, X, Y⟩ τ s') ff s
 self : ∀ C σ X Y τ A s, AOk k A → C.holds G H → FSS G S 0 C σ X Y τ s → wpAny G.M A (pyIter it) (fun r s' => r = it ∧ FSS G S 0 C σ X Y τ s') ff s
inductive tK (G : Gd) (k : Nat) (t : Expr) (C : Cx) (σ : Sto) (X : List (Addr × OP)) (Y : List (Nat × GP)) (τ : MP) (Sp : List VP → Prop) (it : Value) (s : Shared) : Prop where
 | mk (S : Src) (l : List VP) (hl : Sp l) (W : aM G k t it S [] l) (h : FSS G S 0 C σ X Y τ s)
noncomputable def dd (G : Gd) (k : Nat) (t : Expr) (v : VP) (Sp : List VP → Prop) : Prop := ∀ C σ X Y τ A s y, AOk k A → FS G ⟨C, σ, X, Y⟩ τ s → (∀ F, τ.p F → v.p F y) →
 wpAny G.M A (pyIter y) (tK G k t C σ X Y τ Sp) ff s
theorem FSS.wk {G : Gd} {Sr : Src} {i : Nat} {C : Cx} {σ : Sto} {X : List (Addr × OP)} {Y : List (Nat × GP)} {τ τ' : MP} {s : Shared} (h : FSS G Sr i C σ X Y τ s) (hτ : ∀ F, τ.p F → τ'.p F) : FSS G Sr i C σ X Y τ' s := let ⟨a, b, c, d⟩ := h; ⟨a, b, c, d.wk hτ⟩
theorem bb {C : Cx} {G : Gd} : C.holds G [] := fun _ h => nomatch h
noncomputable def dk (G : Gd) (ka k : Nat) (t : Expr) (C : Cx) (σ : Sto) (e : Expr) (Sp : List VP → Prop) : Prop := ∀ A X Y τ s, AOk ka A → FS G ⟨C, σ, X, Y⟩ τ s →
 wpAny G.M A (eval e C.env) (fun y s₁ => wpAny G.M A (pyIter y) (tK G k t C σ X Y τ Sp) ff s₁) ff s
theorem dk.of {G : Gd} {ka k : Nat} {t : Expr} {C : Cx} {σ : Sto} {e : Expr} {v : VP} {Sp : List VP → Prop} (he : EvT G ka C σ e v) (hy : dd G k t v Sp) (hk : k ≤ ka) : dk G ka k t C σ e Sp := fun A X Y τ s hA h =>
 wpAny_mono (he A X Y τ s hA h) (fun y s₁ h₁ => wpAny_mono (hy C σ X Y _ A s₁ y (hA.le hk) h₁ fun F z => z.2) (fun it s₂ ⟨S, l, a, b, c⟩ => ⟨S, l, a, b, c.wk fun F z => z.1⟩) iz) iz
theorem dk.le {G : Gd} {ka ka' k : Nat} {t : Expr} {C : Cx} {σ : Sto} {e : Expr} {Sp : List VP → Prop} (h : dk G ka k t C σ e Sp) (hk : ka ≤ ka') : dk G ka' k t C σ e Sp := fun A X Y τ s hA hs => h A X Y τ s (hA.le hk) hs
theorem pW (s : Shared) (g : Nat) (x : GenState) : (s.setGen g x).heap = s.heap := rfl
theorem Runs.size_le {M : Model} {Γ : Ctx} {p : Pos} {t : Sem Fin} {fs : List Frame} {s s' : Shared} {e : End} (h : Runs M Γ p t fs s e s') : s.heap.objs.size ≤ s'.heap.objs.size := by
 induction h <;> (try simp only [Shared.setGen, Heap.size_push, (Heap.SameBut.update ..).1] at *) <;> omega
theorem Wakes.size_le {M : Model} {Γ : Ctx} {p : Pos} {g : Nat} {r : Resume} {s s' : Shared} {res : GenResult} (h : Wakes M Γ p g r s res s') : s.heap.objs.size ≤ s'.heap.objs.size := by
 unfold Wakes at h
 split at h
 ·exact h.elim
 ·split at h
  ·refine gK (h) fun e₁ s₁ hr _ _ re0 => ?_; subst re0; exact (Runs.size_le hr : (s.setGen g .running).heap.objs.size ≤ s₁.heap.objs.size)
  ·rw [h.2]; exact Nat.le_refl _
  ·rw [h.2]; exact Nat.le_refl _
 ·refine gK (h) fun e₁ s₁ hr _ _ re0 => ?_; subst re0; exact (Runs.size_le hr : (s.setGen g .running).heap.objs.size ≤ s₁.heap.objs.size)
 ·rw [h.2]; exact Nat.le_refl _
 ·rw [h.2]; exact Nat.le_refl _
theorem pd {α : Type} (M : Model) (Γ : Ctx) (n : Nat) (t : Sem α) : ∀ (Q : α → Pos → Shared → Prop) (E : Value → Pos → Shared → Prop) (p : Pos) (s : Shared), n ≤ s.heap.objs.size → Sem.wp M Γ t Q E p s →
  Sem.wp M Γ t (fun a p' s' => n ≤ s'.heap.objs.size ∧ Q a p' s') (fun e p' s' => n ≤ s'.heap.objs.size ∧ E e p' s') p s := by
 induction t with
 | pure a => intro Q E p s hn h; exact ⟨hn, h⟩
 | raise e => intro Q E p s hn h; exact ⟨hn, h⟩
 | unsupported _ => intro Q E p s _ h; exact h
 | finish _ => intro Q E p s _ h; exact h
 | rule _ k ih => intro Q E p s hn h; exact ih () Q E p s hn h
 | «at» p' k ih => intro Q E p s hn h; exact ih () Q E p' s hn h
 | load a _ k ih => intro Q E p s hn h; refine ag (h) fun o ho h => ?_; exact ⟨o, ho, ih o Q E p s hn h⟩
 | update a _ f k ih => intro Q E p s hn h; exact ⟨h.1, ih () Q E p _ (by show n ≤ (s.heap.update _ _).objs.size; rw [(Heap.SameBut.update ..).1]; exact hn) h.2⟩
 | loadIfAlive a k ih => intro Q E p s hn h; exact ih _ Q E p s hn h
 | point _ k ih => intro Q E p s hn h; exact ih () Q E p s hn h
 | register _ _ => intro Q E p s _ h; exact h
 | alloc o k ih => intro Q E p s hn h; exact ih _ Q E p _ (by show n ≤ (s.heap.push _).objs.size; rw [Heap.size_push]; exact Z21) h
 | fresh k ih => intro Q E p s hn h; exact ih _ Q E p _ hn h
 | ask k ih => intro Q E p s hn h; exact ih _ Q E p s hn h
 | choose src m k ih => intro Q E p s hn h; exact ⟨h.1, ih _ Q E p _ hn h.2⟩
 | os q _ k ih => intro Q E p s hn h; exact ih _ Q E p _ hn h
 | call c hd _ _ k ih => intro Q E p s hn h; refine ez (h) fun r s' hr h => ?_; exact ⟨r, s', hr, ih r Q E p s' (Nat.le_trans hn (Runs.size_le hr)) h⟩
 | handled own k ih => intro Q E p s hn h; exact ih _ Q E p s hn h
 | genState g k ih => intro Q E p s hn h; refine ag (h) fun st hs h => ?_; exact ⟨st, hs, ih _ Q E p s hn h⟩
 | newGen c k ih => intro Q E p s hn h; exact ih _ Q E p _ hn h
 | resume g r _ k ih => intro Q E p s hn h; refine ez (h) fun res s' hw h => ?_; exact ⟨res, s', hw, ih res Q E p s' (Nat.le_trans hn (Wakes.size_le hw)) h⟩
 | yield _ _ _ _ => intro Q E p s _ h; exact h
 | stack k ih => intro Q E p s hn h; exact ih _ Q E p s hn h
 | fork _ _ => intro Q E p s _ h; exact h
 | thread k ih => intro Q E p s hn h; exact ih _ Q E p s hn h
 | await _ _ _ _ _ => intro Q E p s _ h; exact h
theorem dR {α : Type} {M : Model} {A : Around} {s : Shared} {t : Sem α} {Q : α → Shared → Prop} {E : Value → Shared → Prop}
  (h : wpAny M A t (fun a s' => s.heap.objs.size ≤ s'.heap.objs.size → Q a s') (fun e s' => s.heap.objs.size ≤ s'.heap.objs.size → E e s') s) : wpAny M A t Q E s :=
 have h2 : wpAny M A t (fun a s' => s.heap.objs.size ≤ s'.heap.objs.size ∧ (s.heap.objs.size ≤ s'.heap.objs.size → Q a s')) (fun e s' => s.heap.objs.size ≤ s'.heap.objs.size ∧ (s.heap.objs.size ≤ s'.heap.objs.size → E e s')) s :=
  fun Γ p hΓ => pd M Γ s.heap.objs.size t _ _ p s (Nat.le_refl _) (h Γ p hΓ)
 wpAny_mono h2 (fun _ _ x => x.2 x.1) fun _ _ x => x.2 x.1
theorem Wd.uP (x : Wd G s) {a : Addr} (ha : G.H0.objs.size ≤ a) {h' : Heap} {tk : Nat} (hs : Heap.ExtBut a s.heap h') (hz : s.heap.objs.size ≤ h'.objs.size) : Wd G ⟨h', s.gens, s.drawn, tk, s.os⟩ := by
 have ne : ∀ b o, G.H0.get? b = some o → b ≠ a := fun b o e => Nat.ne_of_lt (Nat.lt_of_lt_of_le (Heap.lt_size e) ha)
 refine ⟨fun b o e => hs b o (fun q => by subst q; exact absurd (G.klow _ _ e) (Nat.not_lt.mpr ha)) (x.K b o e), ⟨fun b o e => ?_, fun b o e => let ⟨o', ho'⟩ := x.old.there b o e; ⟨o', hs _ _ (ne b o e) ho'⟩⟩, Nat.le_trans x.big hz,
  fun p hp => ?_, x.bns.extBut hs (Nat.ne_of_lt (Nat.lt_of_lt_of_le G.blow ha)), x.bare, x.os, hs _ _ (Nat.ne_of_lt (Nat.lt_of_lt_of_le G.hbm.2.2.1 ha)) x.mod⟩
 ·rcases x.old.old b o e with x | ⟨t, hc, vs, more, hv, x⟩ | ⟨rfl, hc, ⟨o', es, n, ho', r⟩, z⟩
  ·exact .inl (hs _ _ (ne b o e) x)
  ·exact .inr (.inl ⟨t, hc, vs, more, hv, hs _ _ (ne b o e) x⟩)
  ·exact .inr (.inr ⟨rfl, hc, ⟨o', es, n, hs _ _ (ne _ o e) ho', r⟩, fun key => by rw [OldK.staticOf_congr ((hs _ _ (ne _ o e) ho').trans ho'.symm) key]; exact z key⟩)
 ·obtain ⟨a', ps, b, c⟩ := x.tabs p hp
  have h1 := (G.ptab p hp).2.2.1
  have h2 := (G.ptab p hp).2.2.2.1
  refine ⟨a', ps, b.extBut hs (Nat.ne_of_lt (Nat.lt_of_lt_of_le h2 ha)) (Nat.ne_of_lt (Nat.lt_of_lt_of_le h1 ha)), ?_⟩
  obtain ⟨o, vs, file, tf, flags, tg, inF, text, tt, op, e1, r1, r2, r3, r4, r5, r6, e2, r⟩ := c
  exact ⟨o, vs, file, tf, flags, tg, inF, text, tt, op, hs _ _ (Nat.ne_of_lt (Nat.lt_of_lt_of_le h2 ha)) e1, r1, r2, r3, r4, r5, r6, hs _ _ (Nat.ne_of_lt (Nat.lt_of_lt_of_le h1 ha)) e2, r⟩
theorem FSB.iG {a : Addr} {P : OP} (h : FSB G C σ ((a, P) :: X) Y τ s F m) {h' : Heap} {tk : Nat} (hs : Heap.ExtBut a s.heap h') (hz : s.heap.objs.size ≤ h'.objs.size) : FSB G C σ X Y τ ⟨h', s.gens, s.drawn, tk, s.os⟩ F m := by
 refine bY (h.own (a, P) (.head _)) fun _ hpr hFa hL => ?_
 have nd := h.nodup
 rw [List.map_cons, List.nodup_cons] at nd
 have cellk : ∀ x c v, C.env.cells.lookup x = some c → s.heap.IsCell c v → h'.IsCell c v := fun x c v e ⟨o, ho, hd⟩ => ⟨o, hs _ _ (fun q => (h.cells x c e).2.2.1 (q ▸ .head _)) ho, hd⟩
 exact { h with
  wd := h.wd.uP (h.dy hpr) hs hz
  kept := ⟨fun b o e q t => hs b o (fun z => by
    subst z
    rcases hpr with p | p
    ·exact absurd (Heap.lt_size e) (Nat.not_lt.mpr p)
    ·exact q p) (h.kept.heap b o e q t), Nat.le_trans h.kept.size hz, h.kept.gens, h.kept.gsize⟩
  fz := fun b o e => let ⟨x, y⟩ := h.fz b o e; ⟨hs b o (fun z => by subst z; rw [hFa] at e; cases e) x, y⟩
  ns := h.ns.extBut hs (Ne.symm hL)
  vars := fun x v e => let ⟨y, b, d⟩ := h.vars x v e; ⟨y, b.keeps fun c v ec ic => cellk x c v ec ic, d⟩
  cells := fun x c e => let ⟨⟨v, iv⟩, b, d, f⟩ := h.cells x c e; ⟨⟨v, cellk x c v e iv⟩, b, fun hm => d (List.mem_cons_of_mem _ hm), f⟩
  own := fun p hp => let ⟨⟨o, a', r⟩, t⟩ := h.own p (.tail _ hp); ⟨⟨o, hs _ _ (fun q => nd.1 (List.mem_map.mpr ⟨p, hp, q⟩)) a', r⟩, t⟩
  nodup := nd.2 }
theorem FSB.chg {a : Addr} {P P' : OP} {o' : Obj} (h : FSB G C σ ((a, P) :: X) Y τ s F m) {h' : Heap} {tk : Nat} (hs : Heap.ExtBut a s.heap h') (hz : s.heap.objs.size ≤ h'.objs.size) (hn : h'.get? a = some o') (hP : P'.p F o') :
  FSB G C σ ((a, P') :: X) Y τ ⟨h', s.gens, s.drawn, tk, s.os⟩ F m := by
 refine bY (h.own (a, P) (.head _)) fun _ hpr hFa hL => ?_
 have nd := h.nodup
 rw [List.map_cons, List.nodup_cons] at nd
 exact (h.iG (tk := tk) hs hz).jZ hn hP hpr hFa hL nd.1 fun x c e q => (h.cells x c e).2.2.1 (q ▸ .head _)
theorem FSB.newX (h : FSB G C σ X Y τ s F m) {h' : Heap} {tk : Nat} {a : Addr} {o : Obj} {P : OP} (hk : ∀ b o, s.heap.get? b = some o → h'.get? b = some o) (hz : s.heap.objs.size ≤ h'.objs.size) (ha : s.heap.objs.size ≤ a) (ho : h'.get? a = some o) (hP : P.p F o) :
  FSB G C σ ((a, P) :: X) Y τ ⟨h', s.gens, s.drawn, tk, s.os⟩ F m := by
 have w := h.step (s' := ⟨h', s.gens, s.drawn, tk, s.os⟩) (τ' := τ) (h.wd.keeps hk hz h.wd.bare) (fun a o e _ => hk a o e) hz (iz) (Nat.le_refl _) (Fz.le.refl _) (fun a o e => .inl e) h.tmp
 refine w.jZ ho hP (.inl (Nat.le_trans h.kept.size ha)) ?_ ?_ ?_ ?_
 ·cases q : F a with
  | none => rfl
  | some o' => exact absurd (Heap.lt_size (h.fz _ _ q).1) (Nat.not_lt.mpr ha)
 ·intro e; subst e; exact absurd h.ns.lt (Nat.not_lt.mpr ha)
 ·intro hm
  refine ag (List.mem_map.mp hm) fun p hp e => ?_
  obtain ⟨⟨o', e', _⟩, _⟩ := h.own p hp
  rw [e] at e'
  exact absurd (Heap.lt_size e') (Nat.not_lt.mpr ha)
 ·intro x c e q
  subst q
  obtain ⟨⟨v, iv⟩, _⟩ := h.cells x c e
  exact absurd iv.lt (Nat.not_lt.mpr ha)
noncomputable def lU (I : Addr) (op : Nat → OP) : Src := ⟨fun i X₁ Y₁ => X₁ = [(I, op i)] ∧ Y₁ = []⟩
theorem aM.one {t : Expr} {I : Addr} {l : List VP} {op : Nat → OP} (T : String) (hT : (["enumerate", "zip", "dict_itemiterator", "dict_reverseitemiterator", "odict_iterator", "itertools.zip_longest", "itertools.pairwise"] : List String).contains T = false)
  (hcls : ∀ i F o, (op i).p F o → o.cls = .type T)
  (item : ∀ (A : Around) (s : Shared) (F : Fz) (o : Obj) (i : Nat) (v : VP), AOk k A → s.heap.get? I = some o → (op i).p F o → (∀ a o, F a = some o → s.heap.get? a = some o) → l[i]? = some v → F I = none →
   wpAny G.M A (pyNext (.ref I)) (fun r s' => ∃ x h' tk o', r = some x ∧ s' = ⟨h', s.gens, s.drawn, tk, s.os⟩ ∧ Heap.ExtBut I s.heap h' ∧ h'.get? I = some o' ∧ (op (i + 1)).p F o' ∧ v.p F x) ff s)
  (done : ∀ (A : Around) (s : Shared) (F : Fz) (o : Obj), AOk k A → s.heap.get? I = some o → (op l.length).p F o → (∀ a o, F a = some o → s.heap.get? a = some o) → F I = none →
   wpAny G.M A (pyNext (.ref I)) (fun r s' => ∃ h' tk, r = none ∧ s' = ⟨h', s.gens, s.drawn, tk, s.os⟩ ∧ Heap.ExtBut I s.heap h') ff s)
  (self : ∀ (A : Around) (s : Shared) (F : Fz) (o : Obj), s.heap.get? I = some o → (op 0).p F o → wpAny G.M A (pyIter (.ref I)) (fun r s' => r = .ref I ∧ s' = s) ff s) :
  aM G k t (.ref I) (lU I op) [] l where
 item := fun C σ X Y τ A s i v hA _ hl h => by
  obtain ⟨_, _, ⟨rfl, rfl⟩, F, m, w⟩ := h
  refine bY (w.own (I, op i) (.head _)) fun nn0 _ hFI _ => ?_; refine ag (nn0) fun o ho hp => ?_
  refine dR (wpAny_mono (item A s F o i v hA ho hp (fun a o e => (w.fz a o e).1) hl hFI) (fun r s' h => ?_) fun _ _ z => z.elim)
  refine pK (h) fun x h' tk o' re0 re1 hs hn hop hv => ?_; subst re0; subst re1
  intro hz
  refine ⟨x, rfl, ?_⟩
  have fin : FSS G (lU I op) (i + 1) C σ X Y (τ.and (v.at x)) ⟨h', s.gens, s.drawn, tk, s.os⟩ := ⟨_, _, ⟨rfl, rfl⟩, F, m, { w.chg hs hz hn hop with tmp := ⟨w.tmp, hv⟩ }⟩
  have go : wpAny G.M A (do
    let (.ref r, .ref a) := ((Value.ref I, x) : Value × Value) | return
    let o ← load r
    match o.cls, o.data with
    | .type n, .fields vs =>
     if ["enumerate", "zip", "dict_itemiterator", "dict_reverseitemiterator", "odict_iterator", "itertools.zip_longest", "itertools.pairwise"].contains n && vs[0]? == some (rawInt a) then
      rule "for.unpacks-the-owned-tuple"
      updateField r 0 .none
    | _, _ => pure () : Sem Unit) (fun _ s'' => FSS G (lU I op) (i + 1) C σ X Y (τ.and (v.at x)) s'') ff ⟨h', s.gens, s.drawn, tk, s.os⟩ := by
   cases x with
   | ref a =>
    refine wpAny_bind (wpAny_load hn ?_)
    rw [hcls _ _ _ hop]
    split
    ·rename_i n vs heq _
     cases heq
     rw [hT, Bool.false_and]
     exact wpAny_pure fin
    ·exact wpAny_pure fin
   | _ => exact wpAny_pure fin
  cases t <;> first | exact wpAny_pure fin | exact go
 done := fun C σ X Y τ A s hA _ h => by
  obtain ⟨_, _, ⟨rfl, rfl⟩, F, m, w⟩ := h
  refine bY (w.own (I, op l.length) (.head _)) fun nn0 _ hFI _ => ?_; refine ag (nn0) fun o ho hp => ?_
  refine dR (wpAny_mono (done A s F o hA ho hp (fun a o e => (w.fz a o e).1) hFI) (fun r s' h => ?_) fun _ _ z => z.elim)
  refine n8 (h) fun h' tk re0 re1 hs => ?_; subst re0; subst re1
  exact fun hz => ⟨rfl, F, m, w.iG hs hz⟩
 self := fun C σ X Y τ A s hA _ h => by
  have h2 := h
  obtain ⟨_, _, ⟨rfl, rfl⟩, F, m, w⟩ := h2
  obtain ⟨⟨o, ho, hp⟩, _⟩ := w.own (I, op 0) (.head _)
  refine wpAny_mono (self A s F o ho hp) (fun r s' z => ?_) fun _ _ z => z.elim
  obtain ⟨rfl, rfl⟩ := z
  exact ⟨rfl, h⟩
inductive rJ (l : List VP) (i : Nat) (F : Fz) (o : Obj) : Prop
 | mk (a : Addr) (ys : List Value) (n : Nat) (c : o.cls = .type "list_iterator") (d : o.data = .fields #[.ref a, .int i 0]) (e : F a = some (d9 ys n)) (r : Rel2 F l ys) : rJ l i F o
noncomputable def oLI (l : List VP) (i : Nat) : OP := ⟨rJ l i, fun h ⟨a, ys, n, c, d, e, r⟩ => ⟨a, ys, n, c, d, h _ _ e, r.mono h⟩⟩
inductive sR (l : List VP) (i : Nat) (F : Fz) (o : Obj) : Prop
 | mk (a : Addr) (ys : List Value) (c : o.cls = .type "tuple_iterator") (d : o.data = .fields #[.ref a, .int i 0]) (e : F a = some (eK ys)) (r : Rel2 F l ys) : sR l i F o
noncomputable def oTI (l : List VP) (i : Nat) : OP := ⟨sR l i, fun h ⟨a, ys, c, d, e, r⟩ => ⟨a, ys, c, d, h _ _ e, r.mono h⟩⟩
theorem aM.list {t : Expr} {I : Addr} {l : List VP} : aM G k t (.ref I) (lU I fun i => oLI l i) [] l := by
 refine aM.one "list_iterator" (by decide) (fun i F o ⟨_, _, _, c, _, _, _⟩ => c) ?_ ?_ ?_
 ·rintro A s F o i v hA ho ⟨a, ys, n, hc, hd, e, r⟩ hF hl hI
  refine ag (r.get hl) fun x hx hv => ?_
  refine wpAny_pyNext_list_item (l := a) (i := i) (items := ys.toArray) ⟨o, ho, hc, hd⟩ ⟨_, hF _ _ e, rfl, _, rfl⟩ (x := x) (by simpa using hx) fun h' hit hs => ?_
  refine cx (hit) fun o' ho' hc' hd' => ?_
  exact ⟨x, h', _, o', rfl, rfl, hs.extBut, ho', ⟨a, ys, n, hc', hd', e, r⟩, hv⟩
 ·rintro A s F o hA ho ⟨a, ys, n, hc, hd, e, r⟩ hF hI
  refine wpAny_pyNext_list_end (l := a) (items := ys.toArray) hA.1 ⟨o, ho, hc, hd⟩ ⟨_, hF _ _ e, rfl, _, rfl⟩ (by simp [← r.length]) fun h' hs => ⟨h', _, rfl, rfl, hs⟩
 ·rintro A s F o ho ⟨a, ys, n, hc, hd, e, r⟩
  exact wpAny_pyIter_listiter (l := a) (i := 0) ⟨o, ho, hc, hd⟩ ⟨rfl, rfl⟩
theorem aM.tup {t : Expr} {I : Addr} {l : List VP} : aM G k t (.ref I) (lU I fun i => oTI l i) [] l := by
 refine aM.one "tuple_iterator" (by decide) (fun i F o ⟨_, _, c, _, _, _⟩ => c) ?_ ?_ ?_
 ·rintro A s F o i v hA ho ⟨a, ys, hc, hd, e, r⟩ hF hl hI
  refine ag (r.get hl) fun x hx hv => ?_
  refine wpAny_pyNext_tuple_item (t := a) (i := i) (items := ys.toArray) ⟨o, ho, hc, hd⟩ ⟨_, hF _ _ e, rfl, _, rfl⟩ (x := x) (by simpa using hx) fun h' hit hs => ?_
  refine cx (hit) fun o' ho' hc' hd' => ?_
  exact ⟨x, h', _, o', rfl, rfl, hs.extBut, ho', ⟨a, ys, hc', hd', e, r⟩, hv⟩
 ·rintro A s F o hA ho ⟨a, ys, hc, hd, e, r⟩ hF hI
  refine wpAny_pyNext_tuple_end (t := a) (items := ys.toArray) hA.1 ⟨o, ho, hc, hd⟩ ⟨_, hF _ _ e, rfl, _, rfl⟩ (by simp [← r.length]) fun h' hs => ⟨h', _, rfl, rfl, hs⟩
 ·rintro A s F o ho ⟨a, ys, hc, hd, e, r⟩
  exact wpAny_pyIter_tupleiter (t := a) (i := 0) ⟨o, ho, hc, hd⟩ ⟨rfl, rfl⟩
theorem dd.list {t : Expr} {l : List VP} : dd G k t (ae l) (· = l) := by
 intro C σ X Y τ A s y hA h hy
 obtain ⟨F, m, w⟩ := h
 obtain ⟨a, ys, n, rfl, e, r⟩ := hy F w.tmp
 refine wpAny_pyIter_list (items := ys.toArray) ⟨_, (w.fz _ _ e).1, rfl, _, rfl⟩ ⟨_, l, rfl, aM.list, _, _, ⟨rfl, rfl⟩, F, m, ?_⟩
 exact w.newX (fun b o q => Heap.get?_push_of_some _ q) (by rw [Heap.size_push]; exact Z22) (Nat.le_refl _) (Heap.get?_push_size _ rfl) ⟨a, ys, n, rfl, rfl, e, r⟩
theorem dd.tup {t : Expr} {l : List VP} : dd G k t (aQ l) (· = l) := by
 intro C σ X Y τ A s y hA h hy
 obtain ⟨F, m, w⟩ := h
 obtain ⟨a, ys, rfl, e, r⟩ := hy F w.tmp
 refine wpAny_pyIter_tuple (items := ys.toArray) ⟨_, (w.fz _ _ e).1, rfl, _, rfl⟩ ⟨_, l, rfl, aM.tup, _, _, ⟨rfl, rfl⟩, F, m, ?_⟩
 exact w.newX (fun b o q => Heap.get?_push_of_some _ q) (by rw [Heap.size_push]; exact Z22) (Nat.le_refl _) (Heap.get?_push_size _ rfl) ⟨a, ys, rfl, rfl, e, r⟩
inductive IsRange (a b : Int) (F : Fz) (y : Value) : Prop
 | mk (x : Addr) (t u v : Tok) (e : y = .ref x) (q : F x = some { cls := .type "range", data := .fields #[.int a t, .int b u, .int 1 v] }) : IsRange a b F y
noncomputable def b6 (a b : Int) : VP := ⟨IsRange a b, fun h ⟨x, t, u, v, e, q⟩ => ⟨x, t, u, v, e, h _ _ q⟩⟩
noncomputable def aG (a : Int) (n : Nat) : List VP := (List.range n).map fun (i : Nat) => vInt (a + i)
noncomputable def oRI (a : Int) (n : Nat) (i : Nat) : OP := ⟨fun _ o => o = { cls := .type "range_iterator", dict := none, data := .fields #[rawInt (a + i), rawInt ((n : Int) - i), rawInt 1], slots := #[] }, fun _ e => e⟩
theorem aM.range {t : Expr} {I : Addr} {a : Int} {n : Nat} : aM G k t (.ref I) (lU I fun i => oRI a n i) [] (aG a n) := by
 refine aM.one "range_iterator" (by decide) (fun i F o e => by rw [show o = _ from e]) ?_ ?_ ?_
 ·intro A s F o i v hA ho e hF hl hI
  subst e
  have hi : i < n := by
   have := (List.getElem?_eq_some_iff.mp hl).1
   simpa [aG] using this
  have hv : v = vInt (a + i) := by
   rw [aG, List.getElem?_map, List.getElem?_range hi] at hl
   exact (Option.some.inj hl).symm
  subst hv
  refine wpAny_pyNext_range_item (x := a + i) (left := (n : Int) - i) (step := 1) ho uB fun h' hit hs => ?_
  refine ⟨_, h', _, _, rfl, rfl, hs.extBut, hit, ?_, ⟨_, rfl⟩⟩
  show _ = _
  have e1 : a + (i : Int) + 1 = a + ((i + 1 : Nat) : Int) := by omega
  have e2 : (n : Int) - i - 1 = (n : Int) - ((i + 1 : Nat) : Int) := by omega
  rw [e1, e2]
 ·intro A s F o hA ho e hF hI
  subst e
  refine wpAny_pyNext_range_end hA.1 ho (by simp [aG]) fun h' hs => ⟨h', _, rfl, rfl, hs⟩
 ·intro A s F o ho e
  subst e
  exact wpAny_pyIter_rangeiter ho ⟨rfl, rfl⟩
theorem dd.range {t : Expr} {a b : Int} (hsm : Builtin.Range.small a b 1 = true) : dd G k t (b6 a b) (· = aG a (Builtin.Range.rangeSize a b 1).toNat) := by
 intro C σ X Y τ A s y hA h hy
 obtain ⟨F, m, w⟩ := h
 obtain ⟨x, t', u, v, rfl, e⟩ := hy F w.tmp
 refine wpAny_pyIter_range (w.fz _ _ e).1 hsm ⟨_, _, rfl, aM.range, _, _, ⟨rfl, rfl⟩, F, m, ?_⟩
 refine w.newX (fun b o q => Heap.get?_push_of_some _ q) (by rw [Heap.size_push]; exact Z22) (Nat.le_refl _) (Heap.get?_push_size _ rfl) ?_
 show _ = _
 have : ((Builtin.Range.rangeSize a b 1).toNat : Int) = Builtin.Range.rangeSize a b 1 := Int.toNat_of_nonneg (by unfold Builtin.Range.rangeSize; split <;> (try split) <;> omega)
 simp [this]
inductive Wk : Sto → Sto → Prop where
 | nil : Wk [] []
 | keep {p : Str × Option VP} {σ σ' : Sto} : Wk σ σ' → Wk (p :: σ) (p :: σ')
 | drop {x : Str} {o : Option VP} {σ σ' : Sto} : Wk σ σ' → Wk ((x, o) :: σ) ((x, none) :: σ')
theorem K2 {p0 p1 : Str × Option VP} {σ σ' : Sto} (h : Wk σ σ') : Wk (p0 :: p1 :: σ) (p0 :: p1 :: σ') := .keep (.keep h)
theorem K3 {p0 p1 p2 : Str × Option VP} {σ σ' : Sto} (h : Wk σ σ') : Wk (p0 :: p1 :: p2 :: σ) (p0 :: p1 :: p2 :: σ') := .keep (K2 h)
theorem K4 {p0 p1 p2 p3 : Str × Option VP} {σ σ' : Sto} (h : Wk σ σ') : Wk (p0 :: p1 :: p2 :: p3 :: σ) (p0 :: p1 :: p2 :: p3 :: σ') := .keep (K3 h)
theorem K5 {p0 p1 p2 p3 p4 : Str × Option VP} {σ σ' : Sto} (h : Wk σ σ') : Wk (p0 :: p1 :: p2 :: p3 :: p4 :: σ) (p0 :: p1 :: p2 :: p3 :: p4 :: σ') := .keep (K4 h)
theorem K6 {p0 p1 p2 p3 p4 p5 : Str × Option VP} {σ σ' : Sto} (h : Wk σ σ') : Wk (p0 :: p1 :: p2 :: p3 :: p4 :: p5 :: σ) (p0 :: p1 :: p2 :: p3 :: p4 :: p5 :: σ') := .keep (K5 h)
theorem K7 {p0 p1 p2 p3 p4 p5 p6 : Str × Option VP} {σ σ' : Sto} (h : Wk σ σ') : Wk (p0 :: p1 :: p2 :: p3 :: p4 :: p5 :: p6 :: σ) (p0 :: p1 :: p2 :: p3 :: p4 :: p5 :: p6 :: σ') := .keep (K6 h)
theorem K8 {p0 p1 p2 p3 p4 p5 p6 p7 : Str × Option VP} {σ σ' : Sto} (h : Wk σ σ') : Wk (p0 :: p1 :: p2 :: p3 :: p4 :: p5 :: p6 :: p7 :: σ) (p0 :: p1 :: p2 :: p3 :: p4 :: p5 :: p6 :: p7 :: σ') := .keep (K7 h)
theorem K9 {p0 p1 p2 p3 p4 p5 p6 p7 p8 : Str × Option VP} {σ σ' : Sto} (h : Wk σ σ') : Wk (p0 :: p1 :: p2 :: p3 :: p4 :: p5 :: p6 :: p7 :: p8 :: σ) (p0 :: p1 :: p2 :: p3 :: p4 :: p5 :: p6 :: p7 :: p8 :: σ') := .keep (K8 h)
theorem K10 {p0 p1 p2 p3 p4 p5 p6 p7 p8 p9 : Str × Option VP} {σ σ' : Sto} (h : Wk σ σ') : Wk (p0 :: p1 :: p2 :: p3 :: p4 :: p5 :: p6 :: p7 :: p8 :: p9 :: σ) (p0 :: p1 :: p2 :: p3 :: p4 :: p5 :: p6 :: p7 :: p8 :: p9 :: σ') := .keep (K9 h)
theorem K11 {p0 p1 p2 p3 p4 p5 p6 p7 p8 p9 p10 : Str × Option VP} {σ σ' : Sto} (h : Wk σ σ') : Wk (p0 :: p1 :: p2 :: p3 :: p4 :: p5 :: p6 :: p7 :: p8 :: p9 :: p10 :: σ) (p0 :: p1 :: p2 :: p3 :: p4 :: p5 :: p6 :: p7 :: p8 :: p9 :: p10 :: σ') := .keep (K10 h)
theorem K12 {p0 p1 p2 p3 p4 p5 p6 p7 p8 p9 p10 p11 : Str × Option VP} {σ σ' : Sto} (h : Wk σ σ') : Wk (p0 :: p1 :: p2 :: p3 :: p4 :: p5 :: p6 :: p7 :: p8 :: p9 :: p10 :: p11 :: σ) (p0 :: p1 :: p2 :: p3 :: p4 :: p5 :: p6 :: p7 :: p8 :: p9 :: p10 :: p11 :: σ') := .keep (K11 h)
theorem K13 {p0 p1 p2 p3 p4 p5 p6 p7 p8 p9 p10 p11 p12 : Str × Option VP} {σ σ' : Sto} (h : Wk σ σ') : Wk (p0 :: p1 :: p2 :: p3 :: p4 :: p5 :: p6 :: p7 :: p8 :: p9 :: p10 :: p11 :: p12 :: σ) (p0 :: p1 :: p2 :: p3 :: p4 :: p5 :: p6 :: p7 :: p8 :: p9 :: p10 :: p11 :: p12 :: σ') := .keep (K12 h)
theorem D2 {x0 x1 : Str} {o0 o1 : Option VP} {σ σ' : Sto} (h : Wk σ σ') : Wk ((x0, o0) :: (x1, o1) :: σ) ((x0, none) :: (x1, none) :: σ') := .drop (.drop h)
theorem D3 {x0 x1 x2 : Str} {o0 o1 o2 : Option VP} {σ σ' : Sto} (h : Wk σ σ') : Wk ((x0, o0) :: (x1, o1) :: (x2, o2) :: σ) ((x0, none) :: (x1, none) :: (x2, none) :: σ') := .drop (D2 h)
theorem D4 {x0 x1 x2 x3 : Str} {o0 o1 o2 o3 : Option VP} {σ σ' : Sto} (h : Wk σ σ') : Wk ((x0, o0) :: (x1, o1) :: (x2, o2) :: (x3, o3) :: σ) ((x0, none) :: (x1, none) :: (x2, none) :: (x3, none) :: σ') := .drop (D3 h)
theorem D5 {x0 x1 x2 x3 x4 : Str} {o0 o1 o2 o3 o4 : Option VP} {σ σ' : Sto} (h : Wk σ σ') : Wk ((x0, o0) :: (x1, o1) :: (x2, o2) :: (x3, o3) :: (x4, o4) :: σ) ((x0, none) :: (x1, none) :: (x2, none) :: (x3, none) :: (x4, none) :: σ') := .drop (D4 h)
theorem D6 {x0 x1 x2 x3 x4 x5 : Str} {o0 o1 o2 o3 o4 o5 : Option VP} {σ σ' : Sto} (h : Wk σ σ') : Wk ((x0, o0) :: (x1, o1) :: (x2, o2) :: (x3, o3) :: (x4, o4) :: (x5, o5) :: σ) ((x0, none) :: (x1, none) :: (x2, none) :: (x3, none) :: (x4, none) :: (x5, none) :: σ') := .drop (D5 h)
theorem D7 {x0 x1 x2 x3 x4 x5 x6 : Str} {o0 o1 o2 o3 o4 o5 o6 : Option VP} {σ σ' : Sto} (h : Wk σ σ') : Wk ((x0, o0) :: (x1, o1) :: (x2, o2) :: (x3, o3) :: (x4, o4) :: (x5, o5) :: (x6, o6) :: σ) ((x0, none) :: (x1, none) :: (x2, none) :: (x3, none) :: (x4, none) :: (x5, none) :: (x6, none) :: σ') := .drop (D6 h)
theorem Wk.refl : ∀ (σ : Sto), Wk σ σ
 | [] => .nil
 | _ :: r => .keep (Wk.refl r)
theorem Wk.names {σ σ' : Sto} (h : Wk σ σ') : σ'.map (·.1) = σ.map (·.1) := by
 induction h with
 | nil => rfl
 | keep _ ih => simp only [List.map_cons, ih]
 | drop _ ih => simp only [List.map_cons, ih]
theorem Wk.mem {σ σ' : Sto} (h : Wk σ σ') : ∀ {x : Str} {v : VP}, (x, some v) ∈ σ' → (x, some v) ∈ σ := by
 induction h with
 | nil => intro x v h; exact h
 | keep _ ih =>
  intro x v h
  rcases List.mem_cons.mp h with e | h
  ·exact e ▸ .head _
  ·exact .tail _ (ih h)
 | drop _ ih =>
  intro x v h
  rcases List.mem_cons.mp h with e | h
  ·cases e
  ·exact .tail _ (ih h)
theorem FS.less (h : FS G ⟨C, σ, X, Y⟩ τ s) (hw : Wk σ σ') (hX : X'.Sublist X) (hY : Y'.Sublist Y) : FS G ⟨C, σ', X', Y'⟩ τ s := by
 obtain ⟨F, m, w⟩ := h
 exact ⟨F, m, w.weak (by rw [hw.names]; exact w.names) (fun x v e => ⟨v, hw.mem e, iz⟩) hX hY fun _ z => z⟩
noncomputable def dN (G : Gd) (k : Nat) (C : Cx) (σ : Sto) (t : Expr) (v : VP) (σ' : Sto) : Prop :=
 ∀ A X Y τ s y, AOk k A → FS G ⟨C, σ, X, Y⟩ τ s → (∀ F, τ.p F → v.p F y) → wpAny G.M A (assign t C.env y) (fun _ s' => FS G ⟨C, σ', X, Y⟩ τ s') ff s
theorem dN.name {x : Str} {v : VP} {p : Pos} (hx : C.st x) (hu : Upd σ x v σ') : dN G k C σ (.Name x p) v σ' :=
 fun _ _ _ _ _ _ _ h hv => wpAny_assign_Name (bL h hx hv hu fun _ h' => h')
theorem cA {e : Value → Sem Unit} {es : List (Value → Sem Unit)} {v : Value} {vs : List Value} : assignInOrder (e :: es) (v :: vs) = (do holding vs (e v); assignInOrder es vs) := rfl
theorem dN.pair {a b : Expr} {ctx : Nat} {va vb : VP} {p : Pos} (ha : dN G k C σ a va σ₁) (hb : dN G k C σ₁ b vb σ') (hs : autoParam (assignEach [a, b] C.env = [(false, assign a C.env), (false, assign b C.env)]) tcR) :
  dN G k C σ (.Tuple [a, b] ctx p) (aQ [va, vb]) σ' := by
 intro A X Y τ s y hA h hv
 have h₂ := h
 obtain ⟨F, m, w⟩ := h₂
 obtain ⟨t, ys, rfl, e, r⟩ := hv F w.tmp
 refine n8 (r.two) fun y1 y2 re0 v1 v2 => ?_; subst re0
 rw [arm_assign_Tuple]
 refine wpAny_bind (wpAny_standAt ?_)
 unfold unpack
 rw [hs]
 refine wpAny_bind (wpAny_holding (dR ?_))
 refine wpAny_unpackItems_tuple (items := #[y1, y2]) hA.1 ⟨_, (w.fz _ _ e).1, rfl, _, rfl⟩ fun h' hx hz => ?_
 have h₁ : FS G ⟨C, σ, X, Y⟩ ((τ.and (va.at y1)).and (vb.at y2)) ⟨h', s.gens, s.drawn, s.toks, s.os⟩ :=
  FS.grow (s := s) (τ := (τ.and (va.at y1)).and (vb.at y2)) ⟨F, m, { w with tmp := ⟨⟨w.tmp, v1⟩, v2⟩ }⟩ (fun b o q => hx b o (Nat.ne_of_lt (Heap.lt_size q)) q) hz
 refine wpAny_bind (wpAny_holding (wpAny_mono (ha A X Y _ _ y1 hA h₁ fun F z => z.1.2) (fun _ s₂ h₂ => ?_) iz))
 refine wpAny_bind (wpAny_holding (wpAny_mono (hb A X Y _ _ y2 hA h₂ fun F z => z.2) (fun _ s₃ h₃ => wpAny_pure (h₃.wk fun F z => z.1.1)) iz))
noncomputable def LpT (G : Gd) (C : Cx) (P : Prop) (σ : Sto) (X : List (Addr × OP)) (Y : List (Nat × GP)) (Ψ : Flow → Shared → Prop) : Flow → Shared → Prop := fun f s => match f with
 | .next => P ∧ FS G ⟨C, σ, X, Y⟩ MP.tt s
 | .cont => P ∧ FS G ⟨C, σ, X, Y⟩ MP.tt s
 | .brk => False
 | .ret v => Ψ (.ret v) s
theorem ExT.next {P : Prop} (hp : P) (hw : Wk σ σ') : ExT G k C σ X Y [] (LpT G C P σ' X Y Ψ) := .nil fun _ h => ⟨hp, h.less hw (List.Sublist.refl _) (List.Sublist.refl _)⟩
theorem ExT.pT {P : Prop} (hp : P) (hw : Wk σ σ') (hX : X'.Sublist X) : ExT G k C σ X Y [] (LpT G C P σ' X' Y Ψ) := .nil fun _ h => ⟨hp, h.less hw hX (List.Sublist.refl _)⟩
theorem cJ {prog : Program} {w : World} {R : Result → Shared → Prop} {target it body orelse env} (I : Nat → Shared → Prop)
  (turn : ∀ n s, I n s → wpAny (model prog w) A (pyNext it) (fun r s₁ => match r with
   | none => wpAny (model prog w) A (execs orelse env) (fun f s₃ => R (.ok f) s₃) ff s₁
   | some v => wpAny (model prog w) A (letOwnedTupleGo target it v) (fun _ s₂ => wpAny (model prog w) A (assign target env v) (fun _ s₃ => wpAny (model prog w) A (execs body env) (fun f s₄ => match f with
     | .next | .cont => ∃ m, m < n ∧ I m s₄
     | .brk => R (.ok .next) s₄
     | .ret v => R (.ok (.ret v)) s₄) ff s₃) ff s₂) ff s₁) ff s)
  (n : Nat) (h : I n s) : codeAny (model prog w) A (.forLoop target it body orelse env) R s := by
 refine codeAny_loop' rfl I (fun n s hI => ?_) n h
 show wpAny _ _ ((forTurn target it body orelse env).onRaise (fun x => do noteFrame x env; theTreesLotGoes x)) _ _ s
 refine wpAny_noted ?_
 simp only [forTurn]
 refine wpAny_bind (wpAny_standAt (wpAny_bind (wpAny_onRaise (wpAny_mono (turn n s hI) (fun r s₁ h₁ => ?_) fun _ _ h' => h'.elim))))
 cases r with
 | none => exact wpAny_pure (.inr ⟨rfl, codeAny_block (up h₁)⟩)
 | some v =>
  refine wpAny_bind (wpAny_mono h₁ (fun _ s₂ h₂ => ?_) fun _ _ h' => h'.elim)
  refine wpAny_bind (wpAny_mono h₂ (fun _ s₃ h₃ => wpAny_bind (wpAny_mono h₃ (fun f s₄ h₄ => ?_) fun _ _ h' => h'.elim)) fun _ _ h' => h'.elim)
  cases f with
  | next => exact wpAny_pure (.inl ⟨rfl, h₄⟩)
  | cont => exact wpAny_pure (.inl ⟨rfl, h₄⟩)
  | brk => exact wpAny_pure h₄
  | ret v => exact wpAny_pure h₄
inductive uH (G : Gd) (k : Nat) (C : Cx) (t : Expr) (body : List Stmt) (Y : List (Nat × GP)) (Ψ : Flow → Shared → Prop) (σ : Sto) (v : VP) (X : List (Addr × OP)) (P : Prop) (σ₁ : Sto) (X₁ : List (Addr × OP)) : Prop where
 | mk (σ' : Sto) (ha : dN G k C σ t v σ') (hb : ∀ Xf Yf, ExT G k C σ' (Xf ++ X) (Yf ++ Y) body (LpT G C P σ₁ (Xf ++ X₁) (Yf ++ Y) Ψ))
inductive ry (G : Gd) (k : Nat) (C : Cx) (t : Expr) (body rest : List Stmt) (Y : List (Nat × GP)) (Ψ : Flow → Shared → Prop) (σ : Sto) (X : List (Addr × OP)) (l : List VP) : Prop where
 | mk (P : Nat → Prop) (σs : Nat → Sto) (Xs : Nat → List (Addr × OP)) (p0 : P 0) (w0 : Wk σ (σs 0)) (x0 : Xs 0 = X) (turn : ∀ i v, l[i]? = some v → P i → uH G k C t body Y Ψ (σs i) v (Xs i) (P (i + 1)) (σs (i + 1)) (Xs (i + 1)))
  (fin : P l.length → ExT G k C (σs l.length) (Xs l.length) Y rest Ψ)
theorem ExT.cH {t iter : Expr} {body rest : List Stmt} {Sp : List VP → Prop} {p : Pos} (hit : dk G k k t C σ iter Sp)
  (step : ∀ l, Sp l → ry G k C t body rest Y Ψ σ X l)
  (hs : ∀ x, foldedSetIterable iter C.env x = pure x := by intro _; rfl) : ExT G k C σ X Y (.For t iter body [] p :: rest) Ψ := by
 intro A s hA h
 refine wpAny_execs_cons (wpAny_For (wpAny_mono (hit A X Y _ s hA h) (fun y s₁ h₁ => ?_) iz) hs)
 refine wpAny_mono h₁ (fun it s₂ h₂ => ?_) iz
 obtain ⟨S, l, hl, W, h₂⟩ := h₂
 obtain ⟨P, σs, Xs, p0, w0, x0, turn, fin⟩ := step l hl
 refine cJ (fun n s => ∃ i, n = l.length - i ∧ i ≤ l.length ∧ P i ∧ FSS G S i C (σs i) (Xs i) Y MP.tt s) (fun n s₃ ⟨i, en, hi, hp, h₃⟩ => ?_) l.length
  ⟨0, rfl, Nat.zero_le _, p0, let ⟨a, b, c, d⟩ := h₂; ⟨a, b, c, x0 ▸ d.less w0 (List.Sublist.refl _) (List.Sublist.refl _)⟩⟩
 rcases Nat.lt_or_ge i l.length with lt | ge
 ·have hv : l[i]? = some l[i] := List.getElem?_eq_getElem lt
  obtain ⟨σ', ha, hb⟩ := turn i l[i] hv hp
  refine wpAny_mono (W.item C (σs i) (Xs i) Y _ A s₃ i l[i] hA bb hv h₃) (fun r s₄ h₄ => ?_) iz
  obtain ⟨x, rfl, h₄⟩ := h₄
  refine wpAny_mono h₄ (fun _ s₅ h₅ => ?_) iz
  obtain ⟨Xf, Yf, hS, h₅⟩ := h₅
  refine wpAny_mono (ha A _ _ _ s₅ x hA h₅ fun F z => z.2) (fun _ s₆ h₆ => ?_) iz
  refine wpAny_mono (hb Xf Yf A s₆ hA (h₆.wk fun _ _ => trivial)) (fun f s₇ h₇ => ?_) iz
  cases f with
  | next => exact ⟨l.length - (i + 1), k8, i + 1, rfl, lt, h₇.1, Xf, Yf, hS, h₇.2⟩
  | cont => exact ⟨l.length - (i + 1), k8, i + 1, rfl, lt, h₇.1, Xf, Yf, hS, h₇.2⟩
  | brk => exact h₇.elim
  | ret v => exact h₇
 ·obtain rfl : i = l.length := Nat.le_antisymm hi ge
  refine wpAny_mono (W.done C _ _ Y _ A s₃ hA bb h₃) (fun r s₄ h₄ => ?_) iz
  obtain ⟨rfl, h₄⟩ := h₄
  exact wpAny_execs_nil (fin hp A s₄ hA h₄)
theorem EvT.tup {es : List Expr} {vl : List VP} {ctx : Nat} {p : Pos} (ha : af G k C σ p es vl) (hz : autoParam (vl.length ≤ 100) tcD) : EvT G k C σ (.Tuple es ctx p) (aQ vl) := by
 intro A X Y τ s hA h
 refine wpAny_Tuple_spliced (wpAny_mono (ha.ev A X Y τ s hA h) (fun ys s₁ h₁ => ?_) iz)
 have hl : ys.length ≤ 100 := by rw [h₁.take (P := ys.length = vl.length) fun F z => z.2.length]; exact hz
 refine ⟨by rw [sizeLine_eq]; exact Z1, h₁.made (fun b o e => Heap.get?_push_of_some _ e) (by rw [Heap.size_push]; exact Z22) fun F F' z _ _ hn => ?_⟩
 exact ⟨z.1, _, ys, rfl, hn _ _ (Heap.get?_push_size _ rfl) (Nat.le_refl _), z.2⟩
theorem EvT.list {es : List Expr} {vl : List VP} {p : Pos} (ha : af G k C σ p es vl) (hz : autoParam (vl.length ≤ 100) tcD) : EvT G k C σ (.List es p) (ae vl) := by
 intro A X Y τ s hA h
 refine wpAny_List_spliced (wpAny_mono (ha.ev A X Y τ s hA h) (fun ys s₁ h₁ => ?_) iz)
 have hl : ys.length ≤ 100 := by rw [h₁.take (P := ys.length = vl.length) fun F z => z.2.length]; exact hz
 refine ⟨by rw [sizeLine_eq]; exact Z1, h₁.made (fun b o e => Heap.get?_push_of_some _ e) (by rw [Heap.size_push]; exact Z22) fun F F' z _ _ hn => ?_⟩
 exact ⟨z.1, _, ys, _, rfl, hn _ _ (Heap.get?_push_size _ rfl) (Nat.le_refl _), z.2⟩
noncomputable def iP (G : Gd) (k : Nat) (value slice : Expr) (vo vi v : VP) : Prop :=
 ∀ I A τ s o i, AOk k A → FS G I τ s → (∀ F, τ.p F → vo.p F o ∧ vi.p F i) → wpAny G.M A (subscriptTail value slice o i) (fun y s' => FS G I (τ.and (v.at y)) s') ff s
theorem EvT.sub {value slice : Expr} {vo vi v : VP} {p : Pos} (ho : EvT G k C σ value vo) (hi : EvT G k C σ slice vi) (hs : iP G k value slice vo vi v) : EvT G k C σ (.Subscript value slice p) v := by
 intro A X Y τ s hA h
 refine Subscript_ (wpAny_mono (ho A X Y τ s hA h) (fun y s₁ h₁ => wpAny_mono (hi A X Y _ s₁ hA h₁) (fun z s₂ h₂ => ?_) iz) iz)
 exact wpAny_mono (hs _ A _ s₂ y z hA h₂ fun F z => ⟨z.1.2, z.2⟩) (fun r s₃ h₃ => h₃.wk fun F z => ⟨z.1.1.1, z.2⟩) iz
theorem fR {value slice : Expr} {o i : Value} {T id : String} {Q : Value → Shared → Prop} (hT : s.TypeIs o T)
  (hl : typeLookup (.type T) "__getitem__" = pure (some (.builtin id))) (h : wpAny G.M A (getItem o i) Q ff s)
  (hs : subscripted slice false o i = operate [o, i] (getItem o i)) :
  wpAny G.M A (subscriptTail value slice o i) Q ff s := by
 unfold subscriptTail
 refine wpAny_bind ?_
 rw [getitemInPython_of_ne hT.not_modules]
 refine wpAny_bind (wpAny_specialOf hT hl ?_)
 have fin : wpAny G.M A (subscripted slice false o i) (fun r s₃ => wpAny G.M A (letTemporaryGo value o r >>= fun _ => pure r) Q ff s₃) ff s := by
  rw [hs]
  exact wpAny_operating (wpAny_mono h (fun r s₃ h₃ => wpAny_bind (wpAny_letTemporaryGo (wpAny_pure h₃))) fun _ _ x => x)
 first
  | exact wpAny_pure (wpAny_bind fin)
  | exact wpAny_bind (wpAny_pure (wpAny_bind fin))
  | exact wpAny_bind fin
noncomputable abbrev iF (slice : Expr) : Prop := ∀ (o : Value) (i : Int) (t : Tok), subscripted slice false o (.int i t) = operate [o, .int i t] (getItem o (.int i t))
theorem iP.list {value slice : Expr} {l : List VP} {i : Int} {v : VP} (h0 : 0 ≤ i) (h1 : i < 2 ^ 63) (hv : l[i.toNat]? = some v) (hs : iF slice := by intro _ _ _; with_unfolding_all rfl) : iP G k value slice (ae l) (vInt i) v := by
 intro I A τ s o z hA h hv'
 have h₂ := h
 obtain ⟨F, m, w⟩ := h₂
 obtain ⟨⟨a, ys, n, rfl, e, r⟩, t, rfl⟩ := hv' F w.tmp
 obtain ⟨x, hx, vx⟩ := r.get hv
 have hL : s.heap.IsList a ys.toArray := ⟨_, (w.fz _ _ e).1, rfl, _, rfl⟩
 refine fR hL.typeIs slot_list_getitem.lookup (wpAny_getItem_list hL h0 h1 (x := x) (by simpa using hx) ⟨F, m, { w with tmp := ⟨w.tmp, vx⟩ }⟩) (hs _ _ _)
theorem iP.tup {value slice : Expr} {l : List VP} {i : Nat} {v : VP} (h1 : autoParam (i < l.length) tcD) (hv : autoParam (l[i]? = some v) tcR) (hz : autoParam (l.length < 2 ^ 62) tcD) (hs : iF slice := by intro _ _ _; with_unfolding_all rfl) : iP G k value slice (aQ l) (vInt i) v := by
 intro I A τ s o z hA h hv'
 have h₂ := h
 obtain ⟨F, m, w⟩ := h₂
 obtain ⟨⟨a, ys, rfl, e, r⟩, t, rfl⟩ := hv' F w.tmp
 obtain ⟨x, hx, vx⟩ := r.get hv
 have hL : IsTup s.heap a ys.toArray := ⟨_, (w.fz _ _ e).1, rfl, _, rfl⟩
 refine fR (hL.typeIs) slot_tuple_getitem.lookup (getItem_tuple hL Z33 (by omega) (j := i) ?_ (x := x) (by simpa using hx) ⟨F, m, { w with tmp := ⟨w.tmp, vx⟩ }⟩) (hs _ _ _)
 have : (i : Int) < ys.length := by rw [r.length]; exact Z36
 simp [seqIndex?]; omega
theorem aw.aN {l : List VP} (hz : l.length < 2 ^ 62) : aw G k (.builtin "len") [ae l] [] [] (vInt l.length) := by
 intro I A τ s ys zs hA hS hr
 have h := hS
 obtain ⟨F, m, w⟩ := h
 obtain ⟨⟨y, rfl, a, its, n, rfl, e, r⟩, rfl⟩ := (⟨(hr F w.tmp).1.one, (hr F w.tmp).2.none⟩ : _ ∧ _)
 refine call_len_list (items := its.toArray) ⟨_, (w.fz _ _ e).1, rfl, _, rfl⟩ (by simp [r.length]; omega) ?_
 exact hS.toks.wk fun F z => ⟨z, s.toks + 1, by simp [r.length]⟩
theorem aw.cf {n : Int} : aw G k (.type "range") [vInt n] [] [] (b6 0 n) := by
 intro I A τ s ys zs hA hS hr
 have h := hS
 obtain ⟨F, m, w⟩ := h
 obtain ⟨⟨y, rfl, t, rfl⟩, rfl⟩ := (⟨(hr F w.tmp).1.one, (hr F w.tmp).2.none⟩ : _ ∧ _)
 refine call_range_1 (hS.made (fun b o e => Heap.get?_push_of_some _ e) (by rw [Heap.size_push]; exact Z22) fun F F' z _ _ hn => ⟨z, _, _, _, _, rfl, hn _ _ (Heap.get?_push_size _ rfl) (Nat.le_refl _)⟩)
theorem aw.eC {a b : Int} : aw G k (.type "range") [vInt a, vInt b] [] [] (b6 a b) := by
 intro I A τ s ys zs hA hS hr
 have h := hS
 obtain ⟨F, m, w⟩ := h
 obtain ⟨⟨y, z, rfl, ⟨t, rfl⟩, u, rfl⟩, rfl⟩ := (⟨(hr F w.tmp).1.two, (hr F w.tmp).2.none⟩ : _ ∧ _)
 refine call_range_2 (hS.made (fun b o e => Heap.get?_push_of_some _ e) (by rw [Heap.size_push]; exact Z22) fun F F' z _ _ hn => ⟨z, _, _, _, _, rfl, hn _ _ (Heap.get?_push_size _ rfl) (Nat.le_refl _)⟩)
theorem aw.abs {i : Int} : aw G k (.builtin "abs") [vInt i] [] [] (vInt i.natAbs) := by
 intro I A τ s ys zs hA hS hr
 have h := hS
 obtain ⟨F, m, w⟩ := h
 obtain ⟨⟨y, rfl, t, rfl⟩, rfl⟩ := (⟨(hr F w.tmp).1.one, (hr F w.tmp).2.none⟩ : _ ∧ _)
 have e : (if i < 0 then -i else i) = (i.natAbs : Int) := by split <;> omega
 exact call_abs_int fun u tk => hS.toks.wk fun F z => ⟨z, u, by rw [e]⟩
inductive mn (l : List VP) (F : Fz) (o : Obj) : Prop
 | mk (ys : List Value) (n : Nat) (e : o = d9 ys n) (r : Rel2 F l ys) : mn l F o
noncomputable def aC (l : List VP) : OP := ⟨fun F o => mn l F o, fun h ⟨ys, n, e, r⟩ => ⟨ys, n, e, r.mono h⟩⟩
noncomputable def elems (S : Nat → Bool) : List Nat := (List.range 4).filter S
noncomputable def aB (S : Nat → Bool) (ts : Nat → Tok) : List (Int × Value) := (elems S).map fun (i : Nat) => ((i : Int), Value.int i (ts i))
noncomputable def aS (S : Nat → Bool) (mk f mv : Nat) (led : Bool) : SetTable := ⟨mk, (elems S).toArray, #[], f, led, mv, true⟩
noncomputable def cw (S : Nat → Bool) (k : Nat) : Nat → Bool := fun j => S j || decide (j = k)
noncomputable def ck (mk : Nat) : Prop := mk = 7 ∨ mk = 15 ∨ mk = 31
theorem lS (S : Nat → Bool) : elems S = (if S 0 then [0] else []) ++ ((if S 1 then [1] else []) ++ ((if S 2 then [2] else []) ++ (if S 3 then [3] else []))) := by
 unfold elems
 rw [show List.range 4 = [0, 1, 2, 3] from rfl]
 simp only [List.filter_cons, List.filter_nil]
 cases S 0 <;> cases S 1 <;> cases S 2 <;> cases S 3 <;> rfl
noncomputable def jv : List (List Nat) := [false, true].flatMap fun a => [false, true].flatMap fun b => [false, true].flatMap fun c => [false, true].map fun d => (if a then [0] else []) ++ ((if b then [1] else []) ++ ((if c then [2] else []) ++ (if d then [3] else [])))
theorem fQ (S : Nat → Bool) : elems S ∈ jv := by
 rw [lS]
 exact (by decide +kernel : ∀ a b c d : Bool, ((if a then [0] else []) ++ ((if b then [1] else []) ++ ((if c then [2] else []) ++ (if d then [3] else []))) : List Nat) ∈ jv) (S 0) (S 1) (S 2) (S 3)
theorem j7 {N : Nat} (h : ck N) : N ∈ [7, 15, 31] := by rcases h with h | h | h <;> rw [h] <;> decide
theorem sP {α : Type u} {f g : Nat → List Nat → α} {N : Nat} {l : List Nat} (hN : ck N) (hl : l ∈ jv) (h : [7, 15, 31].map (fun N => jv.map (f N)) = [7, 15, 31].map (fun N => jv.map (g N))) : f N l = g N l :=
 List.map_inj_left.mp (List.map_inj_left.mp h N (j7 hN)) l hl
theorem ua {α : Type u} {f g : Nat → Nat → List Nat → α} {k N : Nat} {l : List Nat} (hk : k < 4) (hN : ck N) (hl : l ∈ jv) (hc : l.contains k = false)
  (h : (List.range 4).map (fun k => [7, 15, 31].map fun N => (jv.filter fun l => !l.contains k).map (f k N)) = (List.range 4).map (fun k => [7, 15, 31].map fun N => (jv.filter fun l => !l.contains k).map (g k N))) : f k N l = g k N l :=
 List.map_inj_left.mp (List.map_inj_left.mp (List.map_inj_left.mp h k (List.mem_range.mpr hk)) N (j7 hN)) l (List.mem_filter.mpr ⟨hl, by rw [hc]; rfl⟩)
noncomputable def uU (k : Nat) (l : List Nat) : List Nat := (List.range 4).filter fun j => l.contains j || decide (j = k)
theorem jf {S : Nat → Bool} {k : Nat} (hk : k < 4) : (elems S).contains k = S k := by
 rw [Bool.eq_iff_iff, List.contains_iff_mem, elems, List.mem_filter, List.mem_range]
 exact ⟨fun h => h.2, fun h => ⟨hk, h⟩⟩
theorem mO {S : Nat → Bool} {k : Nat} : elems (cw S k) = uU k (elems S) :=
 List.filter_congr fun j hj => by rw [jf (List.mem_range.mp hj)]; rfl
theorem pN {S : Nat → Bool} {ts : Nat → Tok} {mk f mv k : Nat} {led : Bool} {t : Tok} (hk : k < 4) (hS : S k = false) (hm : ck mk) :
  layNew (aS S mk f mv led) (aB S ts).toArray k (.int k t) = ((aB (cw S k) (fun j => if j = k then t else ts j)).toArray, aS (cw S k) mk f mv led, false, false) := by
 unfold aS aB
 rw [mO]
 have h1 := fQ S
 have h2 := (jf (S := S) hk).trans hS
 generalize elems S = l at h1 h2
 apply ua (k := k) (N := mk) (l := l) hk hm h1 h2
 kernel_rfl
noncomputable def cj (led : Bool) (S : Nat → Bool) (ts : Nat → Tok) (mk ep f mv : Nat) : Obj := { cls := .type "set", dict := none, data := .set (aB S ts).toArray ep (aS S mk f mv led), slots := #[] }
inductive isSet (led : Bool) (S : Nat → Bool) (o : Obj) : Prop
 | mk (ts : Nat → Tok) (mk ep f mv : Nat) (h : ck mk) (e : o = cj led S ts mk ep f mv) : isSet led S o
noncomputable def Gd.led (G : Gd) : Bool := !G.w.params.followText "set-order"
inductive nk (G : Gd) (S : Nat → Bool) (F : Fz) (y : Value) : Prop
 | mk (a : Addr) (o : Obj) (e : y = .ref a) (h : F a = some o) (r : isSet G.led S o) : nk G S F y
noncomputable def ar (G : Gd) (S : Nat → Bool) : VP := ⟨fun F y => nk G S F y, fun h ⟨a, o, e, x, r⟩ => ⟨a, o, e, h _ _ x, r⟩⟩
noncomputable def bt (G : Gd) (S : Nat → Bool) : OP := ⟨fun _ o => isSet G.led S o, fun _ x => x⟩
theorem ax (S : Nat → Bool) : (elems S).length ≤ 4 := by unfold elems; exact Nat.le_trans (List.length_filter_le _ _) (by simp)
theorem ay {S : Nat → Bool} {k : Nat} : k ∈ elems S ↔ k < 4 ∧ S k = true := by unfold elems; simp [List.mem_filter]
theorem bB {S S' : Nat → Bool} (h : ∀ k, k < 4 → S k = S' k) : elems S = elems S' := by
 unfold elems
 exact List.filter_congr fun x hx => h x (by simpa using hx)
theorem isSet.congr {led : Bool} {S S' : Nat → Bool} {o : Obj} (h : ∀ k, k < 4 → S k = S' k) (x : isSet led S o) : isSet led S' o := by
 obtain ⟨ts, mk, ep, f, mv, hm, rfl⟩ := x
 refine ⟨ts, mk, ep, f, mv, hm, ?_⟩
 unfold cj aB aS
 rw [bB h]
theorem fP {S : Nat → Bool} {ts : Nat → Tok} {mk f mv : Nat} {led : Bool} (hm : ck mk) : (aS S mk f mv led).fits (aB S ts).toArray.size = true := by
 have := ax S
 unfold SetTable.fits SetTable.fill aS aB
 simp
 rcases hm with rfl | rfl | rfl <;> exact Z1
theorem jk {k : Nat} (hk : k < 4) : hashInt (k : Int) = k := by
 have : k = 0 ∨ k = 1 ∨ k = 2 ∨ k = 3 := Z70
 rcases this with rfl | rfl | rfl | rfl <;> decide
noncomputable def mM (S : Nat → Bool) (i : Int) : Bool := decide (0 ≤ i) && decide (i < 4) && S i.toNat
theorem f6 {S : Nat → Bool} {k : Nat} (hk : k < 4) : mM S (k : Int) = S k := by simp [mM]; omega
theorem gB {prog : Program} {w : World} {S : Nat → Bool} {ts : Nat → Tok} : ElemsOf (intKind prog w) (aB S ts) := by
 intro e he
 refine ag (List.mem_map.mp he) fun k hk re0 => ?_; subst re0
 have := (ay.mp hk).1
 exact ⟨⟨(k : Int), by simp [intKind, Value.isInt], by show (k : Int) = hashInt k; rw [jk this]⟩, rfl⟩
theorem jg {prog : Program} {w : World} {S : Nat → Bool} {ts : Nat → Tok} (i : Int) : mM S i = true ↔ ∃ e ∈ aB S ts, (intKind prog w).is i e.2 = true := by
 constructor
 ·intro h
  simp only [mM, Bool.and_eq_true, decide_eq_true_eq] at h
  refine ⟨((i.toNat : Int), .int i.toNat (ts i.toNat)), List.mem_map.mpr ⟨i.toNat, ay.mpr ⟨by omega, h.2⟩, rfl⟩, ?_⟩
  simp [intKind, Value.isInt]; omega
 ·rintro ⟨e, he, q⟩
  refine ag (List.mem_map.mp he) fun k hk re0 => ?_; subst re0
  have hk2 := ay.mp hk
  simp [intKind, Value.isInt] at q
  subst q
  rw [f6 hk2.1]; exact hk2.2
theorem isSet.setOf {prog : Program} {w : World} {h : Heap} {a : Addr} {led : Bool} {S : Nat → Bool} {o : Obj} (ho : h.get? a = some o) (x : isSet led S o) : h.SetOf (intKind prog w) a (mM S) (elems S).length := by
 obtain ⟨ts, mk, ep, f, mv, hm, rfl⟩ := x
 refine ⟨_, (aB S ts).toArray, ep, aS S mk f mv led, ho, ⟨rfl, rfl, rfl⟩, rfl, by simpa using gB, fun k => by simpa using jg k, ?_, fP hm, by simp [aB]⟩
 have := ax S
 have : (aB S ts).toArray.size ≤ 4 := by simp [aB]; assumption
 have e : scanBound = 4096 := rfl
 exact Z2
section
variable {prog : Program} {w : World} {E : Value → Shared → Prop}
theorem bc {a : Addr} {led : Bool} {S : Nat → Bool} {ts : Nat → Tok} {mk ep f mv : Nat} {Q : (Array (Int × Value) × Nat × SetTable) → Shared → Prop} (ho : s.heap.get? a = some (cj led S ts mk ep f mv)) (hm : ck mk)
  (h : Q ((aB S ts).toArray, ep, aS S mk f mv led) s) : wpAny (model prog w) A (setState a) Q E s := wpAny_setState_of ho rfl (fP hm) h
theorem jH {a : Addr} {led : Bool} {S : Nat → Bool} {o : Obj} {k : Nat} {t : Tok} {Q : Bool → Shared → Prop} (ho : s.heap.get? a = some o) (x : isSet led S o) (hk : k < 4)
  (h : ∀ h' o', Heap.SameBut a s.heap h' → h'.get? a = some o' → isSet led (cw S k) o' → Q (!S k) { s with heap := h' }) : wpAny (model prog w) A (setAddHashed a (.int k t) k) Q E s := by
 have SO := x.setOf (prog := prog) (w := w) ho
 obtain ⟨ts, mk, ep, f, mv, hm, rfl⟩ := x
 have hel : ElemsOf (intKind prog w) (aB S ts).toArray.toList := by simpa using gB
 have hb : (aB S ts).toArray.size < scanBound := by
  have := ax S
  have h2 : (aB S ts).toArray.size ≤ 4 := by simp [aB]; assumption
  have e : scanBound = 4096 := rfl
  exact Z2
 unfold setAddHashed setAddHashedIn
 refine wpAny_holding (wpAny_bind (bc ho hm ?_))
 dsimp only
 rw [byScan_of (knd := intKind prog w) rfl hb hel]
 simp only [↓reduceIte]
 unfold setAddByScan
 refine wpAny_bind ?_
 refine wpAny_bind (wpAny_rule ?_)
 rw [show ((k : Int)) = (intKind prog w).hash (k : Int) from (jk hk).symm]
 refine wpAny_bind (wpAny_setScan_of (knd := intKind prog w) (k := (k : Int)) (by simp [intKind, Value.isInt, jk hk]) ho rfl (fP hm) hel ?_)
 rw [show (intKind prog w).hash (k : Int) = (k : Int) from jk hk]
 have hmem := jg (prog := prog) (w := w) (S := S) (ts := ts) (k : Int)
 rw [f6 hk] at hmem
 cases hr : List.findIdx? (fun e => (intKind prog w).is (k : Int) e.2) (aB S ts).toArray.toList with
 | some j =>
  dsimp only
  refine ag (List.findIdx?_eq_some_iff_getElem.mp hr) fun hj hpj _ => ?_
  have hSk : S k = true := hmem.mpr ⟨_, by simpa using List.getElem_mem hj, hpj⟩
  refine wpAny_pure (wpAny_pure ?_)
  have := h s.heap _ (.refl a s.heap) ho (isSet.congr (S := S) (fun j _ => by unfold cw; by_cases q : j = k <;> simp [q, hSk]) ⟨ts, mk, ep, f, mv, hm, rfl⟩)
  rw [hSk] at this
  exact this
 | none =>
  dsimp only
  have hSk : S k = false := by
   cases q : S k with
   | false => rfl
   | true =>
    refine ag (hmem.mp q) fun e he hp => ?_
    have := List.findIdx?_eq_none_iff.mp hr e (by simpa using he)
    rw [hp] at this; cases this
  rw [pN hk hSk hm]
  dsimp only
  refine wpAny_bind (wpAny_pure ?_)
  refine wpAny_bind ?_
  rw [hashByValue_scannable 8 (x := .int k t) rfl]
  refine wpAny_pure ?_
  simp only [plainKind, ↓reduceIte]
  have hz : (aB (cw S k) (fun j => if j = k then t else ts j)).toArray.size ≤ sizeLine := by
   have := ax (cw S k)
   simp [aB]; rw [sizeLine_eq]; exact Z1
  refine wpAny_bind (wpAny_storeSet_of ho rfl ?_ hz)
  have hg : (s.heap.update a (Obj.putSet (aB (cw S k) (fun j => if j = k then t else ts j)).toArray (aS (cw S k) mk f mv led))).get? a = some (cj led (cw S k) (fun j => if j = k then t else ts j) mk (ep + 1) f mv) := by
   have := Heap.get?_update_self (Obj.putSet (aB (cw S k) (fun j => if j = k then t else ts j)).toArray (aS (cw S k) mk f mv led)) ho rfl
   exact this
  have ht : (aS (cw S k) mk f mv led).tooFull = false := by
   have := ax (cw S k)
   simp [SetTable.tooFull, SetTable.fill, aS]
   rcases hm with rfl | rfl | rfl <;> omega
  rw [ht]
  simp only [Bool.not_false, Bool.and_false, Bool.false_eq_true, ↓reduceIte]
  refine wpAny_pure ?_
  dsimp only
  have := h _ _ (Heap.SameBut.update ..) hg ⟨_, mk, ep + 1, f, mv, hm, rfl⟩
  rw [hSk] at this
  exact wpAny_pure this
end
noncomputable def bO (w : World) : Bool := !w.params.followText "set-order"
noncomputable def aD (w : World) : Obj := { cls := .type "set", dict := none, data := .set #[] 0 (.fresh 0 0 (bO w)) }
section
variable {prog : Program} {w : World} {E : Value → Shared → Prop}
theorem fh (l : List Value) (hc : checkBuiltinCall "set.__new__" ⟨.type "set" :: l, []⟩ = pure ()) {Q₁ : Value → Shared → Prop}
  (h : Q₁ (.ref s.heap.objs.size) { s with heap := s.heap.push (aD w) }) :
  codeAny (model prog w) A (.call (.builtin "set.__new__") ⟨.type "set" :: l, []⟩) (wants Q₁ E) s := by
 refine codeAny_of_tree ?_
 show wpAny _ A.in1 (do checkBuiltinCall "set.__new__" ⟨.type "set" :: l, []⟩; again (.builtin "set.__new__" ⟨.type "set" :: l, []⟩)) _ _ s
 refine wpAny_bind (wpAny_of_eq hc (wpAny_pure ⟨plainId_quiet F.plain_set_new _, codeAny_builtin F.entry_set_new ?_⟩))
 rw [Around.under_plainId F.plain_set_new _]
 unfold Builtin.«set.__new__» Builtin.Frozenset.newClass
 have hsub := sub_set_self
 obtain ⟨hp, g, d, tk, os⟩ := s
 dsimp only
 wp_walk
 refine wpAny_askSetting (wpAny_pure ?_)
 dsimp only
 simp only [newObj]
 refine wpAny_bind (wpAny_alloc (wpAny_pure ?_))
 exact wpAny_pure h
set_option maxRecDepth 100000 in
set_option maxHeartbeats 3200000 in
theorem ij {a : Value} {Q : Value → Shared → Prop}
  (h : wpAny (model prog w) A.in1.in1 (Builtin.Frozenset.updateFrom "set.__init__" s.heap.objs.size a) (fun _ s' => Q (.ref s.heap.objs.size) s') ff { s with heap := s.heap.push (aD w) }) :
  wpAny (model prog w) A (call (.type "set") [a]) Q ff s := by
 refine kT (F.called_set.mro) fun c tl hmro => ?_
 have hmade := F.called_set.made
 have hsub := F.called_set.sub
 refine wpAny_call (codeAny_of_tree ?_)
 show wpAny _ _ (callAny (.type "set") _) _ _ _
 refine wpAny_pure ⟨Code.quiet_builtin _ (by decide +kernel), codeAny_builtin F.entry_type_call ?_⟩
 rw [Around.under_plain (weight_type_call_type "set" [a] []) rfl]
 have h1 := F.called_set.notType
 have h2 := F.called_set.canCreate
 have hct := F.typeCall_set_1 a
 repeat (any_goals (first | assumption | wp_step))
 refine codeAny_mono (fh [a] (F.newCall_set_1 a) (E := ff) (Q₁ := fun obj s₁ => obj = .ref s.heap.objs.size ∧ s₁ = { s with heap := s.heap.push (aD w) }) ⟨rfl, rfl⟩) fun r s₁ hr => ?_
 cases r with
 | error e => exact hr
 | ok fl =>
  cases fl with
  | ret obj =>
   obtain ⟨rfl, rfl⟩ := hr
   have hS : (s.heap.push (aD w)).get? s.heap.objs.size = some (aD w) := Heap.get?_push_size _ rfl
   have hT : Shared.TypeIs { s with heap := s.heap.push (aD w) } (.ref s.heap.objs.size) "set" := ⟨_, hS, rfl⟩
   have hli := F.called_set.init.lookup
   have hbi := F.called_set.init.bind (.ref s.heap.objs.size)
   repeat (any_goals (first | assumption | wp_step))
   refine codeAny_mono (codeAny_call_builtin (R := wants (fun r s₂ => r = .none ∧ Q (.ref s.heap.objs.size) s₂) ff) F.called_set.init.plain F.entry_set_init (check_set_init_1 hT ?_)) fun r₂ s₂ hr₂ => ?_
   ·have hS' : (s.heap.push (aD w)).get? s.heap.objs.size = some { cls := .type "set", dict := none, data := .set #[] 0 (.fresh 0 0 (bO w)) } := hS
    unfold Builtin.«set.__init__» noKeywords
    generalize hU : Builtin.Frozenset.updateFrom = U
    wp_walk
    subst hU
    refine wpAny_mono h (fun _ s' h' => ?_) fun _ _ z => z.elim
    exact wpAny_pure ⟨rfl, h'⟩
   ·cases r₂ with
    | error e => exact hr₂
    | ok fl₂ =>
     cases fl₂ with
     | ret r =>
      obtain ⟨rfl, hS'⟩ := hr₂
      repeat (any_goals (first | assumption | wp_step))
     | _ => exact hr₂.elim
  | _ => exact hr.elim
set_option maxRecDepth 100000 in
set_option maxHeartbeats 3200000 in
theorem ip {Q : Value → Shared → Prop}
  (h : Q (.ref s.heap.objs.size) { s with heap := s.heap.push (aD w) }) :
  wpAny (model prog w) A (call (.type "set") []) Q ff s := by
 refine kT (F.called_set.mro) fun c tl hmro => ?_
 have hmade := F.called_set.made
 have hsub := F.called_set.sub
 refine wpAny_call (codeAny_of_tree ?_)
 show wpAny _ _ (callAny (.type "set") _) _ _ _
 refine wpAny_pure ⟨Code.quiet_builtin _ (by decide +kernel), codeAny_builtin F.entry_type_call ?_⟩
 rw [Around.under_plain (weight_type_call_type "set" [] []) rfl]
 have h1 := F.called_set.notType
 have h2 := F.called_set.canCreate
 have hct := F.typeCall_set_0
 repeat (any_goals (first | assumption | wp_step))
 refine codeAny_mono (fh [] F.newCall_set_0 (E := ff) (Q₁ := fun obj s₁ => obj = .ref s.heap.objs.size ∧ s₁ = { s with heap := s.heap.push (aD w) }) ⟨rfl, rfl⟩) fun r s₁ hr => ?_
 cases r with
 | error e => exact hr
 | ok fl =>
  cases fl with
  | ret obj =>
   obtain ⟨rfl, rfl⟩ := hr
   have hS : (s.heap.push (aD w)).get? s.heap.objs.size = some (aD w) := Heap.get?_push_size _ rfl
   have hT : Shared.TypeIs { s with heap := s.heap.push (aD w) } (.ref s.heap.objs.size) "set" := ⟨_, hS, rfl⟩
   have hli := F.called_set.init.lookup
   have hbi := F.called_set.init.bind (.ref s.heap.objs.size)
   repeat (any_goals (first | assumption | wp_step))
   refine codeAny_mono (codeAny_call_builtin (R := wants (fun r s₂ => r = .none ∧ Q (.ref s.heap.objs.size) s₂) ff) F.called_set.init.plain F.entry_set_init (check_set_init hT ?_)) fun r₂ s₂ hr₂ => ?_
   ·have hS' : (s.heap.push (aD w)).get? s.heap.objs.size = some { cls := .type "set", dict := none, data := .set #[] 0 (.fresh 0 0 (bO w)) } := hS
    unfold Builtin.«set.__init__» noKeywords
    wp_walk
    exact ⟨rfl, h⟩
   ·cases r₂ with
    | error e => exact hr₂
    | ok fl₂ =>
     cases fl₂ with
     | ret r =>
      obtain ⟨rfl, hS'⟩ := hr₂
      repeat (any_goals (first | assumption | wp_step))
     | _ => exact hr₂.elim
  | _ => exact hr.elim
theorem mf {id : String} {a : Addr} {y : Value} {T : String} {Q : Unit → Shared → Prop} (hT : s.TypeIs y T) (h1 : isSubtype (.type T) (.type "set") = pure false) (h2 : isSubtype (.type T) (.type "frozenset") = pure false) (h3 : (Value.type T == .type "dict") = false)
  (h : wpAny (model prog w) A (pyIter y) (fun it s' => codeAny (model prog w) A (.builtin "set.update.loop" ⟨[.ref a, it], []⟩) (fun r s'' => r = .ok (.ret .none) ∧ Q () s'') s') ff s) :
  wpAny (model prog w) A (Builtin.Frozenset.updateFrom id a y) Q ff s := by
 unfold Builtin.Frozenset.updateFrom
 refine wpAny_bind ?_
 unfold Builtin.Frozenset.isAnySet
 refine wpAny_bind (wpAny_isInstance hT h1 ?_)
 refine wpAny_isInstance hT h2 ?_
 simp only [Bool.false_eq_true, if_false]
 refine wpAny_bind ?_
 refine wpAny_typeOf hT ?_
 rw [h3]
 simp only [Bool.false_eq_true, if_false]
 refine wpAny_bind (wpAny_mono h (fun it s' hc => ?_) iz)
 refine wpAny_bind (wpAny_runValue (codeAny_mono hc fun r s'' hr => ?_))
 obtain ⟨rfl, hq⟩ := hr
 exact wpAny_pure hq
end
theorem fZ {α : Type} {M : Model} {A : Around} {s : Shared} {t : Sem α} {Q : α → Shared → Prop} {E : Value → Shared → Prop} (h : wpAny M A (pure () : Sem Unit) (fun _ s' => wpAny M A t Q E s') E s) : wpAny M A t Q E s :=
 wpAny_bind (m := (pure () : Sem Unit)) (f := fun _ => t) h
noncomputable def lb (S : Nat → Bool) (ns : List Nat) : Nat → Bool := fun j => S j || ns.contains j
theorem oi {S : Nat → Bool} : lb S [] = S := by funext j; simp [lb]
theorem mQ {S : Nat → Bool} {n : Nat} {ns : List Nat} : lb S (n :: ns) = lb (cw S n) ns := by
 funext j
 simp only [lb, cw, List.contains_cons]
 cases S j <;> simp
 by_cases q : j = n <;> simp [q]
theorem jm {a : Addr} {S : Nat → Bool} {n : Nat} {x : Value} (hn : n < 4) (h : FS G ⟨C, σ, X₁ ++ (a, bt G S) :: X, Y⟩ τ s) (hx : ∀ F, τ.p F → (vInt n).p F x) :
  wpAny G.M A (setAdd a x) (fun _ s' => FS G ⟨C, σ, X₁ ++ (a, bt G (cw S n)) :: X, Y⟩ τ s') ff s := by
 obtain ⟨F, m, w⟩ := h
 obtain ⟨t, rfl⟩ := hx F w.tmp
 obtain ⟨⟨o, ho, hs⟩, _⟩ := w.own (a, bt G S) (by simp)
 unfold setAdd
 refine wpAny_holding (wpAny_bind (wpAny_pyHash_int ?_))
 rw [jk hn]
 exact jH (s := { s with toks := s.toks + 1 }) ho hs hn fun h' o' hsb hg hi => ⟨F, m, w.iM (P' := bt G (cw S n)) hg hsb hi⟩
theorem setLoop {it : Value} {Src : Src} {H : gM} {a : Addr} {p : Pos} {x : Str} {l : List VP} (W : aM G k (.Name x p) it Src H l) (hA : AOk (k + 1) A) (hC : C.holds G H) : ∀ (ns : List Nat) (i : Nat) (S : Nat → Bool) (s : Shared),
  l.drop i = ns.map (fun (n : Nat) => vInt n) → i + ns.length = l.length → (∀ n ∈ ns, n < 4) → FSS G Src i C σ ((a, bt G S) :: X) Y τ s →
  codeAny G.M A (.builtin "set.update.loop" ⟨[.ref a, it], []⟩) (fun r s' => r = .ok (.ret .none) ∧ FS G ⟨C, σ, (a, bt G (lb S ns)) :: X, Y⟩ τ s') s := by
 intro ns
 induction ns with
 | nil =>
  intro i S s hd hi hn h
  refine codeAny_builtin F.entry_set_update_loop ?_
  rw [Around.under_plainId F.plain_set_update_loop _]
  show wpAny _ A.in1 (pyNext it >>= _) _ _ s
  have : i = l.length := by simpa using hi
  subst this
  refine wpAny_bind (up (wpAny_mono (W.done C σ _ Y τ A.in1 s hA.in1 hC h) (fun r s' h' => ?_) iz))
  obtain ⟨rfl, h'⟩ := h'
  exact wpAny_pure ⟨rfl, oi ▸ h'⟩
 | cons n ns ih =>
  intro i S s hd hi hn h
  refine codeAny_builtin F.entry_set_update_loop ?_
  rw [Around.under_plainId F.plain_set_update_loop _]
  show wpAny _ A.in1 (pyNext it >>= _) _ _ s
  have hl : l[i]? = some (vInt n) := by
   have := congrArg List.head? hd
   rw [List.head?_drop] at this
   simpa using this
  refine wpAny_bind (up (wpAny_mono (W.item C σ _ Y τ A.in1 s i (vInt n) hA.in1 hC hl h) (fun r s' h' => ?_) iz))
  obtain ⟨x, rfl, h'⟩ := h'
  refine fZ (up (wpAny_mono (show wpAny G.M A.in1 (pure () : Sem Unit) _ ff s' from h') (fun _ s' h' => ?_) iz))
  show wpAny _ A.in1 (holding [x] (setAdd a x) >>= _) _ _ s'
  obtain ⟨Xf, Yf, hS, h'⟩ := h'
  refine wpAny_bind (wpAny_holding (up (wpAny_mono (jm (hn n (.head _)) h' fun F z => z.2) (fun _ s'' h'' => ?_) iz)))
  refine wpAny_pure ⟨plainId_quiet F.plain_set_update_loop _, ?_⟩
  refine codeAny_mono (ih (i + 1) (cw S n) s'' ?_ (by simp at hi ⊢; exact Z85) (fun m hm => hn m (.tail _ hm)) ⟨Xf, Yf, hS, h''.wk fun F z => z.1⟩) fun r s₃ h₃ => ⟨h₃.1, mQ ▸ h₃.2⟩
  have := congrArg List.tail hd
  rw [List.tail_drop] at this
  simpa using this
theorem gD {α : Type} (next : Nat → Nat) : ∀ (fuel k : Nat) (left : List α) (out : Array α), left.length ≤ fuel → (pickOrder.go next fuel k left out).toList.Perm (out.toList ++ left)
 | 0, k, left, out, h => by
  have : left = [] := List.length_eq_zero_iff.mp (by omega)
  subst this
  simp [pickOrder.go]
 | fuel + 1, k, left, out, h => by
  unfold pickOrder.go
  cases q : left[next k % left.length]? with
  | none =>
   dsimp only
   have : left = [] := by
    cases left with
    | nil => rfl
    | cons x l =>
     have := List.getElem?_eq_none_iff.mp q
     have h2 : next k % (x :: l).length < (x :: l).length := Nat.mod_lt _ (by simp)
     omega
   subst this
   simp
  | some x =>
   dsimp only
   have hlt := (List.getElem?_eq_some_iff.mp q).1
   have hx := (List.getElem?_eq_some_iff.mp q).2
   have ih := gD next fuel (k + 1) (left.eraseIdx (next k % left.length)) (out.push x) (by rw [List.length_eraseIdx_of_lt hlt]; omega)
   refine ih.trans ?_
   rw [Array.toList_push, List.append_assoc]
   refine List.Perm.append_left _ ?_
   have e : left = left.take (next k % left.length) ++ x :: left.drop (next k % left.length + 1) := by
    rw [← hx, ← List.drop_eq_getElem_cons hlt, List.take_append_drop]
   rw [List.eraseIdx_eq_take_drop_succ]
   conv => rhs; rw [e]
   rw [List.singleton_append]
   exact List.perm_middle.symm
theorem eJ {α : Type} (next : Nat → Nat) (xs : Array α) : (pickOrder next xs).toList.Perm xs.toList := by
 have := gD next xs.size 0 xs.toList #[] (by simp)
 simpa [pickOrder] using this
noncomputable def unS (S T : Nat → Bool) : Nat → Bool := fun j => S j || T j
section
variable {prog : Program} {w : World} {E : Value → Shared → Prop}
theorem oB {a : Addr} {S : Nat → Bool} {ts : Nat → Tok} {mk ep f mv : Nat} {Q : Array (Int × Value) → Shared → Prop} (ho : s.heap.get? a = some (cj (bO w) S ts mk ep f mv)) (hm : ck mk)
  (h : ∀ l : List (Int × Value), l.Perm (aB S ts) → Q l.toArray s) : wpAny (model prog w) A (setWalk a) Q E s := by
 unfold setWalk
 refine wpAny_bind (bc ho hm ?_)
 dsimp only
 unfold setsByText
 refine wpAny_bind (wpAny_bind (wpAny_askSetting (wpAny_pure ?_)))
 dsimp only
 cases q : w.params.followText "set-order" with
 | true =>
  have q' : (model prog w).w.params.followText "set-order" = true := q
  rw [if_pos q']
  refine wpAny_bind (wpAny_askSetting (wpAny_pure ?_))
  have := h (pickOrder (w.params.setOrder a ep) (aB S ts).toArray).toList (by simpa using eJ (w.params.setOrder a ep) (aB S ts).toArray)
  rw [Array.toArray_toList] at this
  exact this
 | false =>
  have q' : ¬ ((model prog w).w.params.followText "set-order" = true) := by rw [show (model prog w).w.params.followText "set-order" = false from q]; decide
  have hl : bO w = true := by unfold bO; rw [q]; rfl
  rw [if_neg q', hl]
  split
  ·rename_i hd
   exact absurd hd Bool.false_ne_true
  ·exact wpAny_bind (wpAny_of_eq (a := ()) rfl (wpAny_pure (h _ (List.Perm.refl _))))
theorem jh {a : Addr} {S : Nat → Bool} {ts : Nat → Tok} {mk ep f mv : Nat} {others : List Addr} {filled : Option Addr} {Q : Array (Int × Value) → Shared → Prop} (ho : s.heap.get? a = some (cj (bO w) S ts mk ep f mv)) (hm : ck mk)
  (h : ∀ l : List (Int × Value), l.Perm (aB S ts) → Q l.toArray s) : wpAny (model prog w) A (setWalkUnseen a others filled) Q E s := by
 unfold setWalkUnseen
 refine wpAny_bind (bc ho hm ?_)
 dsimp only
 unfold setsByText
 refine wpAny_bind (wpAny_bind (wpAny_askSetting (wpAny_pure ?_)))
 dsimp only
 have e : ((model prog w).w.params.followText "set-order" || ((aS S mk f mv (bO w)).led && (aS S mk f mv (bO w)).plain) || decide ((aB S ts).toArray.size ≤ 1)) = true := by
  show (w.params.followText "set-order" || (bO w && true) || _) = true
  unfold bO
  cases w.params.followText "set-order" <;> rfl
 rw [if_pos e]
 exact oB ho hm h
theorem lu {a b : Addr} {ob : Obj} (hne : b ≠ a)
  {led : Bool} {f : (Int × Value) → PUnit → Sem (ForInStep PUnit)} (hf : ∀ (x : Int × Value) (s' : Shared) (Q : ForInStep PUnit → Shared → Prop), wpAny (model prog w) A (setAddHashed a x.2 x.1) (fun _ s'' => s''.heap.get? b = some ob ∧ Q (.yield ⟨⟩) s'') E s' → wpAny (model prog w) A (f x ⟨⟩) Q E s') :
  ∀ (l : List (Int × Value)) (S : Nat → Bool) (oa : Obj) (s : Shared) (Q : PUnit → Shared → Prop), (∀ e ∈ l, ∃ (k : Nat) (t : Tok), k < 4 ∧ e = ((k : Int), .int k t)) → s.heap.get? a = some oa → isSet led S oa → s.heap.get? b = some ob →
   (∀ h' o', Heap.SameBut a s.heap h' → h'.get? a = some o' → isSet led (fun j => S j || l.any (fun e => decide (e.1 = (j : Int)))) o' → Q ⟨⟩ { s with heap := h' }) → wpAny (model prog w) A (forIn l ⟨⟩ f) Q E s := by
 intro l
 induction l with
 | nil =>
  intro S oa s Q _ ho hs hb h
  rw [List.forIn_nil]
  exact wpAny_pure (h s.heap oa (.refl ..) ho (by simpa using hs))
 | cons e l ih =>
  intro S oa s Q hl ho hs hb h
  rw [List.forIn_cons]
  refine ez (hl e (.head _)) fun k t hk re0 => ?_; subst re0
  refine wpAny_bind (hf _ _ _ (jH ho hs hk fun h' o' hsb hg hi => ?_))
  have hb' : h'.get? b = some ob := (hsb.2 b hne).trans hb
  refine ⟨hb', ih (cw S k) o' { s with heap := h' } Q (fun e he => hl e (.tail _ he)) hg hi hb' fun h'' o'' hsb' hg' hi' => ?_⟩
  have := h h'' o'' (hsb.trans hsb') hg' (isSet.congr (fun j _ => by
   simp only [cw, List.any_cons, Bool.or_assoc]
   congr 1
   by_cases q : j = k
   ·subst q; simp
   ·have : ¬ ((k : Int) = (j : Int)) := by omega
    simp [q, this]) hi')
  exact this
theorem mH {a : Addr} {led : Bool} {S : Nat → Bool} {oa : Obj} {wanted : Nat} {Q : Unit → Shared → Prop} (ha : s.heap.get? a = some oa) (hs : isSet led S oa) (hw : wanted ≤ 16)
  (h : ∀ h' o', Heap.SameBut a s.heap h' → h'.get? a = some o' → isSet led S o' → Q () { s with heap := h' }) : wpAny (model prog w) A (setRelay a wanted) Q E s := by
 obtain ⟨ts, mk, ep, f, mv, hm, rfl⟩ := hs
 have hz : (aB S ts).toArray.size ≤ sizeLine := by
  have := ax S
  simp [aB]; rw [sizeLine_eq]; exact Z1
 obtain ⟨N, hN, hN2⟩ : ∃ N, SetTable.sizeAbove wanted = N + 1 ∧ ck N := by
  have cs : ∀ v : Fin 17, ∃ N, SetTable.sizeAbove v.val = N + 1 ∧ (N = 7 ∨ N = 15 ∨ N = 31) := by
   intro v
   have : SetTable.sizeAbove v.val = 8 ∨ SetTable.sizeAbove v.val = 16 ∨ SetTable.sizeAbove v.val = 32 := by revert v; decide
   rcases this with e | e | e
   ·exact ⟨7, e, .inl rfl⟩
   ·exact ⟨15, e, .inr (.inl rfl)⟩
   ·exact ⟨31, e, .inr (.inr rfl)⟩
  exact cs ⟨wanted, Z27⟩
 unfold setRelay
 refine wpAny_bind (bc ha hm ?_)
 dsimp only
 rw [hN, if_neg (by rw [sizeLine_eq]; rcases hN2 with rfl | rfl | rfl <;> omega)]
 unfold SetTable.relaid
 rw [hN, Nat.add_sub_cancel]
 generalize (aS S mk f mv led).movedTo N = mv'
 refine wpAny_bind (wpAny_of_eq (a := ((aB S ts).toArray, aS S N f mv' led)) ?_ ?_)
 ·unfold aS aB
  have h1 := fQ S
  generalize elems S = l at h1
  apply sP (N := N) (l := l) hN2 h1
  kernel_rfl
 ·refine wpAny_storeSet_of ha rfl ?_ hz
  exact h _ _ (Heap.SameBut.update ..) (Heap.get?_update_self (Obj.putSet (aB S ts).toArray (aS S N f mv' led)) ha rfl) ⟨ts, N, ep + 1, f, mv', hN2, rfl⟩
theorem i0 {a b : Addr} {each : Sem Unit} {S T : Nat → Bool} {oa ob : Obj} {Q : Unit → Shared → Prop} (hne : b ≠ a) (ha : s.heap.get? a = some oa) (hsa : isSet (bO w) S oa) (hb : s.heap.get? b = some ob) (hsb : isSet (bO w) T ob)
  (heach : ∀ (s' : Shared) (Q : Unit → Shared → Prop), s'.heap.get? b = some ob → Q () s' → wpAny (model prog w) A each Q E s')
  (h : ∀ h' o', Heap.SameBut a s.heap h' → h'.get? a = some o' → isSet (bO w) (unS S T) o' → Q () { s with heap := h' }) : wpAny (model prog w) A (setMerge a b each) Q E s := by
 obtain ⟨ts, mk, ep, f, mv, hm, rfl⟩ := hsb
 have szT := ax T
 have hz : (aB T ts).toArray.size ≤ sizeLine := by
  simp [aB]; rw [sizeLine_eq]; exact Z1
 unfold setMerge
 rw [if_neg (by simpa using Ne.symm hne)]
 refine wpAny_bind (bc hb hm ?_)
 dsimp only
 split
 ·rename_i he
  have : elems T = [] := by
   have : (aB T ts).length = 0 := by simpa using he
   simpa [aB] using this
  refine wpAny_pure (h s.heap oa (.refl ..) ha (hsa.congr fun k hk => ?_))
  have hT : T k = false := by
   cases q : T k with
   | false => rfl
   | true => have := ay.mpr ⟨hk, q⟩; simp_all
  simp [unS, hT]
 ·-- room
  have room : ∀ (Q' : Unit → Shared → Prop), (∀ h' o', Heap.SameBut a s.heap h' → h'.get? a = some o' → isSet (bO w) S o' → Q' () { s with heap := h' }) → wpAny (model prog w) A (setRoomFor a (aB T ts).toArray.size) Q' E s := by
   intro Q' hq
   have hsa2 := hsa
   obtain ⟨ts', mk', ep', f', mv', hm', rfl⟩ := hsa2
   unfold setRoomFor
   refine wpAny_bind (bc ha hm' ?_)
   dsimp only
   split
   ·rename_i wanted hw
    have : wanted = ((elems S).length + (elems T).length) * 2 := by
     unfold SetTable.roomFor at hw
     split at hw
     ·have := Option.some.inj hw
      simpa [aS, aB] using this.symm
     ·cases hw
    have := ax S
    exact mH ha hsa tY hq
   ·exact wpAny_pure (hq s.heap _ (.refl ..) ha hsa)
  refine wpAny_bind (room _ fun h₁ oa₁ hs₁ hg₁ hi₁ => ?_)
  have hb₁ : h₁.get? b = some (cj (bO w) T ts mk ep f mv) := (hs₁.2 b hne).trans hb
  have hi₂ := hi₁
  obtain ⟨ts', mk', ep', f', mv', hm', rfl⟩ := hi₂
  refine wpAny_bind (bc (s := { s with heap := h₁ }) hg₁ hm' ?_)
  dsimp only
  have empt : ∀ {r}, (aS S mk' f' mv' (bO w)).road (aS T mk f mv (bO w)) = r → r ≠ .oneByOne → ∀ k, k < 4 → T k = unS S T k := by
   intro r hr hn k hk
   have : elems S = [] := by
    unfold SetTable.road SetTable.fill aS at hr
    simp at hr
    cases q : elems S with
    | nil => rfl
    | cons x l => rw [q] at hr; simp at hr; exact absurd hr.symm hn
   have hS : S k = false := by
    cases q : S k with
    | false => rfl
    | true => have := ay.mpr ⟨hk, q⟩; simp_all
   simp [unS, hS]
  split
  ·rename_i hr
   refine wpAny_storeSet_of (s := { s with heap := h₁ }) hg₁ rfl ?_ hz
   refine h _ _ (hs₁.trans (Heap.SameBut.update ..)) (Heap.get?_update_self (Obj.putSet _ _) hg₁ rfl) (isSet.congr (empt hr (by decide)) ⟨ts, mk, ep' + 1, f', mv', hm, ?_⟩)
   simp [cj, Obj.putSet, aS]
  ·rename_i hr
   refine wpAny_bind (wpAny_of_eq (a := ((aB T ts).toArray, aS T mk' f' mv' (bO w))) ?_ ?_)
   ·unfold aS aB
    dsimp only
    rw [Bool.and_self]
    have h1 := fQ T
    generalize elems T = l at h1
    apply sP (N := mk') (l := l) hm' h1
    kernel_rfl
   ·refine wpAny_storeSet_of (s := { s with heap := h₁ }) hg₁ rfl ?_ hz
    exact h _ _ (hs₁.trans (Heap.SameBut.update ..)) (Heap.get?_update_self (Obj.putSet _ _) hg₁ rfl) (isSet.congr (empt hr (by decide)) ⟨ts, mk', ep' + 1, f', mv', hm', rfl⟩)
  ·refine wpAny_bind (jh (s := { s with heap := h₁ }) hb₁ hm fun l hl => ?_)
   rw [← Array.forIn_toList]
   have hmem : ∀ e ∈ l, ∃ (k : Nat) (t : Tok), k < 4 ∧ e = ((k : Int), Value.int k t) := fun e he => by
    refine ag (List.mem_map.mp (hl.mem_iff.mp he)) fun k hk re0 => ?_; subst re0
    exact ⟨k, ts k, (ay.mp hk).1, rfl⟩
   refine wpAny_bind (lu (b := b) (ob := cj (bO w) T ts mk ep f mv) hne (fun x s' Q' hq => ?_) l S _ { s with heap := h₁ } _ hmem hg₁ hi₁ hb₁ fun h₂ o₂ hs₂ hg₂ hi₂ => ?_)
   ·refine wpAny_bind (wpAny_holding (wpAny_mono hq (fun _ s'' hq' => ?_) iz))
    refine wpAny_bind (heach _ _ hq'.1 ?_)
    refine wpAny_bind (bc hq'.1 hm ?_)
    simp only [bne_self_eq_false, Bool.false_eq_true, if_false]
    first | exact wpAny_pure hq'.2 | exact wpAny_bind (wpAny_pure hq'.2)
   ·refine wpAny_pure (h h₂ o₂ (hs₁.trans hs₂) hg₂ (isSet.congr (fun j hj => ?_) hi₂))
    simp only [unS]
    congr 1
    cases q : T j with
    | true =>
     rw [List.any_eq_true]
     exact ⟨((j : Int), .int j (ts j)), hl.mem_iff.mpr (List.mem_map.mpr ⟨j, ay.mpr ⟨hj, q⟩, rfl⟩), by simp⟩
    | false =>
     rw [List.any_eq_false]
     intro e he hd
     refine ag (List.mem_map.mp (hl.mem_iff.mp he)) fun k hk re0 => ?_; subst re0
     have h3 : (k : Int) = (j : Int) := by simpa using hd
     have : k = j := Z34
     subst this
     rw [(ay.mp hk).2] at q; cases q
end
noncomputable def inS (S T : Nat → Bool) : Nat → Bool := fun j => S j && T j
theorem m7 : entryFor table "set.__and__" = some Builtin.«frozenset.__and__» :=
 entryFor_alias (id' := "frozenset.__and__") (by kernel_rfl) rfl (by decide +kernel) (by kernel_rfl)
theorem la : entryFor table "set.union" = some Builtin.«frozenset.union» :=
 entryFor_alias (id' := "frozenset.union") (by kernel_rfl) rfl (by decide +kernel) (by kernel_rfl)
theorem fG : entryFor table "set.__iter__" = some Builtin.«frozenset.__iter__» :=
 entryFor_alias (id' := "frozenset.__iter__") (by kernel_rfl) rfl (by decide +kernel) (by kernel_rfl)
section
variable {prog : Program} {w : World} {E : Value → Shared → Prop}
theorem isSet.typeIs {led : Bool} {S : Nat → Bool} {o : Obj} {a : Addr} (ho : s.heap.get? a = some o) (x : isSet led S o) : s.TypeIs (.ref a) "set" := by
 obtain ⟨ts, mk, ep, f, mv, hm, rfl⟩ := x
 exact ⟨_, ho, rfl⟩
theorem bF : isSet (bO w) (fun _ => false) (aD w) := ⟨fun _ => 0, 7, 0, 0, 0, .inl rfl, rfl⟩
theorem l3 {Q : Value → Shared → Prop} (h : Q (.ref s.heap.objs.size) { s with heap := s.heap.push (aD w) }) : wpAny (model prog w) A (newSet (.type "set")) Q E s := by
 unfold newSet setsByText
 refine wpAny_bind (wpAny_bind (wpAny_askSetting (wpAny_pure ?_)))
 dsimp only
 simp only [newObj]
 exact wpAny_bind (wpAny_alloc (wpAny_pure h))
theorem dW {v : Value} {Q : Bool → Shared → Prop} (hT : s.TypeIs v "set") (h : Q true s) : wpAny (model prog w) A (Builtin.Frozenset.isAnySet v) Q E s := by
 unfold Builtin.Frozenset.isAnySet
 refine wpAny_bind (wpAny_isInstance hT sub_set_self ?_)
 exact wpAny_pure h
theorem kC {a : Addr} {Q : Value → Shared → Prop} (hT : s.TypeIs (.ref a) "set") (h : Q (.type "set") s) : wpAny (model prog w) A (Builtin.Frozenset.baseOf a) Q E s := by
 unfold Builtin.Frozenset.baseOf
 refine wpAny_bind (wpAny_isInstance hT sub_set_self ?_)
 exact wpAny_pure h
theorem eZ {a : Addr} {led : Bool} {S : Nat → Bool} {ts : Nat → Tok} {mk ep f mv : Nat} {Q : Nat → Shared → Prop} (ho : s.heap.get? a = some (cj led S ts mk ep f mv)) (hm : ck mk) (h : Q ep s) : wpAny (model prog w) A (setEpoch a) Q E s := by
 unfold setEpoch
 exact wpAny_bind (bc ho hm (wpAny_pure h))
theorem dO {a : Addr} {led : Bool} {S : Nat → Bool} {ts : Nat → Tok} {mk ep f mv : Nat} {id : String} {Q : Unit → Shared → Prop} (ho : s.heap.get? a = some (cj led S ts mk ep f mv)) (hm : ck mk) (h : Q () s) : wpAny (model prog w) A (Builtin.Frozenset.unchanged id a ep) Q E s := by
 unfold Builtin.Frozenset.unchanged
 refine wpAny_bind (eZ ho hm ?_)
 rw [if_neg (by simp)]
 exact wpAny_pure h
theorem ix {a : Addr} {led : Bool} {S : Nat → Bool} {o : Obj} {Q : Nat → Shared → Prop} (ho : s.heap.get? a = some o) (x : isSet led S o) (h : Q (elems S).length s) : wpAny (model prog w) A (Builtin.Frozenset.sizeOf a) Q E s := by
 obtain ⟨ts, mk, ep, f, mv, hm, rfl⟩ := x
 unfold Builtin.Frozenset.sizeOf setEntries
 refine wpAny_bind (wpAny_bind (bc ho hm (wpAny_pure (wpAny_pure ?_))))
 simpa [aB] using h
theorem nh {a : Addr} {led : Bool} {S : Nat → Bool} {o : Obj} {k : Nat} {t : Tok} {Q : Option Nat → Shared → Prop} (ho : s.heap.get? a = some o) (x : isSet led S o) (hk : k < 4) (h : ∀ r : Option Nat, r.isSome = S k → Q r s) : wpAny (model prog w) A (setFind a (.int k t) k) Q E s := by
 have := wpAny_setFind_of (knd := intKind prog w) (A := A) (E := E) (s := s) (a := a) (S := mM S) (n := (elems S).length) (k := (k : Int)) (x := .int k t) (Q := Q) (by simp [intKind, Value.isInt]) rfl (x.setOf ho) fun r hr => h r (by rw [hr, f6 hk])
 rwa [show (intKind prog w).hash (k : Int) = (k : Int) from jk hk] at this
theorem dG {id : String} {a b : Addr} {S T : Nat → Bool} {oa ob : Obj} {Q : Unit → Shared → Prop} (hne : b ≠ a) (ha : s.heap.get? a = some oa) (hsa : isSet (bO w) S oa) (hb : s.heap.get? b = some ob) (hsb : isSet (bO w) T ob)
  (h : ∀ h' o', Heap.SameBut a s.heap h' → h'.get? a = some o' → isSet (bO w) (unS S T) o' → Q () { s with heap := h' }) : wpAny (model prog w) A (Builtin.Frozenset.updateFrom id a (.ref b)) Q E s := by
 have hsb2 := hsb
 obtain ⟨ts, mk, ep, f, mv, hm, rfl⟩ := hsb2
 unfold Builtin.Frozenset.updateFrom
 refine wpAny_bind (dW (hsb.typeIs hb) ?_)
 simp only [if_true]
 unfold Builtin.Frozenset.addrOf Builtin.Frozenset.merge
 refine wpAny_bind (wpAny_pure (wpAny_bind (eZ hb hm ?_)))
 exact i0 hne ha hsa hb hsb (fun s' Q' hb' hq => dO hb' hm hq) h
theorem kF {a : Addr} {S : Nat → Bool} {oa : Obj} {Q : Value → Shared → Prop} (ha : s.heap.get? a = some oa) (hsa : isSet (bO w) S oa)
  (h : ∀ h' o', (∀ b o, s.heap.get? b = some o → h'.get? b = some o) → h'.get? s.heap.objs.size = some o' → isSet (bO w) S o' → Q (.ref s.heap.objs.size) { s with heap := h' }) : wpAny (model prog w) A (Builtin.Frozenset.copyOf a) Q E s := by
 unfold Builtin.Frozenset.copyOf Builtin.Frozenset.addrOf
 refine wpAny_bind (kC (hsa.typeIs ha) (wpAny_bind (l3 (wpAny_bind (wpAny_pure (wpAny_bind ?_))))))
 have hne : a ≠ s.heap.objs.size := Nat.ne_of_lt (Heap.lt_size ha)
 refine i0 (s := { s with heap := s.heap.push (aD w) }) hne (Heap.get?_push_size _ rfl) bF (Heap.get?_push_of_some _ ha) hsa (fun s' Q' _ hq => wpAny_pure hq) fun h' o' hs hg hi => wpAny_pure (h h' o' (fun b o e => ?_) hg (hi.congr fun k _ => by simp [unS]))
 exact (hs.2 b (Nat.ne_of_lt (Heap.lt_size e))).trans (Heap.get?_push_of_some _ e)
theorem iN {r asked walked : Addr} {ok ow : Obj} {S : Nat → Bool} {led : Bool} (h1 : asked ≠ r) (h2 : walked ≠ r) (hS : isSet led S ok) {f : (Int × Value) → PUnit → Sem (ForInStep PUnit)}
  (hf : ∀ (x : Int × Value) (s' : Shared) (Q : ForInStep PUnit → Shared → Prop), wpAny (model prog w) A (setFind asked x.2 x.1) (fun i s'' => if i.isSome = true then wpAny (model prog w) A (setAddHashed r x.2 x.1) (fun _ s₃ => s₃.heap.get? walked = some ow ∧ Q (.yield ⟨⟩) s₃) E s'' else (s''.heap.get? walked = some ow ∧ Q (.yield ⟨⟩) s'')) E s' → wpAny (model prog w) A (f x ⟨⟩) Q E s') :
  ∀ (l : List (Int × Value)) (R : Nat → Bool) (or' : Obj) (s : Shared) (Q : PUnit → Shared → Prop), (∀ e ∈ l, ∃ (k : Nat) (t : Tok), k < 4 ∧ e = ((k : Int), .int k t)) → s.heap.get? r = some or' → isSet led R or' → s.heap.get? asked = some ok → s.heap.get? walked = some ow →
   (∀ h' o', Heap.SameBut r s.heap h' → h'.get? r = some o' → isSet led (fun j => R j || (S j && l.any (fun e => decide (e.1 = (j : Int))))) o' → Q ⟨⟩ { s with heap := h' }) → wpAny (model prog w) A (forIn l ⟨⟩ f) Q E s := by
 intro l
 induction l with
 | nil =>
  intro R or' s Q _ hr hR ha hw h
  rw [List.forIn_nil]
  exact wpAny_pure (h s.heap or' (.refl ..) hr (by simpa using hR))
 | cons e l ih =>
  intro R or' s Q hl hr hR ha hw h
  rw [List.forIn_cons]
  refine ez (hl e (.head _)) fun k t hk re0 => ?_; subst re0
  refine wpAny_bind (hf _ _ _ (nh ha hS hk fun i hi => ?_))
  cases q : S k with
  | true =>
   rw [if_pos (by rw [hi, q])]
   refine jH hr hR hk fun h' o' hsb hg hi' => ?_
   refine ⟨(hsb.2 _ h2).trans hw, ih (cw R k) o' { s with heap := h' } Q (fun e he => hl e (.tail _ he)) hg hi' ((hsb.2 _ h1).trans ha) ((hsb.2 _ h2).trans hw) fun h'' o'' hsb' hg' hi'' => ?_⟩
   exact h h'' o'' (hsb.trans hsb') hg' (isSet.congr (fun j _ => by
    simp only [cw, List.any_cons]
    by_cases q2 : j = k
    ·subst q2; simp [q]
    ·have : ¬ ((k : Int) = (j : Int)) := by omega
     simp [q2, this]) hi'')
  | false =>
   rw [if_neg (by rw [hi, q]; decide)]
   refine ⟨hw, ih R or' s Q (fun e he => hl e (.tail _ he)) hr hR ha hw fun h'' o'' hsb' hg' hi'' => ?_⟩
   exact h h'' o'' hsb' hg' (isSet.congr (fun j _ => by
    simp only [List.any_cons]
    by_cases q2 : j = k
    ·subst q2; simp [q]
    ·have : ¬ ((k : Int) = (j : Int)) := by omega
     simp [this]) hi'')
theorem kf {S : Nat → Bool} {ts : Nat → Tok} {l : List (Int × Value)} (hl : l.Perm (aB S ts)) : ∀ e ∈ l, ∃ (k : Nat) (t : Tok), k < 4 ∧ e = ((k : Int), Value.int k t) := fun e he => by
 refine ag (List.mem_map.mp (hl.mem_iff.mp he)) fun k hk re0 => ?_; subst re0
 exact ⟨k, ts k, (ay.mp hk).1, rfl⟩
theorem kq {S : Nat → Bool} {ts : Nat → Tok} {l : List (Int × Value)} (hl : l.Perm (aB S ts)) {j : Nat} (hj : j < 4) : l.any (fun e => decide (e.1 = (j : Int))) = S j := by
 cases q : S j with
 | true =>
  rw [List.any_eq_true]
  exact ⟨((j : Int), .int j (ts j)), hl.mem_iff.mpr (List.mem_map.mpr ⟨j, ay.mpr ⟨hj, q⟩, rfl⟩), by simp⟩
 | false =>
  rw [List.any_eq_false]
  intro e he hd
  refine ag (List.mem_map.mp (hl.mem_iff.mp he)) fun k hk re0 => ?_; subst re0
  have h3 : (k : Int) = (j : Int) := by simpa using hd
  have : k = j := Z34
  subst this
  rw [(ay.mp hk).2] at q; cases q
theorem set_same {led : Bool} {S T : Nat → Bool} {o : Obj} (x : isSet led S o) (y : isSet led T o) : ∀ k, k < 4 → S k = T k := by
 obtain ⟨ts, mk, ep, f, mv, _, rfl⟩ := x
 obtain ⟨ts', mk', ep', f', mv', _, e⟩ := y
 have e2 : elems S = elems T := by
  have h1 := congrArg Obj.data e
  simp only [cj, aS, Data.set.injEq, SetTable.mk.injEq] at h1
  have := h1.2.2.2.1
  simpa using this
 intro k hk
 have h1 := ay (S := S) (k := k)
 rw [e2, ay] at h1
 cases q : S k <;> cases q' : T k <;> simp_all
theorem m9 {id : String} {a b : Addr} {S T : Nat → Bool} {oa ob : Obj} {Q : Value → Shared → Prop} (ha : s.heap.get? a = some oa) (hsa : isSet (bO w) S oa) (hb : s.heap.get? b = some ob) (hsb : isSet (bO w) T ob)
  (h : ∀ h' o', (∀ b o, s.heap.get? b = some o → h'.get? b = some o) → h'.get? s.heap.objs.size = some o' → isSet (bO w) (inS S T) o' → Q (.ref s.heap.objs.size) { s with heap := h' }) : wpAny (model prog w) A (Builtin.Frozenset.intersection id a (.ref b)) Q E s := by
 unfold Builtin.Frozenset.intersection
 by_cases q : b = a
 ·subst q
  rw [if_pos (by simp)]
  have : oa = ob := by rw [ha] at hb; exact Option.some.inj hb
  subst this
  have hST : ∀ k, k < 4 → S k = T k := fun k hk => by
   have h1 := set_same hsa hsb k hk
   exact h1
  refine kF ha hsa fun h' o' hk hg hi => h h' o' hk hg (hi.congr fun k hk => by simp [inS, ← hST k hk])
 ·rw [if_neg (by simpa using q)]
  refine wpAny_bind (kC (hsa.typeIs ha) (wpAny_bind (l3 ?_)))
  let s1 : Shared := { s with heap := s.heap.push (aD w) }
  have ha1 : s1.heap.get? a = some oa := Heap.get?_push_of_some _ ha
  have hb1 : s1.heap.get? b = some ob := Heap.get?_push_of_some _ hb
  have hr1 : s1.heap.get? s.heap.objs.size = some (aD w) := Heap.get?_push_size _ rfl
  have nea : a ≠ s.heap.objs.size := Nat.ne_of_lt (Heap.lt_size ha)
  have neb : b ≠ s.heap.objs.size := Nat.ne_of_lt (Heap.lt_size hb)
  unfold Builtin.Frozenset.addrOf
  have core : ∀ (asked walked : Addr) (ok ow : Obj) (U V : Nat → Bool) (Q' : PUnit → Shared → Prop), s1.heap.get? asked = some ok → s1.heap.get? walked = some ow → isSet (bO w) U ok → isSet (bO w) V ow → asked ≠ s.heap.objs.size → walked ≠ s.heap.objs.size →
    (∀ h' o', Heap.SameBut s.heap.objs.size s1.heap h' → h'.get? s.heap.objs.size = some o' → isSet (bO w) (fun j => U j && V j) o' → Q' ⟨⟩ { s1 with heap := h' }) →
    wpAny (model prog w) A (do
     let was ← setEpoch walked
     for (h, x) in ← setWalkUnseen walked [asked, s.heap.objs.size] (some s.heap.objs.size) do
      holding [x] do
       if (← setFind asked x h).isSome then
        let _ ← setAddHashed s.heap.objs.size x h
      Builtin.Frozenset.unchanged id walked was : Sem Unit) Q' E s1 := by
   intro asked walked ok ow U V Q' hk hw hU hV n1 n2 hq
   have hV2 := hV
   obtain ⟨ts, mk, ep, f, mv, hm, rfl⟩ := hV2
   refine wpAny_bind (eZ hw hm ?_)
   refine wpAny_bind (jh hw hm fun l hl => ?_)
   rw [← Array.forIn_toList]
   refine wpAny_bind (iN n1 n2 hU (fun x s' Q'' hx => ?_) l (fun _ => false) (aD w) s1 _ (kf hl) hr1 bF hk hw fun h' o' hs hg hi => wpAny_pure (hq h' o' hs hg (hi.congr fun j hj => by simp [kq hl hj])))
   refine wpAny_bind (wpAny_holding (wpAny_bind (wpAny_mono hx (fun i s'' hi => ?_) iz)))
   split at hi
   ·rename_i e
    rw [if_pos e]
    exact wpAny_bind (wpAny_mono hi (fun _ s₃ h₃ => wpAny_pure (wpAny_bind (dO h₃.1 hm (wpAny_pure h₃.2)))) iz)
   ·rename_i e
    rw [if_neg e]
    exact wpAny_pure (wpAny_bind (dO hi.1 hm (wpAny_pure hi.2)))
  refine wpAny_bind (wpAny_pure (wpAny_bind (wpAny_holding (wpAny_bind (dW (hsb.typeIs hb1) ?_)))))
  rw [if_pos rfl]
  refine wpAny_bind (wpAny_pure (wpAny_bind (ix hb1 hsb (wpAny_bind (ix ha1 hsa ?_)))))
  have fin : ∀ h' o', Heap.SameBut s.heap.objs.size s1.heap h' → h'.get? s.heap.objs.size = some o' → isSet (bO w) (inS S T) o' → Q (.ref s.heap.objs.size) { s with heap := h' } := fun h' o' hs hg hi =>
   h h' o' (fun c o e => (hs.2 c (Nat.ne_of_lt (Heap.lt_size e))).trans (Heap.get?_push_of_some _ e)) hg hi
  split
  rename_i asked walked heq
  split at heq
  ·cases heq
   exact core b a ob oa T S (fun _ s' => wpAny (model prog w) A (pure (Value.ref s.heap.objs.size)) Q E s') hb1 ha1 hsb hsa neb nea fun h' o' hs hg hi => wpAny_pure (fin h' o' hs hg (hi.congr fun j _ => by simp [inS, Bool.and_comm]))
  ·cases heq
   exact core a b oa ob S T (fun _ s' => wpAny (model prog w) A (pure (Value.ref s.heap.objs.size)) Q E s') ha1 hb1 hsa hsb nea neb fun h' o' hs hg hi => wpAny_pure (fin h' o' hs hg hi)
end
noncomputable def TyT (v : VP) (T : String) : Prop := ∀ (F : Fz) (y : Value) (s : Shared), v.p F y → (∀ a o, F a = some o → s.heap.get? a = some o) → s.TypeIs y T
theorem TyT.list {l : List VP} : TyT (ae l) "list" := fun F y s ⟨a, ys, n, e, h, _⟩ hF => e ▸ ⟨_, hF _ _ h, rfl⟩
theorem TyT.tup {l : List VP} : TyT (aQ l) "tuple" := fun F y s ⟨a, ys, e, h, _⟩ hF => e ▸ ⟨_, hF _ _ h, rfl⟩
theorem sub_tuple_set : isSubtype (.type "tuple") (.type "set") = pure false := by rw [isSubtype_type]; kernel_rfl
theorem sub_tuple_frozenset : isSubtype (.type "tuple") (.type "frozenset") = pure false := by rw [isSubtype_type]; kernel_rfl
theorem FS.fresh (h : FS G I τ s) {h' : Heap} {tk : Nat} {v : VP} {o : Obj} (hk : ∀ b o, s.heap.get? b = some o → h'.get? b = some o) (hz : s.heap.objs.size ≤ h'.objs.size) (ho : h'.get? s.heap.objs.size = some o) (hv : ∀ F : Fz, F s.heap.objs.size = some o → v.p F (.ref s.heap.objs.size)) :
  FS G I (τ.and (v.at (.ref s.heap.objs.size))) ⟨h', s.gens, s.drawn, tk, s.os⟩ := h.made hk hz fun F F' z _ _ hn => ⟨z, hv _ (hn _ _ ho (Nat.le_refl _))⟩
theorem aw.rn : aw G k (.type "set") [] [] [] (ar G fun _ => false) := by
 intro I A τ s ys zs hA hS hr
 have h := hS
 obtain ⟨F, m, w⟩ := h
 obtain ⟨rfl, rfl⟩ := (⟨(hr F w.tmp).1.none, (hr F w.tmp).2.none⟩ : _ ∧ _)
 refine ip (hS.fresh (o := aD G.w) (fun b o e => Heap.get?_push_of_some _ e) (by rw [Heap.size_push]; exact Z22) (Heap.get?_push_size _ rfl) fun F e => ⟨_, _, rfl, e, bF⟩)
theorem aw.setOf {v : VP} {T : String} {Sp : List VP → Prop} {S : Nat → Bool} (hy : dd G k (.Name "x" ⟨0, 0, 0, 0⟩) v Sp) (ht : TyT v T) (h1 : isSubtype (.type T) (.type "set") = pure false) (h2 : isSubtype (.type T) (.type "frozenset") = pure false) (h3 : (Value.type T == .type "dict") = false)
  (hSp : ∀ l, Sp l → ∃ ns : List Nat, l = ns.map (fun (n : Nat) => vInt n) ∧ (∀ n ∈ ns, n < 4) ∧ ∀ j, j < 4 → ns.contains j = S j) : aw G (k + 3) (.type "set") [v] [] [] (ar G S) := by
 intro I A τ s ys zs hA hS hr
 have h := hS
 obtain ⟨F, m, w⟩ := h
 obtain ⟨⟨y, rfl, hv⟩, rfl⟩ := (⟨(hr F w.tmp).1.one, (hr F w.tmp).2.none⟩ : _ ∧ _)
 refine ij ?_
 have w1 := w.newX (tk := s.toks) (P := bt G fun _ => false) (fun b o e => Heap.get?_push_of_some _ e) (by rw [Heap.size_push]; exact Z22) (Nat.le_refl _) (Heap.get?_push_size s.heap (o := aD G.w) rfl) bF
 have hT := ht F y ⟨s.heap.push (aD G.w), s.gens, s.drawn, s.toks, s.os⟩ hv fun a o e => (w1.fz a o e).1
 refine mf hT h1 h2 h3 ?_
 have hA2 : AOk (k + 1) A.in1.in1 := hA.in1.in1
 refine wpAny_mono (hy I.C I.σ ((s.heap.objs.size, bt G fun _ => false) :: I.X) I.Y τ A.in1.in1 _ y (hA2.le (Nat.le_succ _)) ⟨F, m, w1⟩ fun F z => (hr F z).1.one.elim fun y' q => by cases q.1; exact q.2) (fun it s₂ h₂ => ?_) iz
 obtain ⟨Sr, l, hl, W, h₂⟩ := h₂
 refine cx (hSp l hl) fun ns re0 hn hS' => ?_; subst re0
 refine codeAny_mono (setLoop W hA2 bb ns 0 (fun _ => false) s₂ (by simp) (by simp) hn h₂) fun r s₃ h₃ => ⟨h₃.1, ?_⟩
 obtain ⟨-, F₃, m₃, w₃⟩ := h₃
 refine gK (FSB.freeze (X₁ := []) w₃ w.kept.size) fun o F₄ ho ha hle w₄ => ?_
 exact ⟨F₄, m₃, { w₄ with tmp := ⟨w₄.tmp, _, o, rfl, ha, isSet.congr (fun j hj => by simp only [lb, Bool.false_or]; exact hS' j hj) ho⟩ }⟩
theorem aw.nQ {S : Nat → Bool} : aw G k (.type "set") [ar G S] [] [] (ar G S) := by
 intro I A τ s ys zs hA hS hr
 have h := hS
 obtain ⟨F, m, w⟩ := h
 obtain ⟨⟨y, rfl, b, ob, rfl, hb, hsb⟩, rfl⟩ := (⟨(hr F w.tmp).1.one, (hr F w.tmp).2.none⟩ : _ ∧ _)
 have hb' := (w.fz _ _ hb).1
 have hne : b ≠ s.heap.objs.size := Nat.ne_of_lt (Heap.lt_size hb')
 refine ij (dG hne (Heap.get?_push_size _ rfl) bF (Heap.get?_push_of_some _ hb') hsb fun h' o' hs hg hi => ?_)
 refine hS.fresh (fun c o e => (hs.2 c (Nat.ne_of_lt (Heap.lt_size e))).trans (Heap.get?_push_of_some _ e)) (by rw [hs.1, Heap.size_push]; exact Z22) hg fun F e => ⟨_, _, rfl, e, hi.congr fun j _ => by simp [unS]⟩
theorem lP {prog : Program} {w : World} {A : Around} {E : Value → Shared → Prop} {s : Shared} {a b : Value} {Q : Bool → Shared → Prop} (ha : s.TypeIs a "set") (hb : s.TypeIs b "set") (h : Q true s) :
  wpAny (model prog w) A (Builtin.Frozenset.isAnySet a <&&> Builtin.Frozenset.isAnySet b) Q E s := wpAny_bind (dW ha (dW hb h))
theorem cN.om {S T : Nat → Bool} : cN G k .BitAnd (ar G S) (ar G T) (ar G (inS S T)) := by
 intro I A τ s a b hA hS hab
 have h := hS
 obtain ⟨F, m, w⟩ := h
 obtain ⟨⟨a, oa, rfl, ha, hsa⟩, b, ob, rfl, hb, hsb⟩ := hab F w.tmp
 have ha' := (w.fz _ _ ha).1
 have hb' := (w.fz _ _ hb).1
 refine wpAny_binaryOp_same (hsa.typeIs ha') (hsb.typeIs hb') PySem.F.fills_set_and PySem.F.slot_set_and (wpAny_call_entry PySem.F.slot_set_and (hsa.typeIs ha') m7 ?_ (PySem.F.args_set_and_2 _ _))
 show wpAny _ A.in1 (Builtin.Frozenset.slot1 "__and__" ⟨[.ref a, .ref b], []⟩ >>= _) _ _ s
 refine wpAny_bind (wpAny_of_eq (a := (Value.ref a, Value.ref b)) rfl ?_)
 show wpAny _ A.in1 ((Builtin.Frozenset.isAnySet (.ref a) <&&> Builtin.Frozenset.isAnySet (.ref b)) >>= _) _ _ s
 refine wpAny_bind (lP (hsa.typeIs ha') (hsb.typeIs hb') ?_)
 show wpAny _ A.in1 (Builtin.Frozenset.addrOf (.ref a) >>= _) _ _ s
 refine wpAny_bind (wpAny_pure ?_)
 show wpAny _ A.in1 (Builtin.Frozenset.intersection _ a (.ref b) >>= _) _ _ s
 refine dR (wpAny_bind (m9 ha' hsa hb' hsb fun h' o' hk hg hi => wpAny_pure fun hz => ?_))
 exact ⟨_, rfl, by simp, hS.fresh hk hz hg fun F e => ⟨_, _, rfl, e, hi⟩⟩
theorem iW.union {S : Nat → Bool} : iW G (ar G S) "union" (.builtin "set.union") := by
 intro I A τ s pl o h ho
 have h2 := h
 obtain ⟨F, m, w⟩ := h2
 obtain ⟨a, oa, rfl, ha, hsa⟩ := ho F w.tmp
 exact getMethod_builtin (hsa.typeIs (w.fz _ _ ha).1) PySem.F.plainAttrs_set PySem.F.slot_set_union PySem.F.type_set_union ((hsa.setOf (prog := PySem.Challenge.pw_jg0001_01) (w := G.w) (w.fz _ _ ha).1).noDict) ⟨rfl, h⟩
theorem aw.union {S T : Nat → Bool} : aw G k (.builtin "set.union") [ar G S, ar G T] [] [] (ar G (unS S T)) := by
 intro I A τ s ys zs hA hS hr
 have h := hS
 obtain ⟨F, m, w⟩ := h
 obtain ⟨⟨y, z, rfl, ⟨a, oa, rfl, ha, hsa⟩, b, ob, rfl, hb, hsb⟩, rfl⟩ := (⟨(hr F w.tmp).1.two, (hr F w.tmp).2.none⟩ : _ ∧ _)
 have ha' := (w.fz _ _ ha).1
 have hb' := (w.fz _ _ hb).1
 refine wpAny_call_entry PySem.F.slot_set_union (hsa.typeIs ha') la ?_ (PySem.F.args_set_union_2 _ _)
 unfold Builtin.«frozenset.union»
 refine wpAny_bind (wpAny_of_eq (a := (a, [Value.ref b])) rfl ?_)
 refine dR (wpAny_bind (kF ha' hsa fun h₁ o₁ hk₁ hg₁ hi₁ => ?_))
 have hb₁ : h₁.get? b = some ob := hk₁ _ _ hb'
 refine wpAny_bind (wpAny_holding ?_)
 rw [List.forIn_cons]
 have hne : b ≠ s.heap.objs.size := Nat.ne_of_lt (Heap.lt_size hb')
 have fin : ∀ h₂ o₂, (∀ c o, s.heap.get? c = some o → h₂.get? c = some o) → h₂.get? s.heap.objs.size = some o₂ → isSet G.led (unS S T) o₂ → s.heap.objs.size ≤ h₂.objs.size →
   ∃ v, Fin.done (Flow.ret (.ref s.heap.objs.size)) = Fin.done (Flow.ret v) ∧ FS G I (τ.and ((ar G (unS S T)).at v)) { s with heap := h₂ } := fun h₂ o₂ hk hg hi hz =>
  ⟨_, rfl, hS.fresh hk hz hg fun F e => ⟨_, _, rfl, e, hi⟩⟩
 by_cases q : b = a
 ·subst q
  have : oa = ob := Option.some.inj (ha'.symm.trans hb')
  subst this
  rw [if_neg (by simp)]
  refine wpAny_bind (wpAny_bind (wpAny_pure (wpAny_pure ?_)))
  exact wpAny_pure (wpAny_pure fun hz => fin h₁ o₁ hk₁ hg₁ (hi₁.congr fun k hk => by simp [unS, set_same hsa hsb k hk]) hz)
 ·rw [if_pos (by simpa using q)]
  refine wpAny_bind (wpAny_bind (wpAny_bind (wpAny_pure (wpAny_bind ?_))))
  refine dG (s := { s with heap := h₁ }) hne hg₁ hi₁ hb₁ hsb fun h₂ o₂ hs₂ hg₂ hi₂ => wpAny_pure (wpAny_pure ?_)
  exact wpAny_pure (wpAny_pure fun hz => fin h₂ o₂ (fun c o e => (hs₂.2 c (Nat.ne_of_lt (Heap.lt_size e))).trans (hk₁ _ _ e)) hg₂ hi₂ hz)
theorem aw.cQ {S : Nat → Bool} : aw G k (.builtin "len") [ar G S] [] [] (vInt (elems S).length) := by
 intro I A τ s ys zs hA hS hr
 have h := hS
 obtain ⟨F, m, w⟩ := h
 obtain ⟨⟨y, rfl, b, ob, rfl, hb, hsb⟩, rfl⟩ := (⟨(hr F w.tmp).1.one, (hr F w.tmp).2.none⟩ : _ ∧ _)
 obtain ⟨ts, mk, ep, f, mv, hm, rfl⟩ := hsb
 have := ax S
 refine call_len_set (w.fz _ _ hb).1 ⟨rfl, rfl, rfl⟩ rfl (fP hm) (by simp [aB]; exact Z41) ?_
 exact hS.toks.wk fun F z => ⟨z, s.toks + 1, by simp [aB]⟩
theorem aY.inS {S : Nat → Bool} {i : Nat} (hi : i < 4) : aY G k .In (vInt i) (ar G S) (vBool (S i)) := by
 intro I A τ s a b hA hS hab
 have h := hS
 obtain ⟨F, m, w⟩ := h
 obtain ⟨⟨t, rfl⟩, b, ob, rfl, hb, hsb⟩ := hab F w.tmp
 refine wpAny_inSet_of (knd := intKind PySem.Challenge.pw_jg0001_01 G.w) (k := (i : Int)) (by simp [intKind, Value.isInt]) rfl (hsb.setOf (w.fz _ _ hb).1) ?_
 exact hS.toks.wk fun F z => ⟨z, by rw [f6 hi]; rfl⟩
namespace SI
theorem kZ : Manifest.owners.lookup (String.ofList ['r', 'o', 't', 'a', 'r', 'e', 't', 'i', '_', 't', 'e', 's'].reverse) = some Manifest.sig_set_iterator := by kernel_rfl
theorem slot_next : Slot "set_iterator" "__next__" "set_iterator.__next__" :=
 .of (owner := "set_iterator") (n := "__next__") (by rw [typeLookup_type, builtinLookup_eq_fast]; kernel_rfl) (by decide +kernel) (by decide +kernel) (by decide +kernel)
  (by first | exact .inl (by decide +kernel) | exact .inr (by decide +kernel)) (by rw [isSubtype_type]; kernel_rfl)
theorem jl : Slot "set_iterator" "__iter__" "set_iterator.__iter__" :=
 .of (owner := "set_iterator") (n := "__iter__") (by rw [typeLookup_type, builtinLookup_eq_fast]; kernel_rfl) (by decide +kernel) (by decide +kernel) (by decide +kernel)
  (by first | exact .inl (by decide +kernel) | exact .inr (by decide +kernel)) (by rw [isSubtype_type]; kernel_rfl)
theorem entry_next : entryFor table "set_iterator.__next__" = some Builtin.«set_iterator.__next__» := entryFor_of_tree (by kernel_rfl)
theorem fG : entryFor table "set_iterator.__iter__" = some Builtin.«dict_keyiterator.__iter__» :=
 entryFor_alias (id' := "dict_keyiterator.__iter__") (by kernel_rfl) (by first | rfl | decide +kernel | (unfold String.splitOn; simp +decide [String.splitOnAux])) (by decide +kernel) (by kernel_rfl)
theorem args_next (a : Value) : argsOk "set_iterator.__next__" ⟨[a], []⟩ := by
 unfold argsOk; rw [signature?_of (id := "set_iterator.__next__") (n := ['_', '_', 't', 'x', 'e', 'n', '_', '_']) (o := ['r', 'o', 't', 'a', 'r', 'e', 't', 'i', '_', 't', 'e', 's']) (by kernel_rfl) kZ]; kernel_rfl
theorem mL (a : Value) : argsOk "set_iterator.__iter__" ⟨[a], []⟩ := by
 unfold argsOk; rw [signature?_of (id := "set_iterator.__iter__") (n := ['_', '_', 'r', 'e', 't', 'i', '_', '_']) (o := ['r', 'o', 't', 'a', 'r', 'e', 't', 'i', '_', 't', 'e', 's']) (by kernel_rfl) kZ]; kernel_rfl
end SI
noncomputable def slotAt (p : List Nat) (i : Nat) : Nat := match i with
 | 0 => 0
 | j + 1 => p.getD j 0 + 1
theorem oM (S : Nat → Bool) (i : Nat) (hi : i ≤ (elems S).length) : SetTable.below (elems S).toArray (slotAt (elems S) i) = i :=
 (by decide +kernel : ∀ l ∈ jv, ∀ i < 5, i ≤ l.length → SetTable.below l.toArray (slotAt l i) = i) _ (fQ S) i (Nat.lt_succ_of_le (Nat.le_trans hi (ax S))) hi
noncomputable def Ord (w : World) (S : Nat → Bool) (ts : Nat → Tok) (a : Addr) (ep : Nat) (p : List Nat) : Prop :=
 (w.params.followText "set-order" = true → (pickOrder (w.params.setOrder a ep) (aB S ts).toArray).toList = p.map (fun (k : Nat) => ((k : Int), Value.int k (ts k)))) ∧ (w.params.followText "set-order" = false → p = elems S)
theorem Ord.ex (w : World) (S : Nat → Bool) (ts : Nat → Tok) (a : Addr) (ep : Nat) : ∃ p, p.Perm (elems S) ∧ Ord w S ts a ep p := by
 cases q : w.params.followText "set-order" with
 | true =>
  have hp : (pickOrder (w.params.setOrder a ep) (aB S ts).toArray).toList.Perm (aB S ts) := by simpa using eJ (w.params.setOrder a ep) (aB S ts).toArray
  have hall : ∀ e ∈ (pickOrder (w.params.setOrder a ep) (aB S ts).toArray).toList, e = (((e.1.toNat : Nat) : Int), Value.int e.1.toNat (ts e.1.toNat)) := fun e he => by
   refine ag (List.mem_map.mp (hp.mem_iff.mp he)) fun k _ re0 => ?_; subst re0
   simp
  refine ⟨(pickOrder (w.params.setOrder a ep) (aB S ts).toArray).toList.map fun e => e.1.toNat, ?_, fun _ => ?_, fun h => by rw [q] at h; cases h⟩
  ·have := hp.map fun e => e.1.toNat
   refine this.trans ?_
   have : (aB S ts).map (fun e => e.1.toNat) = elems S := by unfold aB; rw [List.map_map]; simp [Function.comp_def]
   rw [this]
  ·rw [List.map_map]
   conv => lhs; rw [← List.map_id (pickOrder (w.params.setOrder a ep) (aB S ts).toArray).toList]
   exact List.map_congr_left fun e he => hall e he
 | false => exact ⟨elems S, List.Perm.refl _, ⟨fun h => (by rw [q] at h; cases h), fun _ => rfl⟩⟩
noncomputable def cR (w : World) (p : List Nat) (i : Nat) : Nat := if w.params.followText "set-order" = true then 0 else slotAt p i
inductive sA (G : Gd) (S : Nat → Bool) (p : List Nat) (i : Nat) (F : Fz) (o : Obj) : Prop
 | mk (a : Addr) (ts : Nat → Tok) (mk ep f mv : Nat) (x1 : ck mk) (x2 : F a = some (cj G.led S ts mk ep f mv)) (x3 : o = { cls := .type "set_iterator", dict := none, data := .fields #[rawInt (cR G.w p i), rawInt i, .ref a, rawInt (elems S).length, rawInt ep], slots := #[] }) (x5 : Ord G.w S ts a ep p) : sA G S p i F o
noncomputable def oSI (G : Gd) (S : Nat → Bool) (p : List Nat) (i : Nat) : OP := ⟨sA G S p i,
 fun h ⟨a, ts, mk, ep, f, mv, x1, x2, x3, x5⟩ => ⟨a, ts, mk, ep, f, mv, x1, h _ _ x2, x3, x5⟩⟩
section
variable {prog : Program} {w : World} {E : Value → Shared → Prop}
theorem oP {a : Addr} {S : Nat → Bool} {ts : Nat → Tok} {mk ep f mv : Nat} {p : List Nat} {i : Nat} {Q : Option (Value × Nat) → Shared → Prop} (ho : s.heap.get? a = some (cj (bO w) S ts mk ep f mv)) (hm : ck mk) (hp : p.Perm (elems S)) (hO : Ord w S ts a ep p) (hi : i ≤ p.length)
  (h : Q (p[i]?.map fun (k : Nat) => (Value.int k (ts k), cR w p (i + 1))) s) : wpAny (model prog w) A (setNext a (cR w p i) i ep) Q E s := by
 unfold setNext
 refine wpAny_bind (bc ho hm ?_)
 dsimp only
 unfold setsByText
 refine wpAny_bind (wpAny_bind (wpAny_askSetting (wpAny_pure ?_)))
 dsimp only
 cases q : w.params.followText "set-order" with
 | true =>
  have q' : (model prog w).w.params.followText "set-order" = true := q
  rw [if_pos q', if_neg (by simp)]
  have e := hO.1 q
  refine wpAny_bind ?_
  unfold setWalk
  refine wpAny_bind (bc ho hm ?_)
  dsimp only
  unfold setsByText
  refine wpAny_bind (wpAny_bind (wpAny_askSetting (wpAny_pure ?_)))
  dsimp only
  rw [if_pos q']
  refine wpAny_bind (wpAny_askSetting (wpAny_pure (wpAny_pure ?_)))
  have e2 : (pickOrder ((model prog w).w.params.setOrder a ep) (aB S ts).toArray)[i]? = p[i]?.map (fun (k : Nat) => ((k : Int), Value.int k (ts k))) := by
   rw [← Array.getElem?_toList]
   rw [show (pickOrder ((model prog w).w.params.setOrder a ep) (aB S ts).toArray).toList = _ from e, List.getElem?_map]
  rw [e2, Option.map_map]
  have sl : ∀ j, cR w p j = 0 := fun j => by unfold cR; rw [if_pos q]
  rw [sl] at h ⊢
  exact h
 | false =>
  have q' : ¬ ((model prog w).w.params.followText "set-order" = true) := by rw [show (model prog w).w.params.followText "set-order" = false from q]; decide
  have hl : bO w = true := by unfold bO; rw [q]; rfl
  rw [if_neg q', hl]
  split
  ·rename_i hd
   exact absurd hd Bool.false_ne_true
  ·refine wpAny_bind (wpAny_of_eq (a := ()) rfl ?_)
   have e := hO.2 q
   subst e
   have sl : ∀ j, cR w (elems S) j = slotAt (elems S) j := fun j => by unfold cR; rw [if_neg (by rw [q]; decide)]
   rw [sl] at h ⊢
   have bl : SetTable.below (aS S mk f mv true).place (slotAt (elems S) i) = i := oM S i hi
   rw [bl]
   refine wpAny_pure ?_
   have e1 : (aB S ts).toArray[i]? = (elems S)[i]?.map (fun (k : Nat) => ((k : Int), Value.int k (ts k))) := by simp [aB]
   have e2 : (aS S mk f mv true).place[i]? = (elems S)[i]? := by simp [aS]
   rw [e1, e2]
   cases r : (elems S)[i]? with
   | none => rw [r] at h; exact h
   | some k =>
    rw [r] at h
    have : slotAt (elems S) (i + 1) = k + 1 := by simp [slotAt, List.getD, r]
    rw [this] at h
    exact h
end
theorem l0 {prog : Program} {w : World} {E : Value → Shared → Prop} {I a : Addr} {S : Nat → Bool} {ts : Nat → Tok} {mk ep f mv i : Nat} {p : List Nat} {o : Obj} {Q : Fin → Shared → Prop} (hI : s.heap.get? I = some o) (hd : o.data = .fields #[rawInt (cR w p i), rawInt i, .ref a, rawInt (elems S).length, rawInt ep]) (ho : s.heap.get? a = some (cj (bO w) S ts mk ep f mv)) (hm : ck mk) (hp : p.Perm (elems S)) (hO : Ord w S ts a ep p) (hi : i ≤ p.length)
  (h : wpAny (model prog w) A (match p[i]?.map fun (k : Nat) => (Value.int k (ts k), cR w p (i + 1)) with
   | some (x, next) => do setField (.ref I) 0 (rawInt next); setField (.ref I) 1 (rawInt (i + 1)); ret x
   | none => do setField (.ref I) 2 .none; raiseNew (← newExc (.type "StopIteration") [])) Q E s) : wpAny (model prog w) A (Builtin.«set_iterator.__next__» ⟨[.ref I], []⟩) Q E s := by
 unfold Builtin.«set_iterator.__next__»
 refine wpAny_bind (wpAny_of_eq (a := (Value.ref I, [])) rfl ?_)
 refine wpAny_bind (wpAny_fieldsOf hI hd ?_)
 show wpAny _ _ (setEntries a >>= _) _ _ s
 unfold setEntries
 refine wpAny_bind (wpAny_bind (bc ho hm (wpAny_pure ?_)))
 rw [if_neg (by simp [aB])]
 show wpAny _ _ (setNext a (Int.toNat (cR w p i)) (Int.toNat i) (Int.toNat ep) >>= _) _ _ s
 rw [Int.toNat_natCast, Int.toNat_natCast, Int.toNat_natCast]
 refine wpAny_bind (oP ho hm hp hO hi ?_)
 exact h
theorem aM.set {t : Expr} {I : Addr} {S : Nat → Bool} {p : List Nat} (hp : p.Perm (elems S)) : aM G k t (.ref I) (lU I fun i => oSI G S p i) [] (p.map fun (n : Nat) => vInt n) := by
 refine aM.one "set_iterator" (by decide) (fun i F o ⟨_, _, _, _, _, _, _, _, c, _⟩ => by rw [c]) ?_ ?_ ?_
 ·rintro A s F o i v hA ho ⟨a, ts, mk1, ep, f, mv, hm, e, hc, hO⟩ hF hl hI
  subst hc
  rw [List.getElem?_map] at hl
  cases q : p[i]? with
  | none => rw [q] at hl; cases hl
  | some n =>
   rw [q] at hl
   obtain rfl : vInt n = v := Option.some.inj hl
   have hT : s.TypeIs (.ref I) "set_iterator" := ⟨_, ho, rfl⟩
   unfold pyNext
   refine wpAny_bind (wpAny_attempt (wpAny_callSpecial?_slot (name := Str.ofString "__next__") hT SI.slot_next (wpAny_call_entry SI.slot_next hT SI.entry_next ?_ (SI.args_next _))))
   refine l0 ho rfl (hF _ _ e) hm hp hO (Nat.le_of_lt (List.getElem?_eq_some_iff.mp q).1) ?_
   rw [q]
   refine wpAny_bind (wpAny_setField_rec ho (by simp) fun h₁ g₁ s₁ => ?_)
   refine wpAny_bind (wpAny_setField_rec g₁ (by simp) fun h₂ g₂ s₂ => ?_)
   refine wpAny_pure ⟨_, rfl, wpAny_pure ⟨_, h₂, s.toks, _, rfl, rfl, (s₁.trans s₂).extBut, g₂, ⟨a, ts, mk1, ep, f, mv, hm, e, rfl, hO⟩, _, rfl⟩⟩
 ·rintro A s F o hA ho ⟨a, ts, mk1, ep, f, mv, hm, e, hc, hO⟩ hF hI
  subst hc
  have hT : s.TypeIs (.ref I) "set_iterator" := ⟨_, ho, rfl⟩
  have hlen : (p.map fun (n : Nat) => vInt n).length = p.length := by simp
  rw [hlen] at ho
  unfold pyNext
  refine wpAny_bind (wpAny_attempt (wpAny_callSpecial?_slot (name := Str.ofString "__next__") hT SI.slot_next (wpAny_call_entry SI.slot_next hT SI.entry_next ?_ (SI.args_next _))))
  refine l0 ho rfl (hF _ _ e) hm hp hO (Nat.le_refl _) ?_
  rw [List.getElem?_eq_none (Nat.le_refl _)]
  refine wpAny_bind (wpAny_setField_rec ho (by simp) fun h₁ g₁ s₁ => ?_)
  show wpAny _ _ (newExc (.type "StopIteration") [] >>= _) _ _ _
  refine wpAny_bind ?_
  simp only [newExc, newTuple]
  refine wpAny_bind (wpAny_newObj_type ?_ (by size_fits))
  refine wpAny_bind (m := firstArgMember _ _) (wpAny_of_eq (a := Value.none) (by first | rfl | (simp only [firstArgMember]; rfl)) ?_)
  refine wpAny_newObj_type ?_ (by size_fits)
  simp only [raiseNew]
  refine wpAny_bind (wpAny_handled ?_)
  rw [show A.in1.handled = none from hA.1]
  refine wpAny_bind (wpAny_pure (wpAny_throw ?_))
  refine wpAny_bind (wpAny_isInstance (T := "StopIteration") (b := true) ⟨_, Heap.get?_push_size _ rfl, rfl⟩ isSubtype_stop ?_)
  exact wpAny_pure ⟨_, s.toks, rfl, rfl, (s₁.extBut.push _).push _⟩
 ·rintro A s F o ho ⟨a, ts, mk1, ep, f, mv, hm, e, hc, hO⟩
  subst hc
  have hT : s.TypeIs (.ref I) "set_iterator" := ⟨_, ho, rfl⟩
  refine wpAny_pyIter_slot hT SI.jl (wpAny_call_entry SI.jl hT SI.fG ?_ (SI.mL _))
  show wpAny _ _ (ret (.ref I)) _ _ s
  exact wpAny_pure ⟨_, rfl, "set_iterator", _, hT, SI.slot_next.lookup, rfl, rfl⟩
theorem dd.set {t : Expr} {S : Nat → Bool} : dd G k t (ar G S) (fun l => ∃ p : List Nat, p.Perm (elems S) ∧ l = p.map fun (n : Nat) => vInt n) := by
 intro C σ X Y τ A s y hA h hy
 obtain ⟨F, m, w⟩ := h
 obtain ⟨a, o, rfl, e, hs⟩ := hy F w.tmp
 have hs2 := hs
 obtain ⟨ts, mk, ep, f, mv, hm, rfl⟩ := hs2
 have ho := (w.fz _ _ e).1
 refine ag (Ord.ex G.w S ts a ep) fun p hp hO => ?_
 refine wpAny_pyIter_slot (hs.typeIs ho) PySem.F.slot_set_iter (wpAny_call_entry PySem.F.slot_set_iter (hs.typeIs ho) fG ?_ (PySem.F.args_set_iter_1 _))
 unfold Builtin.«frozenset.__iter__» Builtin.Frozenset.slot0
 refine wpAny_bind (wpAny_bind (wpAny_of_eq (a := (Value.ref a, [])) rfl ?_))
 show wpAny _ _ (Builtin.Frozenset.addrOf (.ref a)) _ _ s
 refine wpAny_pure ?_
 refine wpAny_bind (ix ho hs ?_)
 unfold setDrawn
 refine wpAny_bind (wpAny_bind (bc ho hm ?_))
 dsimp only
 unfold setsByText
 refine wpAny_bind (wpAny_bind (wpAny_askSetting (wpAny_pure ?_)))
 refine wpAny_pure ?_
 split
 ·rename_i hd
  refine absurd hd ?_
  show ¬ ((!_ && false) = true)
  simp
 ·refine wpAny_bind (wpAny_pure (wpAny_bind (eZ ho hm ?_)))
  refine wpAny_bind (wpAny_newObj_type (wpAny_pure ⟨_, rfl, "set_iterator", _, ⟨_, Heap.get?_push_size _ rfl, rfl⟩, SI.slot_next.lookup, _, _, ⟨p, hp, rfl⟩, aM.set hp, _, _, ⟨rfl, rfl⟩, F, m, ?_⟩))
  refine w.newX (fun b o q => Heap.get?_push_of_some _ q) (by rw [Heap.size_push]; exact Z22) (Nat.le_refl _) (Heap.get?_push_size _ rfl) ⟨a, ts, mk, ep, f, mv, hm, e, ?_, hO⟩
  have : cR G.w p 0 = 0 := by unfold cR; split <;> rfl
  rw [this]; rfl
theorem bH {f : Value} {first : List Value} {pos kv : List VP} {kn : List Str} {p : Pos} {args : List Expr} {kws : List Keyword} {Q : Value → Shared → Prop}
  (hcall : ∀ ys zs s₂, FS G ⟨C, σ, X, Y⟩ ((τ.and (rl pos ys)).and (rl kv zs)) s₂ → wpAny G.M A (call f (first ++ ys) (kn.zip zs)) Q ff s₂) (hkp : KpT G f)
  (ha : af G k C σ p args pos) (hk : KwT G k C σ p kws kv) (hkn : (backToKw p (keywordEach kws C.env)).filterMap (·.1) = kn) (hall : (backToKw p (keywordEach kws C.env)).all (·.1.isSome) = true)
  (hplain : ((backTo p (starEach args C.env)).any (·.1) || (backToKw p (keywordEach kws C.env)).any (·.1.isNone)) = false) (hst : (args = [] ∧ pos = []) ∨ ∃ x r, backTo p (starEach args C.env) = (false, x) :: r)
  (hA : AOk k A) (h : FS G ⟨C, σ, X, Y⟩ τ s) :
  wpAny G.M A (callWith p f first (backTo p (starEach args C.env)) (backToKw p (keywordEach kws C.env))) Q ff s := by
 have tail : ∀ (ys : List Value) (s₁ : Shared), FS G ⟨C, σ, X, Y⟩ (τ.and (rl pos ys)) s₁ → wpAny G.M A (evalAll ((backToKw p (keywordEach kws C.env)).map (·.2)))
   (fun ks s₂ => G.K.In s₂.heap ∧ wpAny G.M A (call f (first ++ ys) (((backToKw p (keywordEach kws C.env)).filterMap (·.1)).zip ks)) Q ff s₂) ff s₁ := fun ys s₁ h₁ =>
  wpAny_mono (hk A X Y _ s₁ hA h₁) (fun zs s₂ h₂ => ⟨h₂.wd.K, by rw [hkn]; exact hcall ys zs s₂ h₂⟩) iz
 refine callWith_of (P := G.K.In) hplain hkp ?_
 rcases hst with ⟨e, e'⟩ | ⟨x, r, e⟩
 ·subst e e'
  refine evalArgs_kw_nil hall ?_
  exact tail [] s (h.wk fun F z => ⟨z, .nil⟩)
 ·have a1 := ha.ev A X Y τ s hA h
  rw [e] at a1 ⊢
  exact evalArgs_kw hall (wpAny_mono a1 (fun ys s₁ h₁ => tail ys s₁ h₁) iz)
structure dt (G : Gd) (k : Nat) (name : Str) (id : String) (P : OP) (va : VP) (P' : OP) : Prop where
 met : ∀ F o s a (pl : Sem Bool), P.p F o → s.heap.get? a = some o → ∀ Q : Value × List Value → Shared → Prop, ∀ A, Q (.builtin id, [.ref a]) s → wpAny G.M A (getMethod (.ref a) name pl) Q ff s
 call : ∀ C σ X₁ X₂ Y τ A s a y, AOk k A → FS G ⟨C, σ, X₁ ++ (a, P) :: X₂, Y⟩ τ s → (∀ F, τ.p F → va.p F y) → wpAny G.M A (call (.builtin id) [.ref a, y]) (fun _ s' => FS G ⟨C, σ, X₁ ++ (a, P') :: X₂, Y⟩ τ s') ff s
theorem ExT.own {x : Str} {name : Str} {id : String} {P P' : OP} {va : VP} {a : Addr} {e : Expr} {q ap p p2 : Pos} {rest : List Stmt} {pl : Sem Bool} (hM : dt G k name id P va P') (hx : (x, some (vIs (.ref a))) ∈ σ) (he : EvT G k C σ e va)
  (hr : ExT G k C σ (X₁ ++ (a, P') :: X₂) Y rest Ψ)
  (hev : eval (.Call (.Attribute (.Name x q) name ap) [e] [] p) C.env = (do
   let ov ← eval (.Name x q) C.env
   standAt ap.atName
   let (f, first) ← holding [ov] (getMethod ov name pl)
   callWith p f first (backTo p (starEach [e] C.env)) (backToKw p (keywordEach [] C.env))) := by rfl)
  (hst : ∃ x r, backTo p (starEach [e] C.env) = (false, x) :: r := by exact ⟨_, _, rfl⟩) (hstar : autoParam (starEach [e] C.env = (false, eval e C.env) :: starEach [] C.env) tcR)
  (hplain : autoParam (((backTo p (starEach [e] C.env)).any (·.1) || (backToKw p (keywordEach [] C.env)).any (·.1.isNone)) = false) tcR)
  (hi : autoParam (interactive C.env = false) tcR) (hs : autoParam (swapsWith (.Call (.Attribute (.Name x q) name ap) [e] [] p) none p2.line C.env = pure false) tcR)
  (hd : autoParam ((x == ("__debug__" : Str)) = false) tcD) (hn : autoParam ((x == ("__classdict__" : Str)) = false) tcD) :
  ExT G k C σ (X₁ ++ (a, P) :: X₂) Y (.Expr (.Call (.Attribute (.Name x q) name ap) [e] [] p) p2 :: rest) Ψ := by
 intro A s hA h
 refine wpAny_execs_cons (wpAny_Expr_any ?_ hi hs)
 refine methodCall_KW (pl := pl) (wpAny_mono (EvT.var (k := k) hx hd hn A _ Y _ s hA h) (fun o s₁ h₁ => ?_) iz) hev
 obtain rfl : o = .ref a := h₁.take fun F z => z.2
 have h₂ := h₁
 obtain ⟨F, m, w⟩ := h₂
 obtain ⟨⟨o, ho, hp⟩, _⟩ := w.own (a, P) (by simp)
 refine hM.met F o s₁ a pl hp ho _ _ ?_
 refine bH (first := [.ref a]) (kv := []) (kn := []) (fun ys zs s₂ h₂ => ?_) KpT.bi (af.cons he .nil hstar) KwT.nil rfl rfl hplain (.inr hst) hA h₁
 obtain ⟨y, rfl⟩ : ∃ y, ys = [y] := h₂.take fun F z => let ⟨y, e, _⟩ := z.1.2.one; ⟨y, e⟩
 obtain rfl : zs = [] := h₂.take fun F z => z.2.none
 refine wpAny_mono (hM.call C σ X₁ X₂ Y _ A s₂ a y hA h₂ fun F z => (by refine ag (z.1.2.one) fun y' e q => ?_; cases e; exact q)) (fun r s₃ h₃ => ?_) iz
 exact hr A s₃ hA (h₃.wk fun _ _ => trivial)
theorem dt.append {l : List VP} {v : VP} (hz : l.length ≤ 100000) : dt G k "append" "list.append" (aC l) v (aC (l ++ [v])) where
 met := fun F o s a pl ⟨ys, n, e, r⟩ ho Q A hq => by subst e; exact getMethod_list_append ho rfl rfl hq
 call := fun C σ X₁ X₂ Y τ A s a y hA h hv => by
  obtain ⟨F, m, w⟩ := h
  obtain ⟨⟨o, ho, ys, n, rfl, r⟩, _⟩ := w.own (a, aC l) (by simp)
  refine wpAny_list_append_plain (items := ys.toArray) ⟨n, ho⟩ (fun h' hl hs => ?_) (by have := r.length; simp; rw [sizeLine_eq]; exact Z19)
  obtain ⟨n', hg⟩ := hl
  refine ⟨F, m, w.iM (P' := aC (l ++ [v])) hg hs ⟨ys ++ [y], n', by simp [d9], r.append (.cons (hv F w.tmp) .nil)⟩⟩
theorem dt.extend {l l' : List VP} (hz : l.length + l'.length ≤ 100000) : dt G k "extend" "list.extend" (aC l) (ae l') (aC (l ++ l')) where
 met := fun F o s a pl ⟨ys, n, e, r⟩ ho Q A hq => by
  subst e
  exact getMethod_builtin (T := "list") ⟨_, ho, rfl⟩ PySem.F.plainAttrs_list PySem.F.slot_list_extend PySem.F.type_list_extend (fun b e => by cases e; exact ⟨_, ho, rfl⟩) hq
 call := fun C σ X₁ X₂ Y τ A s a y hA h hv => by
  obtain ⟨F, m, w⟩ := h
  obtain ⟨⟨o, ho, ys, n, rfl, r⟩, _⟩ := w.own (a, aC l) (by simp)
  obtain ⟨b, ys', n', rfl, hb, r'⟩ := hv F w.tmp
  have z1 := r.length
  have z2 := r'.length
  have hT : s.TypeIs (.ref a) "list" := ⟨_, ho, rfl⟩
  refine call_meets PySem.F.slot_list_extend hT PySem.F.entry_list_extend (PySem.F.args_list_extend_2 _ _)
   (PySem.AutoSeq1.list_extend_list_list_0 a ys.toArray n b ys'.toArray n' ?_ (by simp; rw [sizeLine_eq]; omega) (by simp; rw [sizeLine_eq]; omega)) ⟨ho, (w.fz _ _ hb).1, ?_⟩
  ·simp [Builtin.List.listTooLong]
   have := sizeLine_eq
   omega
  ·have hg := Heap.get?_update_self (h := s.heap) (a := a) (Obj.mapSeq fun x => x ++ ys'.toArray) ho (by rfl)
   exact ⟨F, m, w.iM (P' := aC (l ++ l')) (tk := s.toks) hg (Heap.SameBut.update ..) ⟨ys ++ ys', _, by simp [d9, Obj.mapSeq]; rfl, r.append r'⟩⟩
theorem dt.add {S : Nat → Bool} {n : Nat} (hn : n < 4) : dt G k "add" "set.add" (bt G S) (vInt n) (bt G (cw S n)) where
 met := fun F o s a pl hs ho Q A hq => getMethod_set_add (hs.setOf (prog := PySem.Challenge.pw_jg0001_01) (w := G.w) ho) hq
 call := fun C σ X₁ X₂ Y τ A s a y hA h hv => by
  have h2 := h
  obtain ⟨F, m, w⟩ := h2
  obtain ⟨⟨o, ho, hs⟩, _⟩ := w.own (a, bt G S) (by simp)
  refine wpAny_call_entry PySem.F.slot_set_add (hs.typeIs ho) PySem.F.entry_set_add ?_ (PySem.F.args_set_add_2 _ _)
  unfold Builtin.«set.add» Builtin.Frozenset.oneOther
  refine wpAny_bind (wpAny_of_eq (a := (a, y)) rfl ?_)
  refine wpAny_bind (wpAny_mono (jm hn h hv) (fun _ s' h' => ?_) iz)
  exact wpAny_pure ⟨_, rfl, h'⟩
theorem dt.update {S T : Nat → Bool} : dt G k "update" "set.update" (bt G S) (ar G T) (bt G (unS S T)) where
 met := fun F o s a pl hs ho Q A hq => getMethod_builtin (hs.typeIs ho) PySem.F.plainAttrs_set PySem.F.slot_set_update PySem.F.type_set_update ((hs.setOf (prog := PySem.Challenge.pw_jg0001_01) (w := G.w) ho).noDict) hq
 call := fun C σ X₁ X₂ Y τ A s a y hA h hv => by
  obtain ⟨F, m, w⟩ := h
  refine bY (w.own (a, bt G S) (by simp)) fun nn0 _ hF _ => ?_; refine ag (nn0) fun o ho hs => ?_
  obtain ⟨b, ob, rfl, hb, hsb⟩ := hv F w.tmp
  have hne : b ≠ a := fun e => by subst e; rw [hF] at hb; cases hb
  refine wpAny_call_entry PySem.F.slot_set_update (hs.typeIs ho) PySem.F.entry_set_update ?_ (PySem.F.args_set_update_2 _ _)
  unfold Builtin.«set.update»
  refine wpAny_bind (wpAny_of_eq (a := (a, [Value.ref b])) rfl ?_)
  dsimp only
  rw [List.forIn_cons]
  refine wpAny_bind (wpAny_bind (wpAny_bind (dG hne ho hs (w.fz _ _ hb).1 hsb fun h' o' hsb hg hi => ?_)))
  refine wpAny_pure ?_
  refine wpAny_pure ?_
  exact wpAny_pure ⟨_, rfl, F, m, w.iM (P' := bt G (unS S T)) (tk := s.toks) hg hsb hi⟩
theorem FS.frz {a : Addr} {P : OP} {x : Str} {v : VP} (h : FS G ⟨C, σ, X₁ ++ (a, P) :: X₂, Y⟩ τ s) (hxa : C.xa = []) (hx : (x, some (vIs (.ref a))) ∈ σ) (hu : Upd σ x v σ') (hv : ∀ (F : Fz) o, F a = some o → P.p F o → v.p F (.ref a)) :
  FS G ⟨C, σ', X₁ ++ X₂, Y⟩ τ s := by
 obtain ⟨F, m, w⟩ := h
 have pr := (w.own (a, P) (by simp)).2.1
 have hp : C.s₀.heap.objs.size ≤ a := by
  rcases pr with p | p
  ·exact p
  ·rw [hxa] at p; cases p
 refine gK (w.freeze hp) fun o F' hP hF' le w' => ?_
 refine ⟨F', m, { w' with names := by rw [hu.names]; exact w'.names, vars := fun z u e => ?_ }⟩
 rcases hu.mem w'.names _ e with q | ⟨e, q⟩
 ·cases q
  refine ag (w'.vars _ _ hx) fun y va e => ?_
  rw [show y = .ref a from e] at va
  exact ⟨_, va, hv F' o hF' (P.mono le hP)⟩
 ·exact w'.vars z u e
theorem ExT.frz {a : Addr} {P : OP} {x : Str} {v : VP} {ss : List Stmt} (hxa : C.xa = []) (hx : (x, some (vIs (.ref a))) ∈ σ) (hu : Upd σ x v σ') (hv : ∀ (F : Fz) o, F a = some o → P.p F o → v.p F (.ref a)) (hr : ExT G k C σ' (X₁ ++ X₂) Y ss Ψ) :
  ExT G k C σ (X₁ ++ (a, P) :: X₂) Y ss Ψ := fun A s hA h => hr A s hA (h.frz hxa hx hu hv)
theorem f7 {a : Addr} {l : List VP} : ∀ (F : Fz) o, F a = some o → (aC l).p F o → (ae l).p F (.ref a) := fun F o e ⟨ys, n, h, r⟩ => ⟨a, ys, n, rfl, h ▸ e, r⟩
theorem mr {a : Addr} {S : Nat → Bool} : ∀ (F : Fz) o, F a = some o → (bt G S).p F o → (ar G S).p F (.ref a) := fun F o e h => ⟨a, o, rfl, e, h⟩
noncomputable def fY (iter t : Expr) (ifs : List Expr) (inner : Sem Unit) (e : Expr) (depth : Nat) (it acc : Value) (env : Env) : Sem Fin := do
 standAt iter.pos
 match ← pyNext it with
 | none => pure (.done .next)
 | some v =>
  letOwnedTupleGo t it v
  assign t env v
  let mut ok := true
  for c in ifs do
   if ok then ok ← isTrue c env (eval c env)
  if ok then
   inner
  again (.compLoop e depth it acc env)
noncomputable def fy (G : Gd) (k : Nat) (C : Cx) (σ : Sto) (ifs : List Expr) (b : Bool) : Prop :=
 ∀ A X Y τ s, AOk k A → FS G ⟨C, σ, X, Y⟩ τ s → wpAny G.M A (forIn ifs true fun c r => if r = true then do let ok ← isTrue c C.env (eval c C.env); pure (ForInStep.yield ok) else pure (ForInStep.yield r)) (fun ok s' => ok = b ∧ FS G ⟨C, σ, X, Y⟩ τ s') ff s
theorem fy.nil : fy G k C σ [] true := fun _ _ _ _ _ _ h => by rw [List.forIn_nil]; exact wpAny_pure ⟨rfl, h⟩
theorem fy.one {c : Expr} {b : Bool} (hc : TsT G k C σ c b) : fy G k C σ [c] b := by
 intro A X Y τ s hA h
 rw [List.forIn_cons]
 simp only [if_true]
 refine wpAny_bind (wpAny_bind (wpAny_mono (hc A X Y τ s hA h) (fun b' s₁ h₁ => wpAny_pure ?_) iz))
 dsimp only
 rw [List.forIn_nil]
 exact wpAny_pure h₁
inductive sN (G : Gd) (k : Nat) (C : Cx) (σ : Sto) (t : Expr) (ifs : List Expr) (v : VP) (A : Around) (inner : Sem Unit) (X X₁ : List (Addr × OP)) (Y : List (Nat × GP)) : Prop where
 | mk (σ' : Sto) (b : Bool) (ha : dN G k C σ t v σ') (ht : fy G k C σ' ifs b) (hw : Wk σ' σ) (h1 : b = true → ∀ Xf Yf s, FS G ⟨C, σ', Xf ++ X, Yf ++ Y⟩ MP.tt s → wpAny G.M A inner (fun _ s' => FS G ⟨C, σ', Xf ++ X₁, Yf ++ Y⟩ MP.tt s') ff s) (h2 : b = false → X₁ = X)
theorem fm {e t iter : Expr} {ifs : List Expr} {inner : Sem Unit} {depth : Nat} {it acc : Value} {Sr : Src} {H : gM} {l : List VP} {Xs : Nat → List (Addr × OP)} (W : aM G k t it Sr H l) (hH : C.holds G H) (hA : AOk k A)
  (hu : A.under (.compLoop e depth it acc C.env) = A) (hd : G.M.den (.compLoop e depth it acc C.env) = (compTurn e depth it acc C.env).onRaise (fun x => do noteFrame x C.env; theTreesLotGoes x)) (he : compTurn e depth it acc C.env = fY iter t ifs inner e depth it acc C.env)
  (turn : ∀ i v, l[i]? = some v → sN G k C σ t ifs v A inner (Xs i) (Xs (i + 1)) Y)
  (h : FSS G Sr 0 C σ (Xs 0) Y MP.tt s) : codeAny G.M A (.compLoop e depth it acc C.env) (fun r s' => r = .ok .next ∧ FS G ⟨C, σ, Xs l.length, Y⟩ MP.tt s') s := by
 refine codeAny_loop' rfl (fun n s => ∃ i, n = l.length - i ∧ i ≤ l.length ∧ FSS G Sr i C σ (Xs i) Y MP.tt s) (fun n s₃ ⟨i, en, hi, h₃⟩ => ?_) l.length ⟨0, rfl, Nat.zero_le _, h⟩
 rw [hd, hu]
 refine wpAny_noted ?_
 rw [he]
 unfold fY
 refine wpAny_bind (wpAny_standAt ?_)
 rcases Nat.lt_or_ge i l.length with lt | ge
 ·have hv : l[i]? = some l[i] := List.getElem?_eq_getElem lt
  obtain ⟨σ', b, ha, ht, hw, hb1, hb2⟩ := turn i l[i] hv
  refine wpAny_bind (up (wpAny_mono (W.item C σ (Xs i) Y _ A s₃ i l[i] hA hH hv h₃) (fun r s₄ h₄ => ?_) iz))
  obtain ⟨x, rfl, h₄⟩ := h₄
  refine wpAny_bind (up (wpAny_mono h₄ (fun _ s₅ h₅ => ?_) iz))
  obtain ⟨Xf, Yf, hS, h₅⟩ := h₅
  refine wpAny_bind (up (wpAny_mono (ha A _ _ _ s₅ x hA h₅ fun F z => z.2) (fun _ s₆ h₆ => ?_) iz))
  refine wpAny_bind (up (wpAny_mono (ht A _ _ MP.tt s₆ hA (h₆.wk fun _ _ => trivial)) (fun ok s₇ h₇ => ?_) iz))
  obtain ⟨rfl, h₇⟩ := h₇
  cases ok with
  | true =>
   simp only [if_true]
   refine wpAny_bind (up (wpAny_mono (hb1 rfl _ _ s₇ h₇) (fun _ s₈ h₈ => ?_) iz))
   exact wpAny_pure (.inl ⟨rfl, l.length - (i + 1), k8, i + 1, rfl, lt, Xf, Yf, hS, h₈.less hw (List.Sublist.refl _) (List.Sublist.refl _)⟩)
  | false =>
   simp only [Bool.false_eq_true, if_false]
   exact wpAny_pure (.inl ⟨rfl, l.length - (i + 1), k8, i + 1, rfl, lt, Xf, Yf, hS, by rw [hb2 rfl]; exact h₇.less hw (List.Sublist.refl _) (List.Sublist.refl _)⟩)
 ·obtain rfl : i = l.length := Nat.le_antisymm hi ge
  refine wpAny_bind (up (wpAny_mono (W.done C _ _ Y _ A s₃ hA hH h₃) (fun r s₄ h₄ => ?_) iz))
  obtain ⟨rfl, h₄⟩ := h₄
  exact wpAny_pure ⟨rfl, h₄⟩
theorem eN {e t : Expr} {depth : Nat} {it acc : Value} {Sr : Src} {H : gM} {l : List VP} {R : Result → Shared → Prop} (W : aM G k t it Sr H l) (hH : C.holds G H) (hA : AOk k A)
  (hu : A.under (.compStart e depth it acc C.env) = A) (hd : G.M.den (.compStart e depth it acc C.env) = (compStart e depth it acc C.env).onRaise (fun x => do noteFrame x C.env; standAt theWindowsPlace)) (hf : ((clausesOf e)[depth]?).elim false (·.is_async != 0) = false) (h : FSS G Sr 0 C σ X Y MP.tt s)
  (hl : ∀ s, FSS G Sr 0 C σ X Y MP.tt s → codeAny G.M A (.compLoop e depth it acc C.env) R s) : codeAny G.M A (.compStart e depth it acc C.env) R s := by
 refine codeAny_of_tree ?_
 rw [hd, hu]
 refine wpAny_notedAt ?_
 unfold compStart
 rw [hf]
 simp only [Bool.false_eq_true, if_false]
 have fin : wpAny G.M A (pyIter it) (fun it' s' => it' = it ∧ FSS G Sr 0 C σ X Y MP.tt s') ff s := W.self C σ X Y MP.tt A s hA hH h
 refine wpAny_bind (wpAny_askSetting (wpAny_ite ?_))
 split
 ·first
   | exact wpAny_bind (wpAny_pure (wpAny_pure (And.intro rfl (hl s h))))
   | exact wpAny_pure (And.intro rfl (hl s h))
 ·refine wpAny_bind (wpAny_rule ?_)
  have fin2 : wpAny G.M A (pyIter it >>= fun x => again (.compLoop e depth x acc C.env)) (fun fin s' => match fin with
   | Fin.done f => R (.ok f) s'
   | Fin.again c' => c'.quiet = true ∧ codeAny G.M A c' R s') (notedBy G.M A C.env fun e s' => R (.error e) s') s := by
   refine wpAny_bind (up (wpAny_mono fin (fun r s' h' => ?_) iz))
   obtain ⟨rfl, h'⟩ := h'
   exact wpAny_pure ⟨rfl, hl s' h'⟩
  cases (clausesOf e)[depth]? with
  | some g => exact wpAny_bind (wpAny_standAt fin2)
  | none => exact fin2
noncomputable def bZ (scope : Scope) (cl : List (Str × Addr)) (env : Env) (n : Addr) : Env :=
 { scope := relabel scope env, locals := n, globals := env.globals, cells := cellsFrom (n + 1) scope.names cl, qual := env.qual, func := none, code := env.code, frame := env.frame, builtins := env.builtins }
theorem bM : ∀ (names : List (Str × NameKind)) (n : Nat) (acc : List (Str × Addr)), cellsFrom n names acc = cellsFrom n names [] ++ acc
 | [], _, _ => rfl
 | (x, kd) :: r, n, acc => by
  unfold cellsFrom
  split
  ·rw [bM r (n + 1) ((x, n) :: acc), bM r (n + 1) [(x, n)], List.append_assoc]; rfl
  ·exact bM r n acc
noncomputable def cP : OP := ⟨fun _ o => ∃ m, ∀ (h : Heap) (a : Addr), h.get? a = some o → h.Ns a m, fun _ x => x⟩
theorem fT {h : Heap} {a : Addr} {m : Str → Option Value} (x : h.Ns a m) : ∃ o, h.get? a = some o ∧ ∀ (h' : Heap) (b : Addr), h'.get? b = some o → h'.Ns b m := by
 refine uQ (x) fun o es ep ho r => ?_
 exact ⟨o, ho, fun h' b e => ⟨o, es, ep, e, r⟩⟩
noncomputable def Cap (env : Env) (scope : Scope) (cl : List (Str × Addr)) (x : Str) : Prop :=
 ∃ c, env.cells.lookup x = some c ∧ (∀ n, (bZ scope cl env n).cells.lookup x = some c) ∧ (env.kindOf x = some .cell ∨ env.kindOf x = some .free) ∧ ∀ n, (bZ scope cl env n).kindOf x = some .cell ∨ (bZ scope cl env n).kindOf x = some .free
theorem FSB.mU {scope : Scope} {cl : List (Str × Addr)} {σc : Sto} (w : FSB G C σ X Y τ s F m) (hk : scope.kind = .function) (hnd : (σc.map (·.1)).Nodup) (hcl : ∀ p ∈ cl, C.env.cells.lookup p.1 = some p.2)
  (hσ : ∀ x v, (x, some v) ∈ σc → (x, some v) ∈ σ ∧ Cap C.env scope cl x)
  {Q : Env → Shared → Prop} (h : ∀ C' s', C'.env = bZ scope cl C.env s.heap.objs.size → C'.s₀ = s → C'.F₀ = F → C'.xa = X.map (·.1) → C'.xg = Y.map (·.1) → FS G ⟨C', σc, X, Y⟩ MP.tt s' → Q (bZ scope cl C.env s.heap.objs.size) s') :
  wpAny G.M A (newFunctionEnv scope C.env.globals cl [] C.env.qual none .none (some C.env)) (fun e s' => Q { e with scope := relabel scope C.env } s') ff s := by
 unfold newFunctionEnv
 simp only [Option.isSome_some, if_true]
 refine wpAny_bind (wpAny_alloc ?_)
 refine wpAny_bind (wpAny_layCells _ (fun name kind cells => by cases hkc : kind == NameKind.cell <;> simp [hkc]) _ _ _ _ ?_)
 rw [List.forIn_nil]
 refine wpAny_bind (wpAny_pure (wpAny_pure ?_))
 have ok := cellsFrom_ok scope.names (s.heap.push { cls := .type "dict", data := .dict #[] }) (s.heap.objs.size + 1) [] ⟨fun _ _ hm => (nomatch hm), List.Pairwise.nil⟩ (by rw [Heap.size_push]; exact Nat.le_refl _)
 rw [Heap.size_push] at ok
 have keep : ∀ b o, s.heap.get? b = some o → (pushCells (s.heap.push { cls := .type "dict", data := .dict #[] }) scope.names).get? b = some o := fun b o e => pushCells_keeps _ _ b o (Heap.get?_push_of_some _ e)
 have ns : (pushCells (s.heap.push { cls := .type "dict", data := .dict #[] }) scope.names).Ns s.heap.objs.size (fun _ => none) := (Heap.Ns.new s.heap (.type "dict")).keeps (pushCells_keeps _ _)
 have hz : s.heap.objs.size ≤ (pushCells (s.heap.push { cls := .type "dict", data := .dict #[] }) scope.names).objs.size := Nat.le_of_lt ns.lt
 have hsz : ({ s with heap := s.heap.push { cls := .type "dict", data := .dict #[] } } : Shared).heap.objs.size = s.heap.objs.size + 1 := Heap.size_push ..
 have low : ∀ c, s.heap.objs.size ≤ c → F c = none := fun c hc => by
  cases q : F c with
  | none => rfl
  | some o => exact absurd (Heap.lt_size (w.fz _ o q).1) (Nat.not_lt.mpr hc)
 rw [hsz]
 show Q (bZ scope cl C.env s.heap.objs.size) _
 refine h ⟨bZ scope cl C.env s.heap.objs.size, s, F, X.map (·.1), Y.map (·.1)⟩ _ rfl rfl rfl rfl rfl ⟨F, fun _ => none, ?_⟩
 have xin : ∀ p ∈ X, (∃ o, s.heap.get? p.1 = some o ∧ p.2.p F o) ∧ F p.1 = none := fun p hp => let ⟨a, _, b, _⟩ := w.own p hp; ⟨a, b⟩
 have cellOf : ∀ x c, (bZ scope cl C.env s.heap.objs.size).cells.lookup x = some c → C.env.cells.lookup x = some c ∨ ((x, c) ∈ cellsFrom (s.heap.objs.size + 1) scope.names [] ∧ (pushCells (s.heap.push { cls := .type "dict", data := .dict #[] }) scope.names).IsCell c none ∧ s.heap.objs.size + 1 ≤ c) := fun x c e => by
  have hm := mem_of_lookup e
  rw [show (bZ scope cl C.env s.heap.objs.size).cells = _ from bM _ _ _] at hm
  rcases List.mem_append.mp hm with hm | hm
  ·exact .inr ⟨hm, ok.empty x c hm⟩
  ·exact .inl (hcl _ hm)
 exact {
  wd := w.wd.keeps keep hz w.wd.bare
  kept := ⟨fun b o e _ _ => keep b o e, hz, fun _ _ e _ => e, Nat.le_refl _⟩
  base := w.wd.big
  xab := fun a ha => by
   refine ag (List.mem_map.mp ha) fun p hp re0 => ?_; subst re0
   refine bx (w.own p hp) fun nn0 pr _ => ?_; refine ag (nn0) fun o e _ => ?_
   exact ⟨w.dy pr, Heap.lt_size e⟩
  xgb := fun g hg => by
   refine ag (List.mem_map.mp hg) fun q hq re0 => ?_; subst re0
   obtain ⟨⟨g', e, _⟩, _⟩ := w.gown q hq
   rcases Nat.lt_or_ge q.1 s.gens.size with l | l
   ·exact l
   ·rw [Array.getElem?_eq_none l] at e; cases e
  le := Fz.le.refl _
  fz := fun a o e => let ⟨x, y, _⟩ := w.fz a o e; ⟨keep _ _ x, y, .inl e⟩
  ns := ns
  loc := ⟨low _ (Nat.le_refl _), .inl (Nat.le_refl _)⟩
  fun_ := hk
  glob := w.glob
  names := hnd
  vars := fun x v e => by
   obtain ⟨hm, c, h1, h2, h3, h4⟩ := hσ x v e
   refine ag (w.vars x v hm) fun y va vy => ?_
   refine ⟨y, .inr ⟨h4 _, c, h2 _, ?_⟩, vy⟩
   rcases va with ⟨kl, _⟩ | ⟨_, c', e', i'⟩
   ·rcases h3 with q | q <;> rw [q] at kl <;> cases kl
   ·rw [h1] at e'
    cases e'
    exact i'.keeps keep
  cells := fun x c e => by
   rcases cellOf x c e with q | ⟨_, q1, q2⟩
   ·refine iV (w.cells x c q) fun nn0 b d d2 d3 => ?_; obtain ⟨v, iv⟩ := nn0
    exact ⟨⟨v, iv.keeps keep⟩, b, d, Nat.ne_of_lt iv.lt, d3⟩
   ·refine ⟨⟨_, q1⟩, low c (Nat.le_of_succ_le q2), fun hm => ?_, Nat.ne_of_gt q2, Nat.le_trans w.wd.big (Nat.le_of_succ_le q2)⟩
    refine ag (List.mem_map.mp hm) fun p hp e => ?_
    obtain ⟨⟨o, e', _⟩, _⟩ := w.own p hp
    rw [e] at e'
    exact absurd (Heap.lt_size e') (Nat.not_lt.mpr (Nat.le_of_succ_le q2))
  cellsInj := fun x y c e e' => by
   rcases cellOf x c e with q | ⟨q0, q1, q2⟩ <;> rcases cellOf y c e' with q' | ⟨q0', q1', q2'⟩
   ·exact w.cellsInj x y c q q'
   ·obtain ⟨⟨v, iv⟩, _⟩ := w.cells x c q
    exact absurd iv.lt (Nat.not_lt.mpr (Nat.le_of_succ_le q2'))
   ·obtain ⟨⟨v, iv⟩, _⟩ := w.cells y c q'
    exact absurd iv.lt (Nat.not_lt.mpr (Nat.le_of_succ_le q2))
   ·exact name_of_addr ok.apart q0 q0'
  own := fun p hp => by
   refine bY (w.own p hp) fun nn0 _ c _ => ?_; refine ag (nn0) fun o a r => ?_
   exact ⟨⟨o, keep _ _ a, r⟩, .inr (List.mem_map_of_mem hp), c, Nat.ne_of_lt (Heap.lt_size a)⟩
  nodup := w.nodup
  gown := fun q hq => let ⟨a, _⟩ := w.gown q hq; ⟨a, .inr (List.mem_map_of_mem hq)⟩
  ynd := w.ynd
  tmp := trivial }
theorem gC {h : Str → NameKind → NameKind} : ∀ (l : List (Str × NameKind)) (x : Str), (l.map fun p => (p.1, h p.1 p.2)).lookup x = (l.lookup x).map (h x)
 | [], _ => rfl
 | (n, k) :: r, x => by
  rw [List.map_cons, List.lookup_cons, List.lookup_cons]
  cases q : x == n with
  | true => rw [eq_of_beq q]; rfl
  | false => exact gC r x
theorem i1 {scope : Scope} {cl : List (Str × Addr)} {env : Env} {n : Addr} {x : Str} {kd : NameKind} (h : scope.names.lookup x = some kd) (hk : kd ≠ .free) : (bZ scope cl env n).kindOf x = some kd := by
 show (relabel scope env).names.lookup x = some kd
 have e : (relabel scope env).names = scope.names.map fun p => (p.1, (fun n k => if (k == .free && env.scope.kind == .function && env.kindOf n == some .cell) = true then NameKind.cell else k) p.1 p.2) := by
  unfold relabel
  refine List.map_congr_left fun p _ => ?_
  obtain ⟨a, b⟩ := p
  dsimp only
  split <;> rfl
 rw [e]
 refine (gC (h := fun n k => if (k == .free && env.scope.kind == .function && env.kindOf n == some .cell) = true then NameKind.cell else k) scope.names x).trans ?_
 rw [h]
 cases kd with
 | free => exact absurd rfl hk
 | _ => rfl
theorem ek : ∀ (names : List (Str × NameKind)) (n : Nat) (x : Str) (c : Addr), (x, c) ∈ cellsFrom n names [] → n ≤ c
 | [], _, _, _, h => by cases h
 | (y, kd) :: r, n, x, c, h => by
  unfold cellsFrom at h
  split at h
  ·rw [bM] at h
   rcases List.mem_append.mp h with h | h
   ·exact Nat.le_of_succ_le (ek r (n + 1) x c h)
   ·cases List.mem_singleton.mp h; exact Nat.le_refl _
  ·exact ek r n x c h
theorem pD {scope : Scope} {cl : List (Str × Addr)} (hnd : (scope.names.map (·.1)).Nodup) (e : C'.env = bZ scope cl C.env C'.s₀.heap.objs.size) : ∀ x ∈ av scope, C'.st x := by
 intro x hx
 refine ag (List.mem_map.mp hx) fun p hp re0 => ?_; subst re0
 have hp2 := List.mem_filter.mp hp
 have hl : scope.names.lookup p.1 = some p.2 := aO hnd hp2.1
 rcases Bool.or_eq_true_iff.mp hp2.2 with q | q
 ·have q' := eq_of_beq q
  exact .inl (by rw [e]; exact i1 (by rw [hl, q']) (by decide))
 ·have q' := eq_of_beq q
  refine .inr ⟨by rw [e]; exact i1 (by rw [hl, q']) (by decide), ?_⟩
  have hs : ((cellsFrom (C'.s₀.heap.objs.size + 1) scope.names []).lookup p.1).isSome = true := aR _ _ _ (.inl (by
   obtain ⟨p1, p2⟩ := p
   dsimp only at q' ⊢
   subst q'
   exact hp2.1))
  obtain ⟨c, hc⟩ := Option.isSome_iff_exists.mp hs
  refine ⟨c, ?_, .inl (Nat.le_of_succ_le (ek _ _ _ _ (mem_of_lookup hc)))⟩
  rw [e, show (bZ scope cl C.env C'.s₀.heap.objs.size).cells = _ from bM _ _ _, List.lookup_append, hc]
  rfl
theorem FS.perm (h : FS G ⟨C, σ, X, Y⟩ τ s) (hX : X'.Perm X) : FS G ⟨C, σ, X', Y⟩ τ s := by
 obtain ⟨F, m, w⟩ := h
 exact ⟨F, m, { w with
  cells := fun x c e => let ⟨a, b, d, f⟩ := w.cells x c e; ⟨a, b, fun hm => d ((hX.map _).mem_iff.mp hm), f⟩
  own := fun p hp => w.own p (hX.mem_iff.mp hp)
  nodup := (hX.map _).nodup_iff.mpr w.nodup }⟩
theorem gW {e t iter : Expr} {ifs : List Expr} {scope : Scope} {cl : List (Str × Addr)} {it acc : Value} {Sr : Src} {l : List VP} {Xs : Nat → List (Addr × OP)} {QL : Addr → Result → Shared → Prop}
  (hk : scope.kind = .function) (hnn : (scope.names.map (·.1)).Nodup) (hnd : (σc.map (·.1)).Nodup) (hcl : ∀ p ∈ cl, C.env.cells.lookup p.1 = some p.2)
  (hσ : ∀ x v, (x, some v) ∈ σc → (x, some v) ∈ σ ∧ Cap C.env scope cl x)
  (hf : ((clausesOf e)[0]?).elim false (·.is_async != 0) = false) (hus : ∀ (A : Around) n, A.under (.compStart e 0 it acc (bZ scope cl C.env n)) = A) (hds : ∀ n, G.M.den (.compStart e 0 it acc (bZ scope cl C.env n)) = (compStart e 0 it acc (bZ scope cl C.env n)).onRaise (fun x => do noteFrame x (bZ scope cl C.env n); standAt theWindowsPlace))
  (hul : ∀ (A : Around) n, A.under (.compLoop e 0 it acc (bZ scope cl C.env n)) = A) (hdl : ∀ n, G.M.den (.compLoop e 0 it acc (bZ scope cl C.env n)) = (compTurn e 0 it acc (bZ scope cl C.env n)).onRaise (fun x => do noteFrame x (bZ scope cl C.env n); theTreesLotGoes x))
  {inner : Env → Sem Unit} (he : ∀ n, compTurn e 0 it acc (bZ scope cl C.env n) = fY iter t ifs (inner (bZ scope cl C.env n)) e 0 it acc (bZ scope cl C.env n))
  (W : aM G k t it Sr [] l) (hA : AOk k A)
  (turn : ∀ C', C'.env = bZ scope cl C.env C'.s₀.heap.objs.size → (∀ x ∈ av scope, C'.st x) → ∀ i v, l[i]? = some v → sN G k C' σc t ifs v A (inner C'.env) (Xs i) (Xs (i + 1)) Y)
  (h : FSS G Sr 0 C σ (Xs 0) Y τ s)
  (hQ : ∀ L s', FS G ⟨C, σ, (L, cP) :: Xs l.length, Y⟩ τ s' → QL L (.ok .next) s') :
  wpAny G.M A (newFunctionEnv scope C.env.globals cl [] C.env.qual none .none (some C.env)) (fun cenv s' => codeAny G.M A (.compStart e 0 it acc { cenv with scope := relabel scope C.env }) (QL cenv.locals) s') ff s := by
 obtain ⟨Xf, Yf, hS, F, m, w⟩ := h
 refine w.mU (Q := fun env s' => codeAny G.M A (.compStart e 0 it acc env) (QL env.locals) s') hk hnd hcl hσ fun C' s₁ e1 e2 e3 e4 e5 h₁ => ?_
 have e1' : C'.env = bZ scope cl C.env C'.s₀.heap.objs.size := by rw [e1, e2]
 have hloc := pD hnn e1'
 have hC' : C'.holds G [] := bb
 rw [← e1]
 have key : ∀ s, FSS G Sr 0 C' σc (Xs 0) Y MP.tt s → codeAny G.M A (.compLoop e 0 it acc C'.env) (fun r s' => r = .ok .next ∧ FS G ⟨C', σc, Xs l.length, Y⟩ MP.tt s') s := fun s₂ h₂ =>
  fm W hC' hA (by rw [e1]; exact hul _ _) (by rw [e1]; exact hdl _) (by rw [e1]; exact he _) (turn C' e1' hloc) h₂
 refine codeAny_mono (eN (t := t) W hC' hA (by rw [e1]; exact hus _ _) (by rw [e1]; exact hds _) hf ⟨Xf, Yf, hS, h₁⟩ key) fun r s₂ h₂ => ?_
 obtain ⟨rfl, F', m', w'⟩ := h₂
 refine hQ _ _ ?_
 have w0 : FSB G C σ ((Xf ++ Xs 0) ++ []) ((Yf ++ Y) ++ []) τ s F m := by rw [List.append_nil, List.append_nil]; exact w
 refine ag (fT w'.ns) fun oL hoL hnsL => ?_
 have fin := w0.k6 (X₂ := (C'.L, cP) :: Xs l.length) (Y₂ := Y) w' e2 e3 (by rw [e4]; exact fun _ h => h) (by rw [e5]; exact fun _ h => h)
  (fun p hp => by
   rcases List.mem_cons.mp hp with rfl | hp
   ·exact ⟨⟨oL, hoL, m', hnsL⟩, w'.loc.2, w'.loc.1⟩
   ·refine bY (w'.own p hp) fun a b c _ => ?_
    exact ⟨a, b, c⟩)
  (by
   rw [List.map_cons]
   refine List.nodup_cons.mpr ⟨fun hm => ?_, w'.nodup⟩
   refine ag (List.mem_map.mp hm) fun p hp q => ?_
   exact (w'.own p hp).2.2.2 q)
  (fun q hq => w'.gown q hq) w'.ynd
 rw [List.append_nil, List.append_nil] at fin
 exact ⟨F', m, { fin with tmp := fin.tmp.1 }⟩
structure jP (C : Cx) (σ : Sto) (scope : Scope) (cl : List (Str × Addr)) (σc : Sto) : Prop where
 clos : closureFor scope C.env = pure cl
 kind : scope.kind = .function
 names : (scope.names.map (·.1)).Nodup
 nd : (σc.map (·.1)).Nodup
 cells : ∀ p ∈ cl, C.env.cells.lookup p.1 = some p.2
 see : ∀ x v, (x, some v) ∈ σc → (x, some v) ∈ σ ∧ Cap C.env scope cl x
noncomputable def lC (C : Cx) (scope : Scope) (cl : List (Str × Addr)) (C' : Cx) : Prop := C'.env = bZ scope cl C.env C'.s₀.heap.objs.size ∧ ∀ x ∈ av scope, C'.st x
inductive uu (G : Gd) (k : Nat) (C : Cx) (σ : Sto) (t : Expr) (ifs : List Expr) (elt : Expr) (v : VP) (l l' : List VP) : Prop where
 | mk (σ' : Sto) (b : Bool) (wv : VP) (ha : dN G k C σ t v σ') (ht : fy G k C σ' ifs b) (hw : Wk σ' σ) (h1 : b = true → EvT G k C σ' elt wv) (h2 : b = true → l' = l ++ [wv]) (h3 : b = false → l' = l)
inductive iy (G : Gd) (k : Nat) (C : Cx) (scope : Scope) (cl : List (Str × Addr)) (σc : Sto) (t : Expr) (ifs : List Expr) (elt : Expr) (l res : List VP) : Prop where
 | mk (Wl : Nat → List VP) (w0 : Wl 0 = []) (wn : Wl l.length = res) (wz : ∀ i, (Wl i).length ≤ 100000) (turn : ∀ C', lC C scope cl C' → ∀ i v, l[i]? = some v → uu G k C' σc t ifs elt v (Wl i) (Wl (i + 1)))
inductive su (G : Gd) (k : Nat) (C : Cx) (σ : Sto) (t : Expr) (ifs : List Expr) (elt : Expr) (v : VP) (b : Bool) (w : VP) : Prop where
 | mk (σ' : Sto) (ha : dN G k C σ t v σ') (ht : fy G k C σ' ifs b) (hw : Wk σ' σ) (he : b = true → EvT G k C σ' elt w)
theorem iy.filter {scope : Scope} {cl : List (Str × Addr)} {t elt : Expr} {ifs : List Expr} {α : Type} {xs : List α} {kv wv : α → VP} {pb : α → Bool} (hz : xs.length ≤ 100000)
  (h : ∀ C', lC C scope cl C' → ∀ x ∈ xs, su G k C' σc t ifs elt (kv x) (pb x) (wv x)) :
  iy G k C scope cl σc t ifs elt (xs.map kv) ((xs.filter pb).map wv) := by
 refine ⟨fun i => ((xs.take i).filter pb).map wv, by simp, by simp, fun i => ?_, fun C' hC' i v hv => ?_⟩
 ·have h1 : ((xs.take i).filter pb).length ≤ (xs.take i).length := List.length_filter_le _ _
  have h2 : (xs.take i).length ≤ xs.length := by simp; exact Z69
  simp only [List.length_map]; omega
 ·rw [List.getElem?_map] at hv
  cases q : xs[i]? with
  | none => rw [q] at hv; cases hv
  | some x =>
   rw [q] at hv
   obtain rfl : kv x = v := Option.some.inj hv
   obtain ⟨σ', h1, h2, h3, h4⟩ := h C' hC' x (List.mem_of_getElem? q)
   have e : (xs.take (i + 1)).filter pb = (xs.take i).filter pb ++ (if pb x then [x] else []) := take_succ_filter pb xs i x q
   refine ⟨σ', pb x, wv x, h1, h2, h3, h4, fun hb => ?_, fun hb => ?_⟩
   ·rw [e, hb]; simp
   ·rw [e, hb]; simp
theorem compTurn_list1 {elt target iter : Expr} {ifs : List Expr} {scope : Scope} {pos : Pos} {it acc : Value} {env : Env} :
  compTurn (.ListComp elt [⟨target, iter, ifs, 0⟩] scope pos) 0 it acc env = fY iter target ifs (do let _ ← call (.builtin "list.append") [acc, ← eval elt env]) (.ListComp elt [⟨target, iter, ifs, 0⟩] scope pos) 0 it acc env := rfl
theorem gj {scope : Scope} (h : (scope.names.map (·.1)).Nodup) : ∀ x ∈ scope.names, x.2 = .local → scope.names.lookup x.1 = some .local := fun x hx e => by
 rw [← e]; exact aO h hx
theorem fe {elt t iter : Expr} {ifs : List Expr} {scope : Scope} {pos : Pos} {cl : List (Str × Addr)} {Sp : List VP → Prop} {res : List VP} (hit : dk G k k t C σ iter Sp) (hs : jP C σ scope cl σc)
  (step : ∀ l, Sp l → iy G k C scope cl σc t ifs elt l res) (hA : AOk k A) (h : FS G ⟨C, σ, X, Y⟩ τ s) {use : Option (Value → Sem Unit)} {Q : Value → Shared → Prop}
  (hQ : ∀ L D s', FS G ⟨C, σ, (L, cP) :: X, Y⟩ (τ.and ((ae res).at (.ref D))) s' → compPost G.M A ff use Q (.ref D) L (.ok .next) s') (pp : Pos) (hfs : ∀ x, foldedSetIterable iter C.env x = pure x := by intro _; rfl) :
  wpAny G.M A (comprehension (.ListComp elt [⟨t, iter, ifs, 0⟩] scope pos) scope C.env pp (newList []) false (eval iter C.env) use) Q ff s := by
 refine wpAny_comprehension_free rfl hfs hs.clos hs.kind (gj hs.names) (wpAny_mono (hit A X Y τ s hA h) (fun x s₁ h₁ => ?_) iz)
 refine wpAny_mono h₁ (fun it s₂ h₂ => ?_) iz
 obtain ⟨Sr, l, hl, W, Xf, Yf, hS, F, m, w⟩ := h₂
 obtain ⟨Wl, w0, wn, wz, turn⟩ := step l hl
 refine wpAny_newObj_type ?_
 have h₃ : FSS G Sr 0 C σ ((s₂.heap.objs.size, aC (Wl 0)) :: X) Y τ ⟨s₂.heap.push { cls := .type "list", data := .seq ([] : List Value).toArray }, s₂.gens, s₂.drawn, s₂.toks, s₂.os⟩ := by
  have := w.newX (P := aC (Wl 0)) (tk := s₂.toks) (fun b o e => Heap.get?_push_of_some _ e) (by rw [Heap.size_push]; exact Z22) (Nat.le_refl _) (Heap.get?_push_size s₂.heap (o := { cls := .type "list", data := .seq ([] : List Value).toArray }) rfl) (by rw [w0]; exact ⟨[], 0, rfl, .nil⟩)
  exact ⟨Xf, Yf, hS, FS.perm ⟨F, m, this⟩ List.perm_middle⟩
 have hpriv : C.s₀.heap.objs.size ≤ s₂.heap.objs.size := w.kept.size
 refine gW (C := C) (σ := σ) (Y := Y) (Xs := fun i => (s₂.heap.objs.size, aC (Wl i)) :: X) (QL := fun L r s' => compPost G.M A ff use Q (.ref s₂.heap.objs.size) L r s') (t := t) (iter := iter) (ifs := ifs) (l := l) (Sr := Sr) hs.kind hs.names hs.nd hs.cells hs.see rfl (fun _ _ => rfl) (fun _ => rfl) (fun _ _ => rfl) (fun _ => rfl)
  (inner := fun env => do let _ ← call (.builtin "list.append") [.ref s₂.heap.objs.size, ← eval elt env]) (fun n => compTurn_list1) W hA (fun C' e hloc i v hv => ?_) h₃ fun L s' h' => ?_
 ·obtain ⟨σ', b, wv, t1, t2, t3, t4, t6, t5⟩ := turn C' ⟨e, hloc⟩ i v hv
  refine ⟨σ', b, t1, t2, t3, fun hb Xf Yf s h => ?_, fun hb => by rw [t5 hb]⟩
  have he := t4 hb
  have hw := t6 hb
  refine wpAny_bind (wpAny_mono (he A _ _ MP.tt s hA h) (fun y s₄ h₄ => ?_) iz)
  refine wpAny_bind (wpAny_mono ((dt.append (k := k) (l := Wl i) (v := wv) (wz i)).call C' σ' Xf X (Yf ++ Y) _ A s₄ s₂.heap.objs.size y hA h₄ fun F z => z.2) (fun _ s₅ h₅ => ?_) iz)
  refine wpAny_pure ?_
  rw [hw]
  exact h₅.wk fun _ _ => trivial
 ·refine hQ L _ s' ?_
  obtain ⟨F', m', w'⟩ := h'
  rw [wn] at w'
  refine gK (FSB.freeze (X₁ := [(L, cP)]) w' hpriv) fun o F'' ho hF'' le w'' => ?_
  obtain ⟨ys, n, rfl, r⟩ := ho
  exact ⟨F'', m', { w'' with tmp := ⟨w''.tmp, _, ys, n, rfl, hF'', r.mono le⟩ }⟩
theorem EvT.aJ {elt t iter : Expr} {ifs : List Expr} {scope : Scope} {pos : Pos} {cl : List (Str × Addr)} {Sp : List VP → Prop} {res : List VP} (hit : dk G k k t C σ iter Sp) (hs : jP C σ scope cl σc)
  (step : ∀ l, Sp l → iy G k C scope cl σc t ifs elt l res) (hfs : ∀ x, foldedSetIterable iter C.env x = pure x := by intro _; rfl) : EvT G k C σ (.ListComp elt [⟨t, iter, ifs, 0⟩] scope pos) (ae res) := by
 intro A X Y τ s hA h
 rw [eval_ListComp]
 refine fe hit hs step hA h (fun L D s' h' => ?_) _ hfs
 obtain ⟨F, m, w⟩ := h'
 obtain ⟨⟨o, ho, m₂, hm₂⟩, _⟩ := w.own (L, cP) (.head _)
 exact ⟨m₂, hm₂ _ _ ho, fun h'' hs'' => ⟨F, m, w.iG hs''.extBut (by rw [hs''.1]; exact Nat.le_refl _)⟩⟩
theorem ExT.c8 {elt t iter : Expr} {ifs : List Expr} {scope : Scope} {pos p q : Pos} {cl : List (Str × Addr)} {Sp : List VP → Prop} {res : List VP} {x : Str} {rest : List Stmt} (hit : dk G k k t C σ iter Sp) (hs : jP C σ scope cl σc)
  (step : ∀ l, Sp l → iy G k C scope cl σc t ifs elt l res) (hx : C.st x) (hu : Upd σ x (ae res) σ') (hr : ExT G k C σ' X Y rest Ψ)
  (hsw : autoParam (swapsWith (.ListComp elt [⟨t, iter, ifs, 0⟩] scope pos) (some (.Name x q)) p.line C.env = pure true) tcR) (hfs : ∀ x, foldedSetIterable iter C.env x = pure x := by intro _; rfl) :
  ExT G k C σ X Y (.Assign [.Name x q] (.ListComp elt [⟨t, iter, ifs, 0⟩] scope pos) p :: rest) Ψ := by
 intro A s hA h
 refine wpAny_execs_cons ?_
 rw [exec_Assign_Name_used _ _ _ _ hsw]
 refine wpAny_bind (wpAny_standAt (wpAny_bind ?_))
 show wpAny _ A (do let _ ← comprehension (.ListComp elt [⟨t, iter, ifs, 0⟩] scope pos) scope C.env _ (PySem.newList []) false (eval iter C.env) (some (PySem.assign (Expr.Name x q) C.env))) _ _ s
 refine wpAny_bind (fe hit hs step hA h (fun L D s' h' => ?_) _ hfs)
 refine wpAny_mono (dN.name (k := k) hx hu A _ Y _ s' (.ref D) hA h' fun F z => z.2) (fun _ s₂ h₂ => ?_) iz
 obtain ⟨F, m, w⟩ := h₂
 obtain ⟨⟨o, ho, m₂, hm₂⟩, _⟩ := w.own (L, cP) (.head _)
 refine ⟨m₂, hm₂ _ _ ho, fun h'' hs'' => wpAny_pure (wpAny_pure ?_)⟩
 refine hr A _ hA ⟨F, m, { w.iG hs''.extBut (by rw [hs''.1]; exact Nat.le_refl _) with tmp := trivial }⟩
noncomputable def dq (k : Nat) : Around := ⟨none, recursionLimit - 3 * k - 11, none, some [], cLine - 20 * k - 101⟩
theorem Woken.top {Γ : Ctx} {A : Around} {k : Nat} (hA : AOk k A) (h : Γ.Woken A) : Γ.Woken (dq k) := by
 obtain ⟨⟨h1, h2, h3, h4, h5⟩, h6⟩ := h
 refine bY (hA) fun a1 a2 a3 a4 => ?_
 refine ⟨⟨h1.trans a1, ?_, fun l hl => (nomatch hl), fun g hg => ?_, ?_⟩, h6⟩
 ·show frameCount Γ.below ≤ recursionLimit - 3 * k - 11; omega
 ·rw [a2] at h4; exact h4 g hg
 ·show unitsOf Γ.below ≤ cLine - 20 * k - 101; omega
noncomputable def Sg (M : Model) (A : Around) (Φ : End → Shared → Prop) (c : Code) (t : Sem Fin) (fs : List Frame) (s : Shared) : Prop := ∀ Γ p, Γ.code = c → Γ.Woken A → ∃ e s', Runs M Γ p t fs s e s' ∧ Φ e s'
section
variable {M : Model} {Φ : End → Shared → Prop} {c : Code} {fs : List Frame}
theorem gf {α : Type} {m : Sem α} {K : α → Sem Fin} {H : Value → Sem Fin} {gd lv}
  (h : wpAny M (A.over c fs) m (fun a s' => Sg M A Φ c (K a) fs s') (fun x s' => Sg M A Φ c (H x) fs s') s) : Sg M A Φ c (m.wrap K H gd lv) fs s := by
 rintro Γ p rfl hΓ
 exact runs_wrap_of_wp K H gd lv m (h (Γ.over fs) p (hΓ.over fs)) (fun a p' s' h' => h' Γ p' rfl hΓ) (fun x p' s' h' => h' Γ p' rfl hΓ)
theorem au {α β : Type} {m : Sem α} {K : α → Sem β} {K' : β → Sem Fin} {H' : Value → Sem Fin} {gd lv}
  (h : wpAny M (A.over c fs) m (fun a s' => Sg M A Φ c ((K a).wrap K' H' gd lv) fs s') (fun x s' => Sg M A Φ c (H' x) fs s') s) : Sg M A Φ c ((m >>= K).wrap K' H' gd lv) fs s := by
 rw [Sem.bind_eq_wrap', Sem.wrap_wrap]; exact gf h
theorem oI {p' : Pos} {k : Unit → Sem Fin} (h : Sg M A Φ c (k ()) fs s) : Sg M A Φ c (.at p' k) fs s := gf (m := standAt p') (K := k) (H := .raise) (gd := id) (lv := id) (wpAny_standAt h)
theorem n7 {l : List Value} {k : Unit → Sem Fin} (h : Sg M A Φ c (k ()) fs s) : Sg M A Φ c (.point l k) fs s := gf (m := point) (K := k) (H := .raise) (gd := id) (lv := fun _ => l) (wpAny_point h)
theorem oS {c' : Code} {h g l} {k : Result → Sem Fin} (hc : ∀ p, Sg M A Φ c' (M.den c') (.ret k h g l c p [] :: fs) s) : Sg M A Φ c (.call c' h g l k) fs s := by
 rintro Γ p rfl hΓ
 refine ez (hc p (Γ.goto c') p rfl (hΓ.goto c')) fun e s' hr he => ?_
 exact ⟨e, s', runs_call_seg hr, he⟩
theorem mh {k h g l c₁ p₁ kp} (r : Result) (hk : Sg M A Φ c₁ (k r) fs s) : Sg M A Φ c (leafOf r) (.ret k h g l c₁ p₁ kp :: fs) s := by
 rintro Γ p rfl hΓ
 refine ez (hk (Γ.goto c₁) p₁ rfl (hΓ.goto c₁)) fun e s' hr he => ?_
 exact ⟨e, s', Runs.pop r hr, he⟩
theorem dp {c' : Code} (hq : c'.quiet = true) (hc : Sg M A Φ c' (M.den c') fs s) : Sg M A Φ c (.pure (.again c')) fs s := by
 rintro Γ p rfl hΓ
 refine ez (hc (Γ.goto c') p rfl (hΓ.goto c')) fun e s' hr he => ?_
 exact ⟨e, s', Runs.head (c₁ := c') (fun _ _ x => .again hq x) hr, he⟩
theorem lN (r : Result) (h : Φ (.ret r) s) : Sg M A Φ c (leafOf r) [] s := by
 rintro Γ p rfl _
 exact ⟨.ret r, s, Runs.leaf r, h⟩
theorem jS {v g l} {k : Resume → Sem Fin} (hfs : splitAtGen fs = none) (h : ∀ p, Φ (.susp v g l k c p fs) s) : Sg M A Φ c (.yield v g l k) fs s := by
 rintro Γ p rfl _
 exact ⟨_, s, Runs.yield' fs hfs, h p⟩
noncomputable def Gz (M : Model) (A : Around) (gs : GenState) (s : Shared) (Φ : End → Shared → Prop) : Prop := match gs with
 | .fresh c => Sg M A Φ c (M.den c) [] s
 | .suspended k _ c _ fs _ => Sg M A Φ c (k (.send .none)) fs s
 | _ => False
theorem fu {E : Value → Shared → Prop} {g : Nat} {gs : GenState} {l : List Value} {α : Type} {kk : GenResult → Sem α} {Q : α → Shared → Prop} {k : Nat} (hA : AOk k A) (hg : s.gens[g]? = some gs)
  (hgo : Gz M (dq k) gs (s.setGen g .running) Φ) (hq : ∀ e s', Φ e s' → e.quiet = true)
  (hΦ : ∀ e s', Φ e s' → wpAny M A (kk e.result) Q E (s'.setGen g e.genState)) : wpAny M A (.resume g (.send .none) l kk) Q E s := by
 intro Γ p hΓ
 rw [Sem.wp_resume]
 have hB : ∀ c, (Γ.wake c p).Woken (dq k) := fun c => Woken.top hA (hΓ.wake c p)
 cases gs with
 | fresh c =>
  refine ez (hgo (Γ.wake c p) p rfl (hB c)) fun e₁ s₁ hr he => ?_
  exact ⟨_, _, by unfold Wakes; rw [hg]; exact ⟨e₁, s₁, hr, hq e₁ s₁ he, rfl, rfl⟩, hΦ _ _ he Γ p hΓ⟩
 | suspended k₀ l₀ c₀ p₀ fs₀ cl =>
  refine ez (hgo (Γ.wake c₀ p) p₀ rfl (hB c₀)) fun e₁ s₁ hr he => ?_
  exact ⟨_, _, by unfold Wakes; rw [hg]; exact ⟨e₁, s₁, hr, hq e₁ s₁ he, rfl, rfl⟩, hΦ _ _ he Γ p hΓ⟩
 | running => exact hgo.elim
 | finished => exact hgo.elim
end
structure Stg where
 σ : Sto
 X : List (Addr × OP)
 Y : List (Nat × GP)
structure fD where
 x : Str
 c : Addr
 o : Obj
 y : Value
 v : VP
structure iK (env : Env) (caps : List fD) (σ : Sto) : Prop where
 vars : ∀ x v, (x, some v) ∈ σ → env.kindOf x = some .local ∨ ((env.kindOf x = some .cell ∨ env.kindOf x = some .free) ∧ ∃ q ∈ caps, q.x = x ∧ q.v = v ∧ env.cells.lookup x = some q.c)
 names : (σ.map (·.1)).Nodup
noncomputable def GAt (G : Gd) (k : Nat) (env : Env) (caps : List fD) (l : List VP) (endr : Result) : Nat → Stg → GenState → Prop
 | 0, st, gs => gs.bare = true ∧ ∀ C s, C.env = env → FS G ⟨C, st.σ, st.X, st.Y⟩ MP.tt s → Gz G.M (dq k) gs s fun e s' => e = .ret endr ∧ FS G ⟨C, [], [], []⟩ MP.tt s'
 | m + 1, st, gs => gs.bare = true ∧ ∀ C s, C.env = env → FS G ⟨C, st.σ, st.X, st.Y⟩ MP.tt s → Gz G.M (dq k) gs s fun e s' =>
   e.quiet = true ∧ ∃ v vp st', e.result = .yielded v ∧ l[l.length - (m + 1)]? = some vp ∧ iK env caps st'.σ ∧ FS G ⟨C, st'.σ, st'.X, st'.Y⟩ (vp.at v) s' ∧ GAt G k env caps l endr m st' e.genState
theorem GAt.bare {G : Gd} {k : Nat} {env : Env} {caps : List fD} {l : List VP} {endr : Result} {m : Nat} {st : Stg} {gs : GenState} (h : GAt G k env caps l endr m st gs) : gs.bare = true := by
 cases m with
 | zero => exact h.1
 | succ m => exact h.1
noncomputable def cu (g : Nat) : OP := ⟨fun _ o => ∃ nm qn, o.cls = .type "generator" ∧ o.data = .fields #[.int g 0, nm, qn] ∧ o.slots = #[], fun _ x => x⟩
noncomputable def oNs (env : Env) (σ : Sto) : OP := ⟨fun F o => ∃ m, (∀ (h : Heap) (a : Addr), h.get? a = some o → h.Ns a m) ∧ ∀ x v, (x, some v) ∈ σ → env.kindOf x = some .local → ∃ y, m x = some y ∧ v.p F y, fun h ⟨m, a, b⟩ => ⟨m, a, fun x v e q => let ⟨y, c, d⟩ := b x v e q; ⟨y, c, v.mono h d⟩⟩⟩
noncomputable def kX (G : Gd) (k : Nat) (env : Env) (st : Stg) (l : List VP) (endr : Result) (caps : List fD) (m : Nat) : GP := ⟨fun F gs => GAt G k env caps l endr m st gs ∧ ∀ q ∈ caps, q.v.p F q.y, fun h ⟨a, b⟩ => ⟨a, fun q hq => VP.mono _ h (b q hq)⟩⟩
noncomputable def mq : GP := ⟨fun _ _ => True, fun _ x => x⟩
noncomputable def cB (G : Gd) (k : Nat) (env : Env) (l : List VP) (endr : Result) (caps : List fD) (a : Addr) (g : Nat) : Src :=
 ⟨fun i X₁ Y₁ => ∃ st : Stg, iK env caps st.σ ∧ X₁ = ((env.locals, oNs env st.σ) :: st.X) ++ [(a, cu g)] ∧ Y₁ = st.Y ++ [(g, kX G k env st l endr caps (l.length - i))]⟩
structure gc (env : Env) (caps : List fD) : Prop where
 fun_ : env.scope.kind = .function
 glob : env.globals = mainGlobals ∧ env.builtins = builtinsNs
 cell : ∀ q ∈ caps, q.o.data = .cell (some q.y)
 cells : ∀ x c, env.cells.lookup x = some c → ∃ q ∈ caps, q.c = c
 inj : ∀ x y c, env.cells.lookup x = some c → env.cells.lookup y = some c → x = y
theorem bS {s : Shared} {g : Nat} {x : GenState} : (s.setGen g x).gens.size = s.gens.size ∧ (∀ j, j ≠ g → (s.setGen g x).gens[j]? = s.gens[j]?) ∧ (g < s.gens.size → (s.setGen g x).gens[g]? = some x) :=
 ⟨by simp [Shared.setGen], fun j hj => by simp [Shared.setGen, Ne.symm hj], fun h => by simp [Shared.setGen, h]⟩
theorem j4 {s : Shared} {g : Nat} {x : GenState} (h : AllBare s.gens) (hx : x.bare = true) : AllBare (s.setGen g x).gens := by
 intro y hy
 obtain ⟨i, hi, rfl⟩ := Array.mem_iff_getElem.mp hy
 by_cases e : i = g
 ·subst e
  have : (s.setGen i x).gens[i] = x := by simp [Shared.setGen]
  rw [this]; exact hx
 ·have hz : i < s.gens.size := by rw [← (bS (s := s) (g := g) (x := x)).1]; exact hi
  have h1 := (bS (s := s) (g := g) (x := x)).2.1 i e
  rw [Array.getElem?_eq_getElem hi, Array.getElem?_eq_getElem hz] at h1
  rw [Option.some.inj h1]
  exact h _ (Array.getElem_mem hz)
theorem FSB.setGen {g : Nat} {P P' : GP} {x : GenState} (h : FSB G C σ X (Y₁ ++ (g, P) :: Y₂) τ s F m) (hx : x.bare = true) (hP : P'.p F x) : FSB G C σ X (Y₁ ++ (g, P') :: Y₂) τ (s.setGen g x) F m := by
 obtain ⟨⟨g₀, e₀, _⟩, hg⟩ := h.gown (g, P) (by simp)
 have hlt : g < s.gens.size := by
  rcases Nat.lt_or_ge g s.gens.size with l | l
  ·exact l
  ·rw [Array.getElem?_eq_none l] at e₀; cases e₀
 have keys : (Y₁ ++ (g, P') :: Y₂).map (·.1) = (Y₁ ++ (g, P) :: Y₂).map (·.1) := by simp
 have nd := h.ynd
 simp only [List.map_append, List.map_cons] at nd
 have nd2 := List.nodup_append.mp nd
 have n1 : ∀ q ∈ Y₁, q.1 ≠ g := fun q hq e => nd2.2.2 _ (List.mem_map_of_mem hq) _ (.head _) e
 have n2 : ∀ q ∈ Y₂, q.1 ≠ g := fun q hq e => (List.nodup_cons.mp nd2.2.1).1 (List.mem_map.mpr ⟨q, hq, e⟩)
 exact { h with
  wd := ⟨h.wd.K, h.wd.old, h.wd.big, h.wd.tabs, h.wd.bns, j4 h.wd.bare hx, h.wd.os, h.wd.mod⟩
  kept := ⟨h.kept.heap, h.kept.size, fun i y e q => by
    rw [bS.2.1 i fun z => ?_]
    ·exact h.kept.gens i y e q
    ·subst z
     rcases hg with p | p
     ·have : i < C.s₀.gens.size := by
       rcases Nat.lt_or_ge i C.s₀.gens.size with l | l
       ·exact l
       ·rw [Array.getElem?_eq_none l] at e; cases e
      exact absurd this (Nat.not_lt.mpr p)
     ·exact q p, by rw [bS.1]; exact h.kept.gsize⟩
  gown := fun q hq => by
   rcases List.mem_append.mp hq with hq | hq
   ·obtain ⟨⟨y, e, r⟩, b⟩ := h.gown q (List.mem_append_left _ hq)
    exact ⟨⟨y, (bS.2.1 _ (n1 q hq)).trans e, r⟩, b⟩
   ·rcases List.mem_cons.mp hq with rfl | hq
    ·exact ⟨⟨x, bS.2.2 hlt, hP⟩, hg⟩
    ·obtain ⟨⟨y, e, r⟩, b⟩ := h.gown q (List.mem_append_right _ (.tail _ hq))
     exact ⟨⟨y, (bS.2.1 _ (n2 q hq)).trans e, r⟩, b⟩
  ynd := by rw [keys]; exact h.ynd }
theorem l8 {env : Env} {st : Stg} {caps : List fD} (ok : gc env caps) (ok2 : iK env caps st.σ) (h : FSB G C σ (((env.locals, oNs env st.σ) :: st.X) ++ X) (st.Y ++ Y) τ s F m) (hH : C.holds G (caps.map fun q => (q.c, q.o))) (hcv : ∀ q ∈ caps, q.v.p F q.y) :
  ∃ m', FSB G ⟨env, s, F, env.locals :: st.X.map (·.1), st.Y.map (·.1)⟩ st.σ st.X st.Y MP.tt s F m' := by
 obtain ⟨⟨o, ho, m', hm, hmv⟩, _⟩ := h.own (env.locals, oNs env st.σ) (by simp)
 have nd := h.nodup
 rw [List.cons_append, List.map_cons, List.nodup_cons] at nd
 have held : ∀ q ∈ caps, s.heap.IsCell q.c (some q.y) ∧ F q.c = none ∧ ¬ C.ey q.c ∧ G.H0.objs.size ≤ q.c := fun q hq => by
  refine bY (hH (q.c, q.o) (List.mem_map.mpr ⟨q, hq, rfl⟩)) fun e nx hb f0 => ?_
  have lt := Heap.lt_size e
  refine ⟨⟨q.o, h.kept.heap _ _ e nx (Gd.ef hb), ok.cell q hq⟩, ?_, ?_, hb⟩
  ·cases z : F q.c with
   | none => rfl
   | some o' =>
    rcases (h.fz _ _ z).2.2 with r | r
    ·rw [show C.F₀ q.c = none from f0] at r; cases r
    ·exact absurd lt (Nat.not_lt.mpr r)
  ·rintro (r | r)
   ·exact absurd lt (Nat.not_lt.mpr r)
   ·exact nx r
 refine ⟨m', h.lend (Xo := (env.locals, oNs env st.σ) :: st.X) (Yo := st.Y) ok.fun_ ok.glob (fun a ha => ha) (fun g hg => hg) (.head _) (hm _ _ ho) ok2.names (fun p hp => ?_) ?_ (fun q hq => ?_) ?_ (fun x v e => ?_) (fun x c e => ?_) ok.inj trivial⟩
 ·obtain ⟨a, _⟩ := h.own p (List.mem_append_left _ (.tail _ hp))
  exact ⟨a, .tail _ (List.mem_map_of_mem hp), fun e => nd.1 (List.mem_map.mpr ⟨p, List.mem_append_left _ hp, e⟩)⟩
 ·exact nd.2.sublist ((List.sublist_append_left _ _).map _)
 ·obtain ⟨a, _⟩ := h.gown q (List.mem_append_left _ hq)
  exact ⟨a, List.mem_map_of_mem hq⟩
 ·have := h.ynd
  exact this.sublist ((List.sublist_append_left _ _).map _)
 ·rcases ok2.vars x v e with q | ⟨hk, q, hq, rfl, rfl, hl⟩
  ·refine ag (hmv x v e q) fun y a b => ?_
   exact ⟨y, .inl ⟨q, a⟩, b⟩
  ·exact ⟨q.y, .inr ⟨hk, q.c, hl, (held q hq).1⟩, hcv q hq⟩
 ·refine ag (ok.cells x c e) fun q hq re0 => ?_; subst re0
  refine bY (held q hq) fun a b d f' => ?_
  refine ⟨⟨_, a⟩, b, fun hm2 => d ?_, f'⟩
  have : q.c ∈ ((env.locals, oNs env st.σ) :: st.X).map (·.1) := hm2
  refine ag (List.mem_map.mp this) fun p hp e => ?_
  exact e ▸ (h.own p (List.mem_append_left _ hp)).2.1
theorem oZ {env : Env} {st st' : Stg} {C' : Cx} {w₀ : FSB G C σ (((env.locals, oNs env st.σ) :: st.X) ++ X) (st.Y ++ Y) τ s F m} (e1 : C'.env = env) (e2 : C'.s₀ = s) (e3 : C'.F₀ = F) (e4 : C'.xa = env.locals :: st.X.map (·.1)) (e5 : C'.xg = st.Y.map (·.1))
  (w : FSB G C' st'.σ st'.X st'.Y τ' s' F' m') : FSB G C σ (((env.locals, oNs env st'.σ) :: st'.X) ++ X) (st'.Y ++ Y) (τ.and τ') s' F' m := by
 refine ag (fT w.ns) fun oL hoL hnsL => ?_
 have eL : C'.L = env.locals := by show C'.env.locals = _; rw [e1]
 rw [eL] at hoL
 refine w₀.k6 w e2 e3 (by rw [e4]; exact fun _ h => h) (by rw [e5]; exact fun _ h => h) (fun p hp => ?_) ?_ (fun q hq => w.gown q hq) w.ynd
 ·rcases List.mem_cons.mp hp with rfl | hp
  ·refine ⟨⟨oL, hoL, m', hnsL, fun x v e q => ?_⟩, by rw [← eL]; exact w.loc.2, by rw [← eL]; exact w.loc.1⟩
   refine ag (w.vars x v e) fun y va vy => ?_
   rcases va with ⟨_, b⟩ | ⟨b, _⟩
   ·exact ⟨y, b, vy⟩
   ·rw [e1] at b
    rcases b with b | b <;> rw [b] at q <;> cases q
  ·refine bY (w.own p hp) fun a b c _ => ?_
   exact ⟨a, b, c⟩
 ·rw [List.map_cons]
  refine List.nodup_cons.mpr ⟨fun hm => ?_, w.nodup⟩
  refine ag (List.mem_map.mp hm) fun p hp q => ?_
  exact (w.own p hp).2.2.2 (by rw [eL]; exact q)
theorem bj {env : Env} {l : List VP} {endr : Result} {caps : List fD} {a : Addr} {g i : Nat} : FSS G (cB G k env l endr caps a g) i C σ X Y τ s ↔ ∃ st : Stg, iK env caps st.σ ∧ FS G ⟨C, σ, ((env.locals, oNs env st.σ) :: st.X) ++ ((a, cu g) :: X), st.Y ++ ((g, kX G k env st l endr caps (l.length - i)) :: Y)⟩ τ s := by
 constructor
 ·rintro ⟨_, _, ⟨st, h1, rfl, rfl⟩, h⟩
  refine ⟨st, h1, ?_⟩
  rw [List.append_assoc, List.append_assoc] at h
  exact h
 ·rintro ⟨st, h1, h⟩
  refine ⟨_, _, ⟨st, h1, rfl, rfl⟩, ?_⟩
  rw [List.append_assoc, List.append_assoc]
  exact h
theorem cu.gA {h : Heap} {a : Addr} {g : Nat} {o : Obj} {F : Fz} (e : h.get? a = some o) (x : (cu g).p F o) : h.IsGen a g := let ⟨nm, qn, b, c, d⟩ := x; ⟨o, nm, qn, e, b, c, d⟩
theorem gH {env : Env} {l : List VP} {endr : Result} {caps : List fD} {a : Addr} {g i : Nat} {vp : VP} (ok : gc env caps) (hA : AOk k A) (hH : C.holds G (caps.map fun q => (q.c, q.o))) (hl : l[i]? = some vp)
  (h : FSS G (cB G k env l endr caps a g) i C σ X Y τ s) :
  wpAny G.M A (Builtin.Generator.genWake (.ref a) (.send .none)) (fun fin s' => ∃ v, fin = .done (.ret v) ∧ FSS G (cB G k env l endr caps a g) (i + 1) C σ X Y (τ.and (vp.at v)) s') ff s := by
 obtain ⟨st, ok2, F, m, w⟩ := bj.mp h
 have hi : i < l.length := (List.getElem?_eq_some_iff.mp hl).1
 obtain ⟨m₀, hm₀⟩ : ∃ m₀, l.length - i = m₀ + 1 := ⟨l.length - i - 1, uc⟩
 obtain ⟨⟨oa, hoa, hga⟩, _⟩ := w.own (a, cu g) (by simp)
 obtain ⟨⟨gs, hgs, hgo, hcv⟩, _⟩ := w.gown (g, kX G k env st l endr caps (l.length - i)) (by simp)
 have w1 := w.setGen (x := .running) (P' := mq) rfl trivial
 have hgo' := hgo
 rw [hm₀] at hgo'
 obtain ⟨m', w2⟩ := l8 ok ok2 w1 hH hcv
 have run := hgo'.2 ⟨env, s.setGen g .running, F, env.locals :: st.X.map (·.1), st.Y.map (·.1)⟩ (s.setGen g .running) rfl ⟨F, m', w2⟩
 unfold Builtin.Generator.genWake
 refine wpAny_bind (wpAny_holding (wpAny_genNumber (cu.gA hoa hga) (wpAny_bind (wpAny_genState hgs ?_))))
 have go : wpAny G.M A (.resume g (.send .none) [] fun res => match res with
   | .yielded v => ret v
   | .returned v => do
    if v == .none then raiseNew (← newExc (.type "StopIteration") [])
    rule "generator.return-value"; throw (← newExc (.type "StopIteration") [v])
   | .raised e => Builtin.Generator.genLeft (.ref a) e
   | .running => do rule "generator.already-executing"; raiseError "ValueError" "generator already executing"
   | .justStarted => do rule "generator.send-to-fresh"; raiseError "TypeError" "can't send non-None value to a just-started generator"
   | .finished => do raiseNew (← newExc (.type "StopIteration") [])) (fun fin s' => ∃ v, fin = .done (.ret v) ∧ FSS G (cB G k env l endr caps a g) (i + 1) C σ X Y (τ.and (vp.at v)) s') ff s := by
  refine fu hA hgs run (fun e s' he => he.1) fun e s' he => ?_
  obtain ⟨hq, v, vp', st', hr, hlv, ok3, ⟨F', m₂, w'⟩, hnext⟩ := he
  rw [hr]
  rw [show l.length - (m₀ + 1) = i from tV, hl] at hlv
  cases hlv
  have fin := (oZ (st' := st') (τ := τ) (w₀ := w1) rfl rfl rfl rfl rfl w').setGen (x := e.genState) (P' := kX G k env st' l endr caps (l.length - (i + 1))) hnext.bare ⟨by rw [show l.length - (i + 1) = m₀ from Z87]; exact hnext, fun q hq => VP.mono _ w'.le (hcv q hq)⟩
  exact wpAny_pure ⟨v, rfl, bj.mpr ⟨st', ok3, F', m, fin⟩⟩
 cases gs with
 | running => exact (run : False).elim
 | finished => exact (run : False).elim
 | fresh c => exact wpAny_bind (wpAny_roomToWake w.wd.lim hA.room go)
 | suspended k₁ l₁ c₁ p₁ fs₁ cl₁ => exact wpAny_bind (wpAny_roomToWake w.wd.lim hA.room go)
theorem gI {env : Env} {l : List VP} {endr : Result} {caps : List fD} {a : Addr} {g : Nat} (ok : gc env caps) (hA : AOk k A) (hH : C.holds G (caps.map fun q => (q.c, q.o))) (hend : (End.ret endr).result = .returned .none)
  (h : FSS G (cB G k env l endr caps a g) l.length C σ X Y τ s) :
  wpAny G.M A (Builtin.Generator.genWake (.ref a) (.send .none)) (fun _ _ => False) (fun e s' => ∃ x o, e = .ref x ∧ s'.heap.get? x = some o ∧ o.cls = .type "StopIteration" ∧ FS G ⟨C, σ, X, Y⟩ τ s') s := by
 obtain ⟨st, ok2, F, m, w⟩ := bj.mp h
 obtain ⟨⟨oa, hoa, hga⟩, _⟩ := w.own (a, cu g) (by simp)
 obtain ⟨⟨gs, hgs, hgo, hcv⟩, _⟩ := w.gown (g, kX G k env st l endr caps (l.length - l.length)) (by simp)
 have w1 := w.setGen (x := .running) (P' := mq) rfl trivial
 have hgo' := hgo
 rw [Nat.sub_self] at hgo'
 obtain ⟨m', w2⟩ := l8 ok ok2 w1 hH hcv
 have run := hgo'.2 ⟨env, s.setGen g .running, F, env.locals :: st.X.map (·.1), st.Y.map (·.1)⟩ (s.setGen g .running) rfl ⟨F, m', w2⟩
 unfold Builtin.Generator.genWake
 refine wpAny_bind (wpAny_holding (wpAny_genNumber (cu.gA hoa hga) (wpAny_bind (wpAny_genState hgs ?_))))
 have go : wpAny G.M A (.resume g (.send .none) [] fun res => match res with
   | .yielded v => ret v
   | .returned v => do
    if v == .none then raiseNew (← newExc (.type "StopIteration") [])
    rule "generator.return-value"; throw (← newExc (.type "StopIteration") [v])
   | .raised e => Builtin.Generator.genLeft (.ref a) e
   | .running => do rule "generator.already-executing"; raiseError "ValueError" "generator already executing"
   | .justStarted => do rule "generator.send-to-fresh"; raiseError "TypeError" "can't send non-None value to a just-started generator"
   | .finished => do raiseNew (← newExc (.type "StopIteration") [])) (fun _ _ => False) (fun e s' => ∃ x o, e = .ref x ∧ s'.heap.get? x = some o ∧ o.cls = .type "StopIteration" ∧ FS G ⟨C, σ, X, Y⟩ τ s') s := by
  refine fu hA hgs run (fun e s' he => by rw [he.1]; rfl) fun e s' he => ?_
  obtain ⟨rfl, F', m₂, w'⟩ := he
  rw [hend]
  have fin : FSB G C σ ([] ++ ((a, cu g) :: X)) ([] ++ ((g, mq) :: Y)) (τ.and MP.tt) s' F' m := w1.k6 w' rfl rfl (fun _ h => h) (fun _ h => h) (fun _ h => nomatch h) List.nodup_nil (fun _ h => nomatch h) List.nodup_nil
  have fin2 : FS G ⟨C, σ, X, Y⟩ τ (s'.setGen g (End.ret endr).genState) := by
   have := FSB.setGen (Y₁ := []) (x := (End.ret endr).genState) (P' := mq) fin rfl trivial
   exact ⟨F', m, this.weak this.names (fun x v e => ⟨v, e, iz⟩) (List.sublist_cons_self _ _) (List.sublist_cons_self _ _) fun _ z => z.1⟩
  show wpAny _ A (newExc (.type "StopIteration") [] >>= _) _ _ _
  refine wpAny_bind ?_
  simp only [newExc, newTuple]
  refine wpAny_bind (wpAny_newObj_type ?_ (by size_fits))
  refine wpAny_bind (m := firstArgMember _ _) (wpAny_of_eq (a := Value.none) (by first | rfl | (simp only [firstArgMember]; rfl)) ?_)
  refine wpAny_newObj_type ?_ (by size_fits)
  simp only [raiseNew]
  refine wpAny_bind (wpAny_bind (wpAny_handled ?_))
  rw [show A.handled = none from hA.1]
  refine wpAny_throw ⟨_, _, rfl, Heap.get?_push_size _ rfl, rfl, ?_⟩
  exact FS.grow fin2 (fun b o e => Heap.get?_push_of_some _ (Heap.get?_push_of_some _ e)) (by rw [Heap.size_push, Heap.size_push]; exact Z23)
 cases gs with
 | running => exact (run : False).elim
 | finished => exact (run : False).elim
 | fresh c => exact wpAny_bind (wpAny_roomToWake w.wd.lim hA.room go)
 | suspended k₁ l₁ c₁ p₁ fs₁ cl₁ => exact wpAny_bind (wpAny_roomToWake w.wd.lim hA.room go)
noncomputable def Cx.re (C : Cx) (s : Shared) (F : Fz) (X : List (Addr × OP)) (Y : List (Nat × GP)) : Cx := ⟨C.env, s, F, C.L :: X.map (·.1), Y.map (·.1)⟩
theorem FSB.rebase (w : FSB G C σ X Y τ s F m) : FSB G (C.re s F X Y) σ X Y τ s F m :=
 { w with
  kept := .refl s
  base := w.wd.big
  xab := fun a ha => by
   rcases List.mem_cons.mp ha with rfl | ha
   ·exact ⟨w.dy w.loc.2, w.ns.lt⟩
   ·refine ag (List.mem_map.mp ha) fun p hp re0 => ?_; subst re0
    refine bx (w.own p hp) fun nn0 pr _ => ?_; refine ag (nn0) fun o e _ => ?_
    exact ⟨w.dy pr, Heap.lt_size e⟩
  xgb := fun g hg => by
   refine ag (List.mem_map.mp hg) fun q hq re0 => ?_; subst re0
   obtain ⟨⟨g', e, _⟩, _⟩ := w.gown q hq
   rcases Nat.lt_or_ge q.1 s.gens.size with l | l
   ·exact l
   ·rw [Array.getElem?_eq_none l] at e; cases e
  le := Fz.le.refl _
  fz := fun a o e => let ⟨x, y, _⟩ := w.fz a o e; ⟨x, y, .inl e⟩
  loc := ⟨w.loc.1, .inr (.head _)⟩
  own := fun p hp => let ⟨a, _, c, d⟩ := w.own p hp; ⟨a, .inr (.tail _ (List.mem_map_of_mem hp)), c, d⟩
  gown := fun q hq => let ⟨a, _⟩ := w.gown q hq; ⟨a, .inr (List.mem_map_of_mem hq)⟩ }
theorem FSB.nt (w : FSB G C σ X Y τ s F m) (w' : FSB G (C.re s F X Y) σ' X' Y' τ' s' F' m') : FSB G C σ' X' Y' τ' s' F' m' := by
 have pr : ∀ {a}, (C.re s F X Y).ey a → C.ey a := fun {a} p => by
  rcases p with p | p
  ·exact .inl (Nat.le_trans w.kept.size p)
  ·rcases List.mem_cons.mp p with rfl | p
   ·exact w.loc.2
   ·refine ag (List.mem_map.mp p) fun q hq re0 => ?_; subst re0
    exact (w.own q hq).2.1
 exact { w' with
  kept := ⟨fun a o e q t => w'.kept.heap a o (w.kept.heap a o e q t) (fun hm => by
    rcases pr (.inr hm) with z | z
    ·exact absurd (Heap.lt_size e) (Nat.not_lt.mpr z)
    ·exact q z) t, Nat.le_trans w.kept.size w'.kept.size, fun i x e q => w'.kept.gens i x (w.kept.gens i x e q) (fun hm => by
    refine ag (List.mem_map.mp hm) fun p hp re0 => ?_; subst re0
    rcases (w.gown p hp).2 with z | z
    ·have : p.1 < C.s₀.gens.size := by
      rcases Nat.lt_or_ge p.1 C.s₀.gens.size with l | l
      ·exact l
      ·rw [Array.getElem?_eq_none l] at e; cases e
     exact absurd this (Nat.not_lt.mpr z)
    ·exact q z), Nat.le_trans w.kept.gsize w'.kept.gsize⟩
  base := w.base
  xab := w.xab
  xgb := w.xgb
  le := w.le.trans w'.le
  fz := fun a o e => by
   refine bx (w'.fz a o e) fun p q r => ?_
   refine ⟨p, q, ?_⟩
   rcases r with r | r
   ·exact (w.fz a o r).2.2
   ·exact .inr (Nat.le_trans w.kept.size r)
  loc := ⟨w'.loc.1, w.loc.2⟩
  own := fun p hp => let ⟨a, b, c, d⟩ := w'.own p hp; ⟨a, pr b, c, d⟩
  gown := fun q hq => by
   obtain ⟨a, b⟩ := w'.gown q hq
   refine ⟨a, ?_⟩
   rcases b with b | b
   ·exact .inl (Nat.le_trans w.kept.gsize b)
   ·refine ag (List.mem_map.mp b) fun p hp e => ?_
    exact e ▸ (w.gown p hp).2 }
theorem aM.gen {env : Env} {l : List VP} {endr : Result} {caps : List fD} {a : Addr} {g : Nat} {t : Expr} (ok : gc env caps) (hend : (End.ret endr).result = .returned .none) :
  aM G (k + 1) t (.ref a) (cB G k env l endr caps a g) (caps.map fun q => (q.c, q.o)) l where
 item := fun C σ X Y τ A s i v hA hH hl h => by
  obtain ⟨st, _, F, m, w⟩ := bj.mp h
  obtain ⟨⟨oa, hoa, hga⟩, _⟩ := w.own (a, cu g) (by simp)
  have hg := cu.gA hoa hga
  unfold pyNext
  refine wpAny_bind (wpAny_attempt (wpAny_callSpecial?_slot (name := Str.ofString "__next__") hg.typeIs slot_gen_next (wpAny_call_entry slot_gen_next hg.typeIs entry_gen_next ?_ (args_gen_next _))))
  refine wpAny_mono (gH ok hA.in1 hH hl h) (fun fin s' h' => ?_) fun _ _ z => z.elim
  obtain ⟨y, rfl, h'⟩ := h'
  refine ⟨y, rfl, wpAny_pure ⟨y, rfl, ?_⟩⟩
  obtain ⟨st', _, F', m', w'⟩ := bj.mp h'
  obtain ⟨⟨oa', hoa', nm, qn, hc, hd, _⟩, _⟩ := w'.own (a, cu g) (by simp)
  have go : wpAny G.M A (do
    let (.ref r, .ref a) := ((Value.ref a, y) : Value × Value) | return
    let o ← load r
    match o.cls, o.data with
    | .type n, .fields vs =>
     if ["enumerate", "zip", "dict_itemiterator", "dict_reverseitemiterator", "odict_iterator", "itertools.zip_longest", "itertools.pairwise"].contains n && vs[0]? == some (rawInt a) then
      rule "for.unpacks-the-owned-tuple"
      updateField r 0 .none
    | _, _ => pure () : Sem Unit) (fun _ s'' => FSS G (cB G k env l endr caps a g) (i + 1) C σ X Y (τ.and (v.at y)) s'') ff s' := by
   cases y with
   | ref b =>
    refine wpAny_bind (wpAny_load hoa' ?_)
    rw [hc, hd]
    dsimp only
    rw [show (["enumerate", "zip", "dict_itemiterator", "dict_reverseitemiterator", "odict_iterator", "itertools.zip_longest", "itertools.pairwise"] : List String).contains "generator" = false by decide, Bool.false_and]
    exact wpAny_pure h'
   | _ => exact wpAny_pure h'
  cases t <;> first | exact wpAny_pure h' | exact go
 done := fun C σ X Y τ A s hA hH h => by
  obtain ⟨st, _, F, m, w⟩ := bj.mp h
  obtain ⟨⟨oa, hoa, hga⟩, _⟩ := w.own (a, cu g) (by simp)
  have hg := cu.gA hoa hga
  unfold pyNext
  refine wpAny_bind (wpAny_attempt (wpAny_callSpecial?_slot (name := Str.ofString "__next__") hg.typeIs slot_gen_next (wpAny_call_entry slot_gen_next hg.typeIs entry_gen_next ?_ (args_gen_next _))))
  refine wpAny_mono (gI ok hA.in1 hH hend h) (fun fin s' h' => h'.elim) fun e s' h' => ?_
  obtain ⟨x, o, rfl, ho, hc, h'⟩ := h'
  refine wpAny_bind (wpAny_isInstance (T := "StopIteration") (b := true) ⟨o, ho, hc⟩ isSubtype_stop ?_)
  exact wpAny_pure ⟨rfl, h'⟩
 self := fun C σ X Y τ A s hA hH h => by
  obtain ⟨st, _, F, m, w⟩ := bj.mp h
  obtain ⟨⟨oa, hoa, hga⟩, _⟩ := w.own (a, cu g) (by simp)
  exact wpAny_pyIter_gen (cu.gA hoa hga) ⟨rfl, h⟩
theorem jI {A : Around} {k : Nat} {c : Code} (hA : AOk (k + 1) A) (h1 : c.weight ≤ 2) (h2 : c.cUnits ≤ 10) (h3 : c.guards = []) : AOk k ((dq (k + 1)).over c []) := by
 refine bY (hA) fun _ _ a3 a4 => ?_
 refine ⟨rfl, ?_, ?_, ?_⟩
 ·show pushGuards c.guards (pushGuards (guardsOf ([].map Frame.where_)) (some [])) = some []
  rw [h3]; rfl
 ·show recursionLimit - 3 * (k + 1) - 11 + frameCount [] + c.weight + 3 * k + 10 < recursionLimit
  have : frameCount [] = 0 := rfl
  omega
 ·show cLine - 20 * (k + 1) - 101 + unitsOf [] + c.cUnits + 20 * k + 100 < cLine
  have : unitsOf [] = 0 := rfl
  omega
noncomputable def pass (b : Nat → Bool) (n : Nat) : List Nat := (List.range n).filter b
theorem bK (b : Nat → Bool) (j : Nat) : pass b (j + 1) = pass b j ++ (if b j then [j] else []) := by
 unfold pass
 rw [List.range_succ, List.filter_append]
 cases h : b j <;> simp [h]
theorem kG (b : Nat → Bool) {j n : Nat} (h : j ≤ n) : pass b j <+: pass b n := by
 induction n with
 | zero =>
  obtain rfl : j = 0 := Nat.le_zero.mp h
  exact List.prefix_refl _
 | succ n ih =>
  rcases Nat.lt_or_ge j (n + 1) with l | l
  ·rw [bK]; exact (ih Z28).trans (List.prefix_append _ _)
  ·obtain rfl : j = n + 1 := Z94
   exact List.prefix_refl _
theorem mx {b : Nat → Bool} {j n i : Nat} (h : j < n) (hb : b j = true) (hi : (pass b j).length = i) : (pass b n)[i]? = some j := by
 obtain ⟨r, hr⟩ := kG b (j := j + 1) (n := n) h
 rw [← hr, bK, hb]
 simp [← hi]
noncomputable def jy (G : Gd) (k : Nat) (env : Env) (σg : Sto) (t : Expr) (ifs : List Expr) (elt : Expr) (l₀ : List VP) (b : Nat → Bool) (wv : Nat → VP) : Prop :=
 ∀ C, C.env = env → (∀ x ∈ av env.scope, C.st x) → ∀ j v, l₀[j]? = some v → su G k C σg t ifs elt v (b j) (wv j)
theorem qM {elt t iter : Expr} {ifs : List Expr} {scope : Scope} {pos : Pos} {it : Value} {env : Env} (hA : AOk (k + 1) A) : AOk k ((dq (k + 1)).over (.compLoop (.GeneratorExp elt [⟨t, iter, ifs, 0⟩] scope pos) 0 it .none env) []) :=
 jI hA (show 1 ≤ 2 by decide) (show 3 ≤ 10 by decide) rfl
theorem kP {elt t iter : Expr} {ifs : List Expr} {scope : Scope} {pos : Pos} {it : Value} {env : Env} {σg : Sto} {Sr : Src} {l₀ : List VP} {b : Nat → Bool} {wv : Nat → VP} (hA : AOk (k + 1) A) (W : aM G k t it Sr [] l₀)
  (hy : jy G k env σg t ifs elt l₀ b wv) (hco : env.scope.isCoroutine = false) (hC : C.env = env) (hloc : ∀ x ∈ av env.scope, C.st x) {Φ : End → Shared → Prop} {i : Nat}
  (hend : (pass b l₀.length).length = i → ∀ s', FS G ⟨C, [], [], []⟩ MP.tt s' → Φ (.ret (.ok .next)) s')
  (hyield : ∀ j, j < l₀.length → b j = true → (pass b j).length = i → ∀ (s' : Shared) (v : Value) (p : Pos) (lv : List Value) (K : Resume → Sem Fin), FSS G Sr (j + 1) C σg [] [] ((wv j).at v) s' →
   K (.send .none) = .pure (.again (.compLoop (.GeneratorExp elt [⟨t, iter, ifs, 0⟩] scope pos) 0 it .none env)) → Φ (.susp v false lv K (.compLoop (.GeneratorExp elt [⟨t, iter, ifs, 0⟩] scope pos) 0 it .none env) p []) s') :
  ∀ (n j : Nat), l₀.length - j = n → j ≤ l₀.length → (pass b j).length = i → ∀ s, FSS G Sr j C σg [] [] MP.tt s →
   Sg G.M (dq (k + 1)) Φ (.compLoop (.GeneratorExp elt [⟨t, iter, ifs, 0⟩] scope pos) 0 it .none env) (G.M.den (.compLoop (.GeneratorExp elt [⟨t, iter, ifs, 0⟩] scope pos) 0 it .none env)) [] s := by
 subst hC
 have hA2 : AOk k ((dq (k + 1)).over (.compLoop (.GeneratorExp elt [⟨t, iter, ifs, 0⟩] scope pos) 0 it .none C.env) []) := qM hA
 intro n
 induction n with
 | zero =>
  intro j hn hj hi s h
  obtain rfl : j = l₀.length := Z88
  show Sg _ _ _ _ ((compTurn (.GeneratorExp elt [⟨t, iter, ifs, 0⟩] scope pos) 0 it .none C.env).onRaise (leaving C.env)) [] s
  rw [compTurn_gen, Sem.onRaise_eq_wrap]
  refine au (wpAny_standAt ?_)
  refine au (up (wpAny_mono (W.done C σg [] [] MP.tt _ s hA2 bb h) (fun r s' hr => ?_) iz))
  obtain ⟨rfl, F, mm, w⟩ := hr
  exact lN (.ok .next) (hend hi _ ⟨F, mm, w.weak List.nodup_nil (fun _ _ h => nomatch h) (List.Sublist.refl _) (List.Sublist.refl _) fun _ z => z⟩)
 | succ n ih =>
  intro j hn hj hi s h
  have lt : j < l₀.length := Z89
  show Sg _ _ _ _ ((compTurn (.GeneratorExp elt [⟨t, iter, ifs, 0⟩] scope pos) 0 it .none C.env).onRaise (leaving C.env)) [] s
  rw [compTurn_gen, Sem.onRaise_eq_wrap]
  refine au (wpAny_standAt ?_)
  have hv : l₀[j]? = some l₀[j] := List.getElem?_eq_getElem lt
  obtain ⟨σ', t1, t2, t3, t4⟩ := hy C rfl hloc j _ hv
  refine au (up (wpAny_mono (W.item C σg [] [] MP.tt _ s j _ hA2 bb hv h) (fun r s₁ h₁ => ?_) iz))
  obtain ⟨x, rfl, h₁⟩ := h₁
  refine au (up (wpAny_mono h₁ (fun _ s₂ h₂ => ?_) iz))
  obtain ⟨Xf, Yf, hS, h₂⟩ := h₂
  refine au (up (wpAny_mono (t1 _ _ _ _ s₂ x hA2 h₂ fun F z => z.2) (fun _ s₃ h₃ => ?_) iz))
  refine au (up (wpAny_mono (t2 _ _ _ MP.tt s₃ hA2 (h₃.wk fun _ _ => trivial)) (fun ok s₄ h₄ => ?_) iz))
  obtain ⟨rfl, h₄⟩ := h₄
  cases q : b j with
  | false =>
   simp only [Bool.false_eq_true, if_false]
   refine dp rfl (ih (j + 1) Z87 lt (by rw [bK, q]; simpa using hi) s₄ ?_)
   exact ⟨Xf, Yf, hS, h₄.less t3 (List.Sublist.refl _) (List.Sublist.refl _)⟩
  | true =>
   simp only [if_true]
   have hyo : ∀ v, yieldOut C.env v = yieldValue v := fun v => by simp only [yieldOut, hco, Bool.false_eq_true, if_false]
   simp only [hyo]
   rw [Sem.bind_eq_wrap', Sem.bind_eq_wrap', Sem.wrap_wrap, Sem.wrap_wrap]
   refine gf (up (wpAny_mono (t4 q _ _ _ MP.tt s₄ hA2 h₄) (fun y s₅ h₅ => ?_) iz))
   refine oI (jS rfl fun p => hyield j lt q hi _ _ _ _ _ ?_ rfl)
   exact ⟨Xf, Yf, hS, (h₅.less t3 (List.Sublist.refl _) (List.Sublist.refl _)).wk (τ' := (wv j).at y) fun _ z => z.2⟩
theorem qd {elt t iter : Expr} {ifs : List Expr} {scope : Scope} {pos : Pos} {it : Value} {env : Env} {caps : List fD} {σg : Sto} {Sr : Src} {l₀ : List VP} {b : Nat → Bool} {wv : Nat → VP} (hA : AOk (k + 1) A) (W : aM G k t it Sr [] l₀)
  (hy : jy G k env σg t ifs elt l₀ b wv) (hco : env.scope.isCoroutine = false) (hloc : ∀ C : Cx, C.env = env → ∀ x ∈ av env.scope, C.st x) (hst : iK env caps σg) :
  ∀ (m i j : Nat), i + m = (pass b l₀.length).length → j ≤ l₀.length → (pass b j).length = i → ∀ X₁ Y₁, Sr.S j X₁ Y₁ → ∀ gs : GenState, gs.bare = true →
   (∀ (C : Cx) s Φ, C.env = env → FS G ⟨C, σg, X₁, Y₁⟩ MP.tt s →
    (∀ s, FSS G Sr j C σg [] [] MP.tt s → Sg G.M (dq (k + 1)) Φ (.compLoop (.GeneratorExp elt [⟨t, iter, ifs, 0⟩] scope pos) 0 it .none env) (G.M.den (.compLoop (.GeneratorExp elt [⟨t, iter, ifs, 0⟩] scope pos) 0 it .none env)) [] s) → Gz G.M (dq (k + 1)) gs s Φ) →
   GAt G (k + 1) env caps ((pass b l₀.length).map wv) (.ok .next) m ⟨σg, X₁, Y₁⟩ gs := by
 intro m
 induction m with
 | zero =>
  intro i j hi hj hpj X₁ Y₁ hS gs hb hrun
  refine ⟨hb, fun C s hC h => ?_⟩
  refine hrun C s _ hC h fun s' h' => kP hA W hy hco hC (hloc C hC) (i := i) (fun _ s'' h'' => ⟨rfl, h''⟩) (fun j' hj' hbj hpj' => ?_) _ j rfl hj hpj s' h'
  have := (List.getElem?_eq_some_iff.mp (mx hj' hbj hpj')).1
  omega
 | succ m ih =>
  intro i j hi hj hpj X₁ Y₁ hS gs hb hrun
  refine ⟨hb, fun C s hC h => ?_⟩
  have hl : ((pass b l₀.length).map wv).length - (m + 1) = i := by rw [List.length_map]; exact Z84
  rw [hl]
  refine hrun C s _ hC h fun s' h' => kP hA W hy hco hC (hloc C hC) (i := i) (fun e s'' h'' => by omega) (fun j' hj' hbj hpj' s'' v p lv K hF hK => ?_) _ j rfl hj hpj s' h'
  have hp := mx hj' hbj hpj'
  obtain ⟨X₂, Y₂, hS₂, hF⟩ := hF
  rw [List.append_nil, List.append_nil] at hF
  refine ⟨rfl, v, wv j', ⟨σg, X₂, Y₂⟩, rfl, by rw [List.getElem?_map, hp]; rfl, hst, hF, ih (i + 1) (j' + 1) Z85 hj' (by rw [bK, hbj]; simp [hpj']) X₂ Y₂ hS₂ _ rfl fun C' s₃ Φ hC' h₃ hSg => ?_⟩
  show Sg _ _ _ _ (K (.send .none)) [] s₃
  rw [hK]
  exact dp rfl (hSg s₃ ⟨X₂, Y₂, hS₂, by rw [List.append_nil, List.append_nil]; exact h₃⟩)
theorem oj {elt t iter : Expr} {ifs : List Expr} {scope : Scope} {pos : Pos} {it : Value} {env : Env} {caps : List fD} {σg : Sto} {Sr : Src} {l₀ : List VP} {b : Nat → Bool} {wv : Nat → VP} (hA : AOk (k + 1) A) (W : aM G k t it Sr [] l₀)
  (hy : jy G k env σg t ifs elt l₀ b wv) (hco : env.scope.isCoroutine = false) (hloc : ∀ C : Cx, C.env = env → ∀ x ∈ av env.scope, C.st x) (hst : iK env caps σg) {X₁ : List (Addr × OP)} {Y₁ : List (Nat × GP)} (hS : Sr.S 0 X₁ Y₁) :
  GAt G (k + 1) env caps ((pass b l₀.length).map wv) (.ok .next) (pass b l₀.length).length ⟨σg, X₁, Y₁⟩ (.fresh (.compStart (.GeneratorExp elt [⟨t, iter, ifs, 0⟩] scope pos) 0 it .none env)) := by
 refine qd (iter := iter) (scope := scope) (pos := pos) hA W hy hco hloc hst _ 0 0 (by omega) (Nat.zero_le _) rfl X₁ Y₁ hS _ rfl fun C s Φ hC h hSg => ?_
 show Sg _ _ _ _ ((compStart (.GeneratorExp elt [⟨t, iter, ifs, 0⟩] scope pos) 0 it .none env).onRaise (leaving env)) [] s
 unfold compStart
 rw [Sem.onRaise_eq_wrap]
 have hA2 : AOk k ((dq (k + 1)).over (.compStart (.GeneratorExp elt [⟨t, iter, ifs, 0⟩] scope pos) 0 it .none env) []) := jI hA (show 1 ≤ 2 by decide) (show 3 ≤ 10 by decide) rfl
 show Sg _ _ _ _ ((ask >>= _).wrap _ _ _ _) [] s
 refine au (wpAny_askSetting ?_)
 have h : FSS G Sr 0 C σg [] [] MP.tt s := ⟨X₁, Y₁, hS, by rw [List.append_nil, List.append_nil]; exact h⟩
 have fin := hSg s h
 split
 ·exact dp rfl fin
 ·refine au (wpAny_rule ?_)
  show Sg _ _ _ _ ((standAt iter.pos >>= _).wrap _ _ _ _) [] s
  refine au (wpAny_standAt (au (up (wpAny_mono (W.self C σg [] [] MP.tt _ s hA2 bb h) (fun r s' hr => ?_) iz))))
  obtain ⟨rfl, hr⟩ := hr
  exact dp rfl (hSg s' hr)
theorem Wd.tab (x : Wd G s) {p : Addr × Addr} (hp : p ∈ G.tabs) {h' : Heap} {tk : Nat} {ps more : Array Value} (hs : Heap.ExtBut p.2 s.heap h') (hz : s.heap.objs.size ≤ h'.objs.size) (ht : s.heap.TableAt p.1 p.2 ps) (hc : h'.IsCode p.1 p.2 (ps ++ more)) (ht' : h'.TableAt p.1 p.2 (ps ++ more)) :
  Wd G ⟨h', s.gens, s.drawn, tk, s.os⟩ := by
 obtain ⟨⟨ps₀, ht₀⟩, _⟩ := x.tabs p hp
 refine iV (G.ptab p hp) fun n1 n2 _ _ n5 => ?_
 refine ⟨fun b o e => hs b o (fun q => by subst q; rw [G.ktab p hp] at e; cases e) (x.K b o e), x.old.step_table ht₀ ht ht' hs n1, Nat.le_trans x.big hz, fun q hq => ?_, x.bns.extBut hs (Ne.symm n2), x.bare, x.os, hs _ _ (Ne.symm (G.hbm.2.2.2 p hp)) x.mod⟩
 obtain ⟨a, ps', b, c⟩ := x.tabs q hq
 by_cases e : p.2 = q.2
 ·have := (n5 q hq).2 e
  subst this
  exact ⟨a, _, ht', hc⟩
 ·have h1 : q.1 ≠ p.2 := Ne.symm (n5 q hq).1
  refine ⟨a, ps', b.extBut hs h1 (Ne.symm e), ?_⟩
  obtain ⟨o, vs, file, tf, flags, tg, inF, text, tt, op, e1, r1, r2, r3, r4, r5, r6, e2, r⟩ := c
  exact ⟨o, vs, file, tf, flags, tg, inF, text, tt, op, hs _ _ h1 e1, r1, r2, r3, r4, r5, r6, hs _ _ (Ne.symm e) e2, r⟩
theorem FS.code {env : Env} {c P : Addr} {pos : Pos} {q : Str} {scope : Scope} {Q : Value → Shared → Prop} (h : FS G I τ s) (hc : env.code = .ref c) (ht : (c, P) ∈ G.tabs) (hQ : ∀ v s', FS G I τ s' → Q v s') : wpAny G.M A (genexprCode env pos q scope) Q ff s := by
 obtain ⟨F, m, w⟩ := h
 obtain ⟨_, ps, t1, t2⟩ := w.wd.tabs _ ht
 cases hf : codeAmong pos ps.toList with
 | some cv => exact wpAny_genexprCode_hit hc t2 hf (hQ _ _ ⟨F, m, w⟩)
 | none =>
  refine dR (wpAny_genexprCodeX hc t2 t1 hf fun c' h' tk hx _ _ hcode _ htab _ hz => hQ _ _ ⟨F, m, ?_⟩)
  exact w.step (w.wd.tab ht hx hz t1 hcode htab) (fun a o e t => hx _ _ (fun z => t ⟨_, ht, z.symm⟩) e) hz (iz) (Nat.le_refl _) (Fz.le.refl _) (fun a o e => .inl e) w.tmp
theorem FS.uh {running : Addr} {Q : Addr → Shared → Prop} (h : FS G I τ s) (hQ : Q builtinsNs s) : wpAny G.M A (builtinsFor mainGlobals running) Q ff s := by
 obtain ⟨F, m, w⟩ := h
 unfold builtinsFor
 refine wpAny_bind (looks_nsIn w.wd.K G.hbn _ _ _ _ (iz) ?_)
 refine bx (G.hbm) fun nn0 b4 _ => ?_; refine bx (nn0) fun b1 b2 b3 => ?_
 show wpAny _ A (if (G.bm == builtinsNs) = true then _ else _) _ _ s
 rw [if_neg (by simpa using b4)]
 refine wpAny_bind (wpAny_load w.wd.mod ?_)
 rw [b3, b2, b1]
 exact wpAny_pure hQ
theorem FSB.perm (w : FSB G C σ X Y τ s F m) (hX : X'.Perm X) (hY : Y'.Perm Y) : FSB G C σ X' Y' τ s F m :=
 { w with
  cells := fun x c e => let ⟨a, b, d, f⟩ := w.cells x c e; ⟨a, b, fun hm => d ((hX.map _).mem_iff.mp hm), f⟩
  own := fun p hp => w.own p (hX.mem_iff.mp hp)
  nodup := (hX.map _).nodup_iff.mpr w.nodup
  gown := fun q hq => w.gown q (hY.mem_iff.mp hq)
  ynd := (hY.map _).nodup_iff.mpr w.ynd }
theorem FSB.rP (w : FSB G C σ X Y τ s F m) {g : Nat} {gs : GenState} {P : GP} (hg : s.gens[g]? = some gs) (hP : P.p F gs) (hp : C.ot g) (hn : g ∉ Y.map (·.1)) : FSB G C σ X ((g, P) :: Y) τ s F m :=
 { w with
  gown := fun q hq => by
   rcases List.mem_cons.mp hq with rfl | hq
   ·exact ⟨⟨gs, hg, hP⟩, hp⟩
   ·exact w.gown q hq
  ynd := by rw [List.map_cons]; exact List.nodup_cons.mpr ⟨hn, w.ynd⟩ }
structure qe (G : Gd) (C : Cx) (σ : Sto) (scope : Scope) (cl : List (Str × Addr)) (σg : Sto) : Prop where
 clos : closureFor scope C.env = pure cl
 kind : scope.kind = .function
 co : scope.isCoroutine = false
 names : (scope.names.map (·.1)).Nodup
 nocell : ∀ y ∈ scope.names, y.2 ≠ .cell
 dot : scope.names.lookup (".0" : Str) = some NameKind.local
 nd : (σg.map (·.1)).Nodup
 cells : ∀ p ∈ cl, C.env.cells.lookup p.1 = some p.2 ∧ cl.lookup p.1 = some p.2 ∧ (C.env.kindOf p.1 = some .cell ∨ C.env.kindOf p.1 = some .free) ∧ scope.names.lookup p.1 = some .free ∧ ∃ v, (p.1, some v) ∈ σg
 see : ∀ x v, (x, some v) ∈ σg → (x, some v) ∈ σ ∧ ∃ c, (x, c) ∈ cl
 code : ∃ c P, C.env.code = .ref c ∧ (c, P) ∈ G.tabs
inductive Ready (G : Gd) (k : Nat) (C : Cx) (σ : Sto) (X : List (Addr × OP)) (Y : List (Nat × GP)) (τ : MP) (l : List VP) (endr : Result) (y : Value) (s : Shared) : Prop where
 | mk (a : Addr) (g : Nat) (env : Env) (caps : List fD) (X₁ : List (Addr × OP)) (Y₁ : List (Nat × GP)) (e : y = .ref a) (ok : gc env caps) (hend : (End.ret endr).result = .returned .none) (hS : (cB G k env l endr caps a g).S 0 X₁ Y₁) (hm : (a, cu g) ∈ X₁) (F : Fz) (m : Str → Option Value) (w : FSB G C σ (X₁ ++ X) (Y₁ ++ Y) τ s F m)
  (hc : ∀ q ∈ caps, s.heap.get? q.c = some q.o ∧ F q.c = none ∧ G.H0.objs.size ≤ q.c ∧ q.c ∉ (X₁ ++ X).map (·.1) ∧ q.c ≠ C.L)
theorem ni (w : FSB G C σ X Y τ s F m) {σg : Sto} : ∀ (cl : List (Str × Addr)), (∀ p ∈ cl, C.env.cells.lookup p.1 = some p.2 ∧ (C.env.kindOf p.1 = some .cell ∨ C.env.kindOf p.1 = some .free) ∧ ∃ v, (p.1, some v) ∈ σg) → (∀ x v, (x, some v) ∈ σg → (x, some v) ∈ σ) → (σg.map (·.1)).Nodup →
  ∃ caps : List fD, (∀ q ∈ caps, (q.x, q.c) ∈ cl ∧ (q.x, some q.v) ∈ σg ∧ s.heap.get? q.c = some q.o ∧ q.o.data = .cell (some q.y) ∧ q.v.p F q.y) ∧ ∀ p ∈ cl, ∃ q ∈ caps, q.x = p.1 ∧ q.c = p.2
 | [], _, _, _ => ⟨[], (fun _ h => nomatch h), fun _ h => nomatch h⟩
 | p :: cl, hcl, hσ, hnd => by
  refine ag (ni w cl (fun p' hp => hcl p' (.tail _ hp)) hσ hnd) fun caps h1 h2 => ?_
  obtain ⟨e1, e2, v, e3⟩ := hcl p (.head _)
  refine ag (w.vars _ _ (hσ _ _ e3)) fun y va vy => ?_
  rcases va with ⟨kl, _⟩ | ⟨_, c, hc, o, ho, hd⟩
  ·rcases e2 with q | q <;> rw [q] at kl <;> cases kl
  ·rw [e1] at hc
   cases hc
   refine ⟨⟨p.1, p.2, o, y, v⟩ :: caps, fun q hq => ?_, fun p' hp => ?_⟩
   ·rcases List.mem_cons.mp hq with rfl | hq
    ·exact ⟨.head _, e3, ho, hd, vy⟩
    ·obtain ⟨a, b⟩ := h1 q hq
     exact ⟨.tail _ a, b⟩
   ·rcases List.mem_cons.mp hp with rfl | hp
    ·exact ⟨_, .head _, rfl, rfl⟩
    ·refine ag (h2 p' hp) fun q hq r => ?_
     exact ⟨q, .tail _ hq, r⟩
theorem ji {σg : Sto} (hnd : (σg.map (·.1)).Nodup) {x : Str} {u v : VP} (hu : (x, some u) ∈ σg) (hv : (x, some v) ∈ σg) : u = v := by
 have h1 := aO hnd hu
 have h2 := aO hnd hv
 rw [h1] at h2
 exact Option.some.inj (Option.some.inj h2)
inductive uA (G : Gd) (k : Nat) (C : Cx) (scope : Scope) (cl : List (Str × Addr)) (σg : Sto) (t : Expr) (ifs : List Expr) (elt : Expr) (l r : List VP) : Prop where
 | mk (b : Nat → Bool) (wv : Nat → VP) (e : r = (pass b l.length).map wv) (hy : ∀ L code, jy G k (genEnv scope cl L code builtinsNs C.env) σg t ifs elt l b wv)
theorem dB {elt t iter : Expr} {ifs : List Expr} {scope : Scope} {pos : Pos} {cl : List (Str × Addr)} {σg : Sto} {Sp : List VP → Prop} {lo : List VP → List VP} (hit : dk G (k + 1) k t C σ iter Sp) (hs : qe G C σ scope cl σg)
  (step : ∀ l₀, Sp l₀ → uA G k C scope cl σg t ifs elt l₀ (lo l₀))
  (hfs : ∀ x, genFold iter C.env x = pure x) (hA : AOk (k + 1) A) (h : FS G ⟨C, σ, X, Y⟩ τ s) :
  wpAny G.M A (eval (.GeneratorExp elt [⟨t, iter, ifs, 0⟩] scope pos) C.env) (fun y s' => ∃ l₀, Sp l₀ ∧ Ready G (k + 1) C σ X Y τ (lo l₀) (.ok .next) y s') ff s := by
 refine ez (hs.code) fun c P hc hP => ?_
 have hglob : C.env.globals = mainGlobals ∧ C.env.builtins = builtinsNs := let ⟨_, _, w⟩ := h; w.glob
 refine wpAny_GeneratorExp_make hs.co hs.clos hs.nocell hs.dot hs.kind hA.room (wpAny_mono (hit A X Y τ s hA h) (fun xv s₁ h₁ => ?_) iz) hfs
 refine wpAny_mono h₁ (fun it s₂ h₂ => ?_) iz
 obtain ⟨Sr, l₀, hl, W, h₂⟩ := h₂
 obtain ⟨X₁, Y₁, hS, h₂⟩ := h₂
 refine ⟨h₂.wd.lim, h₂.code hc hP fun code s₃ h₃ => ?_⟩
 rw [hglob.1]
 refine h₃.uh ?_
 intro h' hn' hs'
 obtain ⟨b, wv, hlo, hy⟩ := step l₀ hl
 obtain ⟨F, m, w⟩ := h₃
 have hsz : h'.objs.size = s₃.heap.objs.size + 1 := by rw [hs'.1, Heap.size_push]
 have keep' : ∀ d o, s₃.heap.get? d = some o → h'.get? d = some o := fun d o e => hs'.extBut d o (Nat.ne_of_lt (Heap.lt_size e)) (Heap.get?_push_of_some _ e)
 let gs : GenState := .fresh (.compStart (.GeneratorExp elt [⟨t, iter, ifs, 0⟩] scope pos) 0 it .none (genEnv scope cl s₃.heap.objs.size code builtinsNs C.env))
 let go : Obj := { cls := .type "generator", data := .fields #[.int s₃.gens.size 0, .str "<genexpr>" (s₃.toks + 1), .str (C.env.qual ++ "<genexpr>") (s₃.toks + 1 + 1)] }
 let s₅ : Shared := { s₃ with gens := s₃.gens.push gs, toks := s₃.toks + 1 + 1 + 1, heap := h'.push go }
 have keep : ∀ d o, s₃.heap.get? d = some o → s₅.heap.get? d = some o := fun d o e => Heap.get?_push_of_some _ (keep' d o e)
 have hz5 : s₅.heap.objs.size = s₃.heap.objs.size + 2 := by show (h'.push go).objs.size = _; rw [Heap.size_push, hsz]
 have bare5 : AllBare s₅.gens := by
  intro y hy
  rcases Array.mem_push.mp hy with hy | rfl
  ·exact w.wd.bare y hy
  ·rfl
 have w5 : FSB G C σ (X₁ ++ X) (Y₁ ++ Y) τ s₅ F m := w.step (s' := s₅) (w.wd.keeps keep (by show s₃.heap.objs.size ≤ s₅.heap.objs.size; omega) bare5) (fun d o e _ => keep d o e) (by omega)
  (fun i x e => by
   have lt : i < s₃.gens.size := by
    rcases Nat.lt_or_ge i s₃.gens.size with l | l
    ·exact l
    ·rw [Array.getElem?_eq_none l] at e; cases e
   show (s₃.gens.push gs)[i]? = some x
   rw [Array.getElem?_push_lt lt, ← Array.getElem?_eq_getElem lt]; exact e) (by show s₃.gens.size ≤ (s₃.gens.push gs).size; rw [Array.size_push]; exact Z22) (Fz.le.refl _) (fun d o e => .inl e) w.tmp
 have fresh : ∀ d, s₃.heap.objs.size ≤ d → C.ey d ∧ F d = none ∧ d ≠ C.L ∧ d ∉ (X₁ ++ X).map (·.1) ∧ ∀ x c, C.env.cells.lookup x = some c → c ≠ d := fun d hd => by
  refine ⟨.inl (Nat.le_trans w.kept.size hd), ?_, fun e => ?_, fun hm => ?_, fun x c e q => ?_⟩
  ·cases q : F d with
   | none => rfl
   | some o' => exact absurd (Heap.lt_size (w.fz _ _ q).1) (Nat.not_lt.mpr hd)
  ·subst e; exact absurd w.ns.lt (Nat.not_lt.mpr hd)
  ·refine ag (List.mem_map.mp hm) fun p hp e => ?_
   obtain ⟨⟨o', e', _⟩, _⟩ := w.own p hp
   rw [e] at e'
   exact absurd (Heap.lt_size e') (Nat.not_lt.mpr hd)
  ·subst q
   obtain ⟨⟨v, iv⟩, _⟩ := w.cells x c e
   exact absurd iv.lt (Nat.not_lt.mpr hd)
 let env : Env := genEnv scope cl s₃.heap.objs.size code builtinsNs C.env
 have kindf : ∀ x v, (x, some v) ∈ σg → env.kindOf x = some .free := fun x v e => by
  obtain ⟨_, c, hc⟩ := hs.see x v e
  exact (hs.cells _ hc).2.2.2.1
 refine ag (ni w5 cl (fun p hp => let ⟨a, _, b, _, d⟩ := hs.cells p hp; ⟨a, b, d⟩) (fun x v e => (hs.see x v e).1) hs.nd) fun caps cp1 cp2 => ?_
 have ok2 : iK env caps σg := {
  vars := fun x v e => by
   obtain ⟨_, c, hc⟩ := hs.see x v e
   refine cx (cp2 _ hc) fun q hq re0 re1 => ?_; subst re0; subst re1
   exact .inr ⟨.inr (kindf _ v e), q, hq, rfl, ji hs.nd (cp1 q hq).2.1 e, (hs.cells _ hc).2.1⟩
  names := hs.nd }
 have ok : gc env caps := {
  fun_ := hs.kind
  glob := ⟨hglob.1, rfl⟩
  cell := fun q hq => (cp1 q hq).2.2.2.1
  cells := fun x c e => by
   refine cx (cp2 _ (mem_of_lookup (show cl.lookup x = some c from e))) fun q hq _ r => ?_
   exact ⟨q, hq, r⟩
  inj := fun x y c e e' => w.cellsInj x y c (hs.cells _ (mem_of_lookup (show cl.lookup x = some c from e))).1 (hs.cells _ (mem_of_lookup (show cl.lookup y = some c from e'))).1 }
 have hloc : ∀ C' : Cx, C'.env = env → ∀ x ∈ av env.scope, C'.st x := fun C' e x hx => by
  refine ag (List.mem_map.mp hx) fun p hp re0 => ?_; subst re0
  have hp2 := List.mem_filter.mp hp
  have hl : scope.names.lookup p.1 = some p.2 := aO hs.names hp2.1
  rcases Bool.or_eq_true_iff.mp hp2.2 with q | q
  ·exact .inl (by rw [e]; show scope.names.lookup p.1 = _; rw [hl, eq_of_beq q])
  ·exact absurd (eq_of_beq q) (hs.nocell p hp2.1)
 have hgat := oj (iter := iter) (scope := scope) (pos := pos) (env := env) hA W (hy s₃.heap.objs.size code) hs.co hloc ok2 hS
 refine ag (fT (hn'.push go)) fun oL hoL hnsL => ?_
 refine iV (fresh s₃.heap.objs.size (Nat.le_refl _)) fun p1 p2 p3 p4 p5 => ?_
 have x1 := w5.jZ (a := s₃.heap.objs.size) (P := oNs env σg) hoL ⟨_, hnsL, fun x v e q => by rw [kindf x v e] at q; cases q⟩ p1 p2 p3 p4 p5
 refine iV (fresh h'.objs.size (by omega)) fun q1 q2 q3 q4 q5 => ?_
 have x2 := x1.jZ (a := h'.objs.size) (P := cu s₃.gens.size) (Heap.get?_push_size h' (o := go) rfl) ⟨_, _, rfl, rfl, rfl⟩ q1 q2 q3 (by
  rw [List.map_cons]
  intro hm
  rcases List.mem_cons.mp hm with e | hm
  ·rw [hsz] at e; exact Nat.succ_ne_self _ e
  ·exact q4 hm) q5
 have hgx : s₅.gens[s₃.gens.size]? = some gs := Array.getElem?_push_size ..
 have x3 := x2.rP (g := s₃.gens.size) (P := kX G (k + 1) env ⟨σg, X₁, Y₁⟩ ((pass b l₀.length).map wv) (.ok .next) caps (pass b l₀.length).length) hgx ⟨hgat, fun q hq => (cp1 q hq).2.2.2.2⟩ (.inl w.kept.gsize) (fun hm => by
  refine ag (List.mem_map.mp hm) fun q hq e => ?_
  obtain ⟨⟨g', e', _⟩, _⟩ := w.gown q hq
  rw [e, Array.getElem?_eq_none (Nat.le_refl _)] at e'
  cases e')
 refine ⟨l₀, hl, h'.objs.size, s₃.gens.size, env, caps, ((s₃.heap.objs.size, oNs env σg) :: X₁) ++ [(h'.objs.size, cu s₃.gens.size)], Y₁ ++ [(s₃.gens.size, kX G (k + 1) env ⟨σg, X₁, Y₁⟩ ((pass b l₀.length).map wv) (.ok .next) caps (pass b l₀.length).length)], rfl, ok, rfl, ⟨⟨σg, X₁, Y₁⟩, ok2, rfl, ?_⟩, by simp, F, m, ?_, fun q hq => ?_⟩
 ·rw [hlo, List.length_map, Nat.sub_zero]
 ·refine x3.perm ?_ ?_
  ·rw [List.append_assoc]
   show (((s₃.heap.objs.size, oNs env σg) :: X₁) ++ ((h'.objs.size, cu s₃.gens.size) :: X)).Perm ((h'.objs.size, cu s₃.gens.size) :: (s₃.heap.objs.size, oNs env σg) :: (X₁ ++ X))
   exact List.perm_middle
  ·rw [List.append_assoc]
   exact List.perm_middle
 ·refine iV (cp1 q hq) fun c1 c2 c3 c4 c5 => ?_
  refine iV (w.cells q.x q.c (hs.cells _ c1).1) fun nn0 r1 r2 r3 r4 => ?_; obtain ⟨v', iv⟩ := nn0
  refine ⟨c3, r1, r4, fun hm => ?_, r3⟩
  rw [List.append_assoc] at hm
  have hm2 : q.c ∈ (((s₃.heap.objs.size, oNs env σg) :: X₁) ++ ((h'.objs.size, cu s₃.gens.size) :: X)).map (·.1) := hm
  have hm3 := ((List.perm_middle (a := (h'.objs.size, cu s₃.gens.size)) (l₁ := (s₃.heap.objs.size, oNs env σg) :: X₁) (l₂ := X)).map (·.1)).mem_iff.mp hm2
  rw [List.map_cons] at hm3
  rcases List.mem_cons.mp hm3 with e | hm3
  ·have := iv.lt; rw [e, hsz] at this; exact Nat.not_lt.mpr (Nat.le_succ _) this
  ·rw [List.cons_append, List.map_cons] at hm3
   rcases List.mem_cons.mp hm3 with e | hm3
   ·have := iv.lt; rw [e] at this; exact Nat.lt_irrefl _ this
   ·exact r2 hm3
theorem pk {it : Value} {Sr : Src} {H : gM} {p : Pos} {x : Str} {l : List VP} (W : aM G k (.Name x p) it Sr H l) (hA : AOk (k + 1) A) (hC : C.holds G H) : ∀ (bs : List Bool) (i : Nat) (s : Shared),
  l.drop i = bs.map vBool → i + bs.length = l.length → FSS G Sr i C σ X Y τ s →
  codeAny G.M A (.builtin "all.loop" ⟨[it], []⟩) (fun r s' => r = .ok (.ret (.bool (bs.all id))) ∧ FS G ⟨C, σ, X, Y⟩ τ s') s := by
 intro bs
 induction bs with
 | nil =>
  intro i s hd hi h
  refine codeAny_builtin PySem.F.entry_all_loop ?_
  rw [Around.under_plainId PySem.F.plain_all_loop _]
  show wpAny _ A.in1 (pyNext it >>= _) _ _ s
  obtain rfl : i = l.length := by simpa using hi
  refine wpAny_bind (up (wpAny_mono (W.done C σ _ Y τ A.in1 s hA.in1 hC h) (fun r s' h' => ?_) iz))
  obtain ⟨rfl, h'⟩ := h'
  exact wpAny_bind (wpAny_rule (wpAny_pure ⟨rfl, h'⟩))
 | cons b bs ih =>
  intro i s hd hi h
  refine codeAny_builtin PySem.F.entry_all_loop ?_
  rw [Around.under_plainId PySem.F.plain_all_loop _]
  show wpAny _ A.in1 (pyNext it >>= _) _ _ s
  have hl : l[i]? = some (vBool b) := by
   have := congrArg List.head? hd
   rw [List.head?_drop] at this
   simpa using this
  refine wpAny_bind (up (wpAny_mono (W.item C σ _ Y τ A.in1 s i (vBool b) hA.in1 hC hl h) (fun r s' h' => ?_) iz))
  obtain ⟨y, rfl, h'⟩ := h'
  refine fZ (up (wpAny_mono (show wpAny G.M A.in1 (pure () : Sem Unit) _ ff s' from h') (fun _ s' h' => ?_) iz))
  obtain ⟨Xf, Yf, hS, h'⟩ := h'
  refine wpAny_bind (wpAny_holding (up (wpAny_mono (d6.bool (k := k) _ A.in1 _ s' y hA.in1 h' fun F z => z.2) (fun b' s₂ h₂ => ?_) iz)))
  obtain ⟨rfl, h₂⟩ := h₂
  refine wpAny_bind (wpAny_letGo  ?_)
  cases b' with
  | true =>
   simp only [if_true]
   refine wpAny_pure ⟨plainId_quiet PySem.F.plain_all_loop _, codeAny_mono (ih (i + 1) s₂ ?_ (by simp at hi ⊢; exact Z85) ⟨Xf, Yf, hS, h₂.wk fun F z => z.1⟩) fun r s₃ h₃ => by simpa using h₃⟩
   have := congrArg List.tail hd
   rw [List.tail_drop] at this
   simpa using this
  | false =>
   simp only [Bool.false_eq_true, if_false]
   refine wpAny_bind (wpAny_rule (wpAny_pure ⟨by simp, ?_⟩))
   exact (h₂.wk fun F z => z.1).less (Wk.refl _) (List.sublist_append_right _ _) (List.sublist_append_right _ _)
theorem pM {it : Value} {Sr : Src} {H : gM} {p : Pos} {x : Str} {l : List VP} (W : aM G k (.Name x p) it Sr H l) (hA : AOk (k + 1) A) (hC : C.holds G H) : ∀ (bs : List Bool) (i : Nat) (s : Shared),
  l.drop i = bs.map vBool → i + bs.length = l.length → FSS G Sr i C σ X Y τ s →
  codeAny G.M A (.builtin "any.loop" ⟨[it], []⟩) (fun r s' => r = .ok (.ret (.bool (bs.any id))) ∧ FS G ⟨C, σ, X, Y⟩ τ s') s := by
 intro bs
 induction bs with
 | nil =>
  intro i s hd hi h
  refine codeAny_builtin PySem.F.entry_any_loop ?_
  rw [Around.under_plainId PySem.F.plain_any_loop _]
  show wpAny _ A.in1 (pyNext it >>= _) _ _ s
  obtain rfl : i = l.length := by simpa using hi
  refine wpAny_bind (up (wpAny_mono (W.done C σ _ Y τ A.in1 s hA.in1 hC h) (fun r s' h' => ?_) iz))
  obtain ⟨rfl, h'⟩ := h'
  exact wpAny_bind (wpAny_rule (wpAny_pure ⟨rfl, h'⟩))
 | cons b bs ih =>
  intro i s hd hi h
  refine codeAny_builtin PySem.F.entry_any_loop ?_
  rw [Around.under_plainId PySem.F.plain_any_loop _]
  show wpAny _ A.in1 (pyNext it >>= _) _ _ s
  have hl : l[i]? = some (vBool b) := by
   have := congrArg List.head? hd
   rw [List.head?_drop] at this
   simpa using this
  refine wpAny_bind (up (wpAny_mono (W.item C σ _ Y τ A.in1 s i (vBool b) hA.in1 hC hl h) (fun r s' h' => ?_) iz))
  obtain ⟨y, rfl, h'⟩ := h'
  refine fZ (up (wpAny_mono (show wpAny G.M A.in1 (pure () : Sem Unit) _ ff s' from h') (fun _ s' h' => ?_) iz))
  obtain ⟨Xf, Yf, hS, h'⟩ := h'
  refine wpAny_bind (wpAny_holding (up (wpAny_mono (d6.bool (k := k) _ A.in1 _ s' y hA.in1 h' fun F z => z.2) (fun b' s₂ h₂ => ?_) iz)))
  obtain ⟨rfl, h₂⟩ := h₂
  refine wpAny_bind (wpAny_letGo  ?_)
  cases b' with
  | false =>
   simp only [Bool.false_eq_true, if_false]
   refine wpAny_pure ⟨plainId_quiet PySem.F.plain_any_loop _, codeAny_mono (ih (i + 1) s₂ ?_ (by simp at hi ⊢; exact Z85) ⟨Xf, Yf, hS, h₂.wk fun F z => z.1⟩) fun r s₃ h₃ => by simpa using h₃⟩
   have := congrArg List.tail hd
   rw [List.tail_drop] at this
   simpa using this
  | true =>
   simp only [if_true]
   refine wpAny_bind (wpAny_rule (wpAny_pure ⟨by simp, ?_⟩))
   exact (h₂.wk fun F z => z.1).less (Wk.refl _) (List.sublist_append_right _ _) (List.sublist_append_right _ _)
theorem Ready.here {l : List VP} {endr : Result} {y : Value} (h : Ready G k C σ X Y τ l endr y s) : ∃ (C₂ : Cx) (a : Addr) (Sr : Src) (H : gM), y = .ref a ∧ s.TypeIs (.ref a) "generator" ∧ C₂.holds G H ∧ (∀ t, aM G (k + 1) t (.ref a) Sr H l) ∧ FSS G Sr 0 C₂ σ X Y τ s ∧ ∀ σ' X' Y' τ' s', FS G ⟨C₂, σ', X', Y'⟩ τ' s' → FS G ⟨C, σ', X', Y'⟩ τ' s' := by
 obtain ⟨a, g, env, caps, X₁, Y₁, rfl, ok, hend, hS, hm, F, m, w, hc⟩ := h
 obtain ⟨⟨oa, hoa, hga⟩, _⟩ := w.own (a, cu g) (List.mem_append_left _ hm)
 refine ⟨C.re s F _ _, a, cB G k env l endr caps a g, caps.map fun q => (q.c, q.o), rfl, (cu.gA hoa hga).typeIs, fun p hp => ?_, fun t => aM.gen ok hend, ⟨X₁, Y₁, hS, F, m, w.rebase⟩, fun σ' X' Y' τ' s' ⟨F', m', w'⟩ => ⟨F', m', w.nt w'⟩⟩
 refine ag (List.mem_map.mp hp) fun q hq re0 => ?_; subst re0
 refine iV (hc q hq) fun c1 c2 c3 c4 c5 => ?_
 refine ⟨c1, fun hm => ?_, c3, c2⟩
 rcases List.mem_cons.mp hm with e | hm
 ·exact c5 e
 ·exact c4 hm
theorem o9 {l : List VP} {endr : Result} {y : Value} {bs : List Bool} (h : Ready G k C σ X Y τ l endr y s) (hb : l = bs.map vBool) (hA : AOk (k + 3) A) : wpAny G.M A (call (.builtin "all") [y]) (fun r s' => FS G ⟨C, σ, X, Y⟩ (τ.and ((vBool (bs.all id)).at r)) s') ff s := by
 refine pK (h.here) fun C₂ a Sr H re0 _ hH W h₂ back => ?_; subst re0
 refine call_function_tree PySem.F.kind_all PySem.F.plain_all PySem.F.entry_all (PySem.F.args_all1 _) ?_
 unfold Builtin.«all»
 refine wpAny_bind (m := oneArg "all" _) (wpAny_pure ?_)
 have W' := W (.Name "x" ⟨0, 0, 0, 0⟩)
 refine wpAny_bind (wpAny_mono (W'.self C₂ σ X Y τ A.in1 s (hA.in1.le (Nat.le_succ _)) hH h₂) (fun it s₂ h₃ => ?_) iz)
 obtain ⟨rfl, h₃⟩ := h₃
 refine wpAny_pure ⟨plainId_quiet PySem.F.plain_all_loop _, codeAny_mono (pk W' (hA.le (Nat.le_succ _)) hH bs 0 s₂ (by simpa using hb) (by simp [hb]) h₃) fun r s₃ h₄ => ?_⟩
 obtain ⟨rfl, h₄⟩ := h₄
 exact (back _ _ _ _ _ h₄).wk fun F z => ⟨z, rfl⟩
theorem callAny {l : List VP} {endr : Result} {y : Value} {bs : List Bool} (h : Ready G k C σ X Y τ l endr y s) (hb : l = bs.map vBool) (hA : AOk (k + 3) A) : wpAny G.M A (call (.builtin "any") [y]) (fun r s' => FS G ⟨C, σ, X, Y⟩ (τ.and ((vBool (bs.any id)).at r)) s') ff s := by
 refine pK (h.here) fun C₂ a Sr H re0 _ hH W h₂ back => ?_; subst re0
 refine call_function_tree PySem.F.kind_any PySem.F.plain_any PySem.F.entry_any (PySem.F.args_any1 _) ?_
 unfold Builtin.«any»
 refine wpAny_bind (m := oneArg "any" _) (wpAny_pure ?_)
 have W' := W (.Name "x" ⟨0, 0, 0, 0⟩)
 refine wpAny_bind (wpAny_mono (W'.self C₂ σ X Y τ A.in1 s (hA.in1.le (Nat.le_succ _)) hH h₂) (fun it s₂ h₃ => ?_) iz)
 obtain ⟨rfl, h₃⟩ := h₃
 refine wpAny_pure ⟨plainId_quiet PySem.F.plain_any_loop _, codeAny_mono (pM W' (hA.le (Nat.le_succ _)) hH bs 0 s₂ (by simpa using hb) (by simp [hb]) h₃) fun r s₃ h₄ => ?_⟩
 obtain ⟨rfl, h₄⟩ := h₄
 exact (back _ _ _ _ _ h₄).wk fun F z => ⟨z, rfl⟩
theorem kD : isSubtype (.type "generator") (.type "set") = pure false := by rw [isSubtype_type]; kernel_rfl
theorem gh : isSubtype (.type "generator") (.type "frozenset") = pure false := by rw [isSubtype_type]; kernel_rfl
theorem jY {l : List VP} {endr : Result} {y : Value} {ns : List Nat} {S : Nat → Bool} (h : Ready G k C σ X Y τ l endr y s) (hb : l = ns.map fun (n : Nat) => vInt n) (hn : ∀ n ∈ ns, n < 4) (hS : ∀ j, j < 4 → ns.contains j = S j) (hA : AOk (k + 4) A) :
  wpAny G.M A (call (.type "set") [y]) (fun r s' => FS G ⟨C, σ, X, Y⟩ (τ.and ((ar G S).at r)) s') ff s := by
 refine pK (h.here) fun C₂ a Sr H re0 hT hH W nn1 back => ?_; subst re0; obtain ⟨Xf, Yf, hSr, F, m, w⟩ := nn1
 refine ij ?_
 have w1 := w.newX (tk := s.toks) (P := bt G fun _ => false) (fun b o e => Heap.get?_push_of_some _ e) (by rw [Heap.size_push]; exact Z22) (Nat.le_refl _) (Heap.get?_push_size s.heap (o := aD G.w) rfl) bF
 have hT' : Shared.TypeIs ⟨s.heap.push (aD G.w), s.gens, s.drawn, s.toks, s.os⟩ (.ref a) "generator" := by
  refine ag (hT) fun o ho hc => ?_
  exact ⟨o, Heap.get?_push_of_some _ ho, hc⟩
 refine mf hT' kD gh (by decide) ?_
 have W' := W (.Name "x" ⟨0, 0, 0, 0⟩)
 have hA2 : AOk (k + 2) A.in1.in1 := hA.in1.in1
 have h1 : FSS G Sr 0 C₂ σ ((s.heap.objs.size, bt G fun _ => false) :: X) Y τ ⟨s.heap.push (aD G.w), s.gens, s.drawn, s.toks, s.os⟩ := ⟨Xf, Yf, hSr, FS.perm ⟨F, m, w1⟩ List.perm_middle⟩
 refine wpAny_mono (W'.self C₂ σ _ Y τ A.in1.in1 _ (hA2.le (Nat.le_succ _)) hH h1) (fun it s₂ h₂ => ?_) iz
 obtain ⟨rfl, h₂⟩ := h₂
 refine codeAny_mono (setLoop W' hA2 hH ns 0 (fun _ => false) s₂ (by simpa using hb) (by simp [hb]) hn h₂) fun r s₃ h₃ => ⟨h₃.1, ?_⟩
 obtain ⟨F₃, m₃, w₃⟩ := h₃.2
 refine gK (FSB.freeze (X₁ := []) w₃ w.kept.size) fun o F₄ ho ha hle w₄ => ?_
 refine back _ _ _ _ _ ⟨F₄, m₃, { w₄ with tmp := ⟨w₄.tmp, _, o, rfl, ha, isSet.congr (fun j hj => by simp only [lb, Bool.false_or]; exact hS j hj) ho⟩ }⟩
theorem EvT.du {x : Str} {f : Value} {ge : Expr} {v : VP} {q p : Pos} {j : Nat} {Sp : List VP → Prop} {lo : List VP → List VP} {endr : Result} (hx : EvT G k C σ (.Name x q) (vIs f)) (hkp : KpT G f)
  (gen : ∀ A X Y τ s, AOk k A → FS G ⟨C, σ, X, Y⟩ τ s → wpAny G.M A (eval ge C.env) (fun y s' => ∃ l₀, Sp l₀ ∧ Ready G j C σ X Y τ (lo l₀) endr y s') ff s)
  (hcall : ∀ A X Y τ s l₀ y, AOk k A → Sp l₀ → Ready G j C σ X Y τ (lo l₀) endr y s → wpAny G.M A (PySem.call f [y]) (fun r s' => FS G ⟨C, σ, X, Y⟩ (τ.and (v.at r)) s') ff s)
  (hplain : autoParam (((backTo p (starEach [ge] C.env)).any (·.1) || (backToKw p (keywordEach [] C.env)).any (·.1.isNone)) = false) tcR) (hst : ∃ x, backTo p (starEach [ge] C.env) = (false, x) :: [] := by exact ⟨_, rfl⟩) (hstar : autoParam (starEach [ge] C.env = (false, eval ge C.env) :: starEach [] C.env) tcR) :
  EvT G k C σ (.Call (.Name x q) [ge] [] p) v := by
 intro A X Y τ s hA h
 refine wpAny_Call_Name_kw (wpAny_mono (hx A X Y τ s hA h) (fun y s₁ h₁ => ?_) iz)
 obtain rfl : y = f := h₁.take fun F z => z.2
 refine callWith_of (P := G.K.In) hplain hkp ?_
 have key : wpAny G.M A (spliced (backTo p (starEach [ge] C.env))) (fun vs s₂ => ∃ y l₀, vs = [y] ∧ Sp l₀ ∧ Ready G j C σ X Y τ (lo l₀) endr y s₂) ff s₁ := by
  refine wpAny_items_cons (wpAny_mono (gen A X Y τ s₁ hA (h₁.wk fun F z => z.1)) (fun y s₂ h₂ => wpAny_items_nil ?_) iz) hstar
  refine ag (h₂) fun l₀ a b => ?_
  exact ⟨y, l₀, rfl, a, b⟩
 obtain ⟨x', e⟩ := hst
 rw [e] at key ⊢
 refine evalArgs_kw rfl (wpAny_mono key (fun vs s₂ h₂ => ?_) iz)
 refine n8 (h₂) fun y l₀ re0 hs hr => ?_; subst re0
 refine wpAny_evalAll_nil ⟨?_, hcall A X Y τ s₂ l₀ y hA hs hr⟩
 obtain ⟨_, _, _, _, _, _, _, _, _, _, _, F, m, w, _⟩ := hr
 exact w.wd.K
section
variable {prog : Program} {w : World} {Φ : End → Shared → Prop} {c : Code} {fs : List Frame} {env : Env} {K : Flow → Sem Fin} {H : Value → Sem Fin} {gd : Bool → Bool} {lv : List Value → List Value}
theorem fv {M : Model} {st : Stmt} {rest : List Stmt} (h : Sg M A Φ c ((exec st env).wrap (fun f => match f with | .next => (execs rest env).wrap K H gd lv | f => K f) H gd lv) fs s) : Sg M A Φ c ((execs (st :: rest) env).wrap K H gd lv) fs s := by
 rw [execs_cons_wrap]; exact h
theorem pE {body : List Stmt} (h : Sg (model prog w) A Φ (.func body env) ((execs body env).wrap (fun f => .pure (.done (.ret (match f with | .ret v => v | _ => .none)))) (fun e => (leaving env e).wrap (fun _ => .raise e) .raise id id) id id) fs s) :
  Sg (model prog w) A Φ (.func body env) ((model prog w).den (.func body env)) fs s := by
 show Sg _ A Φ _ (.point [] fun _ => ((execs body env).onRaise (leaving env)) >>= _) fs s
 refine n7 ?_
 rw [Sem.onRaise_eq_wrap, Sem.bind_eq_wrap', Sem.wrap_wrap]
 rw [Sem.wrap_congr (execs body env) _ _ (K' := fun f => .pure (.done (.ret (match f with | .ret v => v | _ => .none)))) (H' := fun e => (leaving env e).wrap (fun _ => .raise e) .raise id id) (fun f => by cases f <;> rfl)
  (fun e => by rw [Sem.bind_eq_wrap, Sem.wrap_wrap]; rfl)]
 exact h
theorem iY {M : Model} {e : Expr} {ypos pos : Pos} (hfs : splitAtGen fs = none) (hgd : gd false = false)
  (h : wpAny M (A.over c fs) (eval e env) (fun v s' => ∀ (K' : Resume → Sem Fin) (l : List Value) (p : Pos), K' (.send .none) = K .next → Φ (.susp v false l K' c p fs) s') ff s) (hco : env.scope.isCoroutine = false) (hi : interactive env = false) :
  Sg M A Φ c ((exec (.Expr (.Yield (some e) ypos) pos) env).wrap K H gd lv) fs s := by
 rw [exec_Expr env _ pos hi rfl]
 show Sg M A Φ c (.at pos fun _ => ((eval e env >>= fun v => (standAt ypos >>= fun _ => yieldOut env v)) >>= fun x => dropValue (.Yield (some e) ypos) pos x).wrap K H gd lv) fs s
 have hy : ∀ v, yieldOut env v = yieldValue v := fun v => by simp only [yieldOut, hco, Bool.false_eq_true, if_false]
 simp only [hy]
 refine oI ?_
 rw [Sem.bind_eq_wrap', Sem.bind_eq_wrap', Sem.wrap_wrap, Sem.wrap_wrap]
 refine gf (up (wpAny_mono h (fun v s' h' => ?_) fun _ _ x => x))
 refine oI ?_
 have e0 : gd false = false := hgd
 show Sg M A Φ c (.yield v (gd false) _ _) fs s'
 rw [e0]
 exact jS hfs fun p => h' _ _ p rfl
end
theorem eP {x : Str} {px py yp ep : Pos} {it : Value} {Sr : Src} {l : List VP} {fs : List Frame} (hA2 : AOk k ((dq (k + 1)).over (.forLoop (.Name x px) it [.Expr (.Yield (some (.Name x py)) yp) ep] [] C.env) fs)) (W : aM G k (.Name x px) it Sr [] l)
  (hx : C.st x) (hu : ∀ v, ∃ σ', Upd σ x v σ' ∧ (x, some v) ∈ σ' ∧ Wk σ' σ) (hco : C.env.scope.isCoroutine = false) (hi : interactive C.env = false) (hd : (x == ("__debug__" : Str)) = false) (hn : (x == ("__classdict__" : Str)) = false) (hfs : splitAtGen fs = none) {Φ : End → Shared → Prop} {i : Nat}
  (hend : i = l.length → ∀ s', FS G ⟨C, [], [], []⟩ MP.tt s' → Sg G.M (dq (k + 1)) Φ (.block [] C.env) (G.M.den (.block [] C.env)) fs s')
  (hyield : ∀ vp, l[i]? = some vp → ∀ (s' : Shared) (v : Value) (p : Pos) (lv : List Value) (K : Resume → Sem Fin), FSS G Sr (i + 1) C σ [] [] (vp.at v) s' →
   K (.send .none) = .pure (.again (.forLoop (.Name x px) it [.Expr (.Yield (some (.Name x py)) yp) ep] [] C.env)) → Φ (.susp v false lv K (.forLoop (.Name x px) it [.Expr (.Yield (some (.Name x py)) yp) ep] [] C.env) p fs) s')
  (hil : i ≤ l.length) (h : FSS G Sr i C σ [] [] MP.tt s) :
  Sg G.M (dq (k + 1)) Φ (.forLoop (.Name x px) it [.Expr (.Yield (some (.Name x py)) yp) ep] [] C.env) (G.M.den (.forLoop (.Name x px) it [.Expr (.Yield (some (.Name x py)) yp) ep] [] C.env)) fs s := by
 show Sg _ _ _ _ ((forTurn (.Name x px) it [.Expr (.Yield (some (.Name x py)) yp) ep] [] C.env).onRaise (fun x => do noteFrame x C.env; theTreesLotGoes x)) fs s
 unfold forTurn
 rw [Sem.onRaise_eq_wrap]
 refine au (wpAny_standAt ?_)
 rcases Nat.lt_or_ge i l.length with lt | ge
 ·have hv : l[i]? = some l[i] := List.getElem?_eq_getElem lt
  refine au (wpAny_onRaise (up (wpAny_mono (W.item C σ [] [] MP.tt _ s i _ hA2 bb hv h) (fun r s₁ h₁ => ?_) iz)))
  obtain ⟨y, rfl, h₁⟩ := h₁
  refine au (up (wpAny_mono h₁ (fun _ s₂ h₂ => ?_) iz))
  obtain ⟨Xf, Yf, hS, h₂⟩ := h₂
  refine cx (hu l[i]) fun σ' hu1 hu2 hu3 => ?_
  refine au (up (wpAny_mono (dN.name (p := px) hx hu1 _ _ _ _ s₂ y hA2 h₂ fun F z => z.2) (fun _ s₃ h₃ => ?_) iz))
  rw [Sem.bind_eq_wrap', Sem.wrap_wrap]
  refine fv (iY hfs rfl ?_ hco hi)
  refine wpAny_mono (EvT.var (k := k) (p := py) hu2 hd hn _ _ _ _ s₃ hA2 h₃) (fun v s₄ h₄ K' lv p hK => ?_) iz
  exact hyield _ hv s₄ v p lv K' ⟨Xf, Yf, hS, (h₄.less hu3 (List.Sublist.refl _) (List.Sublist.refl _)).wk fun F z => z.2⟩ (hK.trans rfl)
 ·obtain rfl : i = l.length := Nat.le_antisymm hil ge
  refine au (wpAny_onRaise (up (wpAny_mono (W.done C σ [] [] MP.tt _ s hA2 bb h) (fun r s₁ h₁ => ?_) iz)))
  obtain ⟨rfl, F, mm, w⟩ := h₁
  exact dp rfl (hend rfl s₁ ⟨F, mm, w.weak List.nodup_nil (fun _ _ h => nomatch h) (List.Sublist.refl _) (List.Sublist.refl _) fun _ z => z⟩)
theorem sx {x : Str} {px py yp ep fp : Pos} {iter : Expr} {env : Env} {v : VP} {l : List VP} (hA : AOk (k + 1) A) (hi : ∀ C : Cx, C.env = env → EvT G k C σ iter v) (hy : dd G k (.Name x px) v (· = l))
  (hx : ∀ C : Cx, C.env = env → C.st x) (hu : ∀ v, ∃ σ', Upd σ x v σ' ∧ (x, some v) ∈ σ' ∧ Wk σ' σ) (hst : iK env [] σ) (hco : env.scope.isCoroutine = false) (hin : interactive env = false) (hd : (x == ("__debug__" : Str)) = false) (hn : (x == ("__classdict__" : Str)) = false)
  (hfs : ∀ y, foldedSetIterable iter env y = pure y) :
  GAt G (k + 1) env [] l (.ok (.ret .none)) l.length ⟨σ, [], []⟩ (.fresh (.func [.For (.Name x px) iter [.Expr (.Yield (some (.Name x py)) yp) ep] [] fp] env)) := by
 have stage : ∀ (it : Value) (Sr : Src) (p₁ : Pos) (kont : Result → Sem Fin), aM G k (.Name x px) it Sr [] l → kont (.ok .next) = leafOf (.ok (.ret .none)) →
   ∀ (m i : Nat), i + m = l.length → ∀ X₁ Y₁, Sr.S i X₁ Y₁ → ∀ gs : GenState, gs.bare = true →
   (∀ (C : Cx) s Φ, C.env = env → FS G ⟨C, σ, X₁, Y₁⟩ MP.tt s →
    (FSS G Sr i C σ [] [] MP.tt s → Sg G.M (dq (k + 1)) Φ (.forLoop (.Name x px) it [.Expr (.Yield (some (.Name x py)) yp) ep] [] env) (G.M.den (.forLoop (.Name x px) it [.Expr (.Yield (some (.Name x py)) yp) ep] [] env)) [.ret kont none false [] (.func [.For (.Name x px) iter [.Expr (.Yield (some (.Name x py)) yp) ep] [] fp] env) p₁ []] s) → Gz G.M (dq (k + 1)) gs s Φ) →
   GAt G (k + 1) env [] l (.ok (.ret .none)) m ⟨σ, X₁, Y₁⟩ gs := by
  intro it Sr p₁ kont W hk m
  have hA2 : ∀ env, AOk k ((dq (k + 1)).over (.forLoop (.Name x px) it [.Expr (.Yield (some (.Name x py)) yp) ep] [] env) [.ret kont none false [] (.func [.For (.Name x px) iter [.Expr (.Yield (some (.Name x py)) yp) ep] [] fp] env) p₁ []]) := fun env => by
   refine bY (hA) fun _ _ a3 a4 => ?_
   refine ⟨rfl, rfl, ?_, ?_⟩
   ·show recursionLimit - 3 * (k + 1) - 11 + 1 + 0 + 3 * k + 10 < recursionLimit
    omega
   ·show cLine - 20 * (k + 1) - 101 + 3 + 0 + 20 * k + 100 < cLine
    omega
  have hend : ∀ (C : Cx) (Φ : End → Shared → Prop) s', C.env = env → Φ (.ret (.ok (.ret .none))) s' → Sg G.M (dq (k + 1)) Φ (.block [] C.env) (G.M.den (.block [] C.env)) [.ret kont none false [] (.func [.For (.Name x px) iter [.Expr (.Yield (some (.Name x py)) yp) ep] [] fp] env) p₁ []] s' := fun C Φ s' hC hΦ => by
   show Sg _ _ _ _ (leafOf (.ok .next)) _ s'
   refine mh (.ok .next) ?_
   rw [hk]
   exact lN _ hΦ
  induction m with
  | zero =>
   intro i hi' X₁ Y₁ hS gs hb hrun
   refine ⟨hb, fun C s hC h => ?_⟩
   refine hrun C s _ hC h fun h' => ?_
   have := eP (x := x) (px := px) (py := py) (yp := yp) (ep := ep) (fs := [.ret kont none false [] (.func [.For (.Name x px) iter [.Expr (.Yield (some (.Name x py)) yp) ep] [] fp] env) p₁ []]) (C := C) (σ := σ) (hC ▸ hA2 C.env) W (hx C hC) hu (by rw [hC]; exact hco) (by rw [hC]; exact hin) hd hn rfl (Φ := fun e s' => e = .ret (.ok (.ret .none)) ∧ FS G ⟨C, [], [], []⟩ MP.tt s') (i := i)
    (fun _ s' h' => hend C _ s' hC ⟨rfl, h'⟩) (fun vp hv => by have := (List.getElem?_eq_some_iff.mp hv).1; omega) (by omega) h'
   rw [hC] at this
   exact this
  | succ m ih =>
   intro i hi' X₁ Y₁ hS gs hb hrun
   refine ⟨hb, fun C s hC h => ?_⟩
   have hl : l.length - (m + 1) = i := Z84
   rw [hl]
   refine hrun C s _ hC h fun h' => ?_
   have := eP (x := x) (px := px) (py := py) (yp := yp) (ep := ep) (fs := [.ret kont none false [] (.func [.For (.Name x px) iter [.Expr (.Yield (some (.Name x py)) yp) ep] [] fp] env) p₁ []]) (C := C) (σ := σ) (hC ▸ hA2 C.env) W (hx C hC) hu (by rw [hC]; exact hco) (by rw [hC]; exact hin) hd hn rfl
    (Φ := fun e s' => e.quiet = true ∧ ∃ v vp st', e.result = .yielded v ∧ l[i]? = some vp ∧ iK env [] st'.σ ∧ FS G ⟨C, st'.σ, st'.X, st'.Y⟩ (vp.at v) s' ∧ GAt G (k + 1) env [] l (.ok (.ret .none)) m st' e.genState) (i := i)
    (fun e s' h' => by omega) (fun vp hv s' v p lv K hF hK => by
     obtain ⟨X₂, Y₂, hS₂, hF⟩ := hF
     rw [List.append_nil, List.append_nil] at hF
     refine ⟨rfl, v, vp, ⟨σ, X₂, Y₂⟩, rfl, hv, hst, hF, ih (i + 1) Z85 X₂ Y₂ hS₂ _ rfl fun C' s₃ Φ hC' h₃ hSg => ?_⟩
     rw [hC]
     show Sg _ _ _ _ (K (.send .none)) _ s₃
     rw [hK, hC]
     exact dp rfl (hSg ⟨X₂, Y₂, hS₂, by rw [List.append_nil, List.append_nil]; exact h₃⟩)) (by omega) h'
   rw [hC] at this
   exact this
 have hA3 : ∀ (it : Value) (p₁ : Pos) (kont : Result → Sem Fin) env, AOk k ((dq (k + 1)).over (.forLoop (.Name x px) it [.Expr (.Yield (some (.Name x py)) yp) ep] [] env) [.ret kont none false [] (.func [.For (.Name x px) iter [.Expr (.Yield (some (.Name x py)) yp) ep] [] fp] env) p₁ []]) := fun it p₁ kont env => by
  refine bY (hA) fun _ _ a3 a4 => ?_
  refine ⟨rfl, rfl, ?_, ?_⟩
  ·show recursionLimit - 3 * (k + 1) - 11 + 1 + 0 + 3 * k + 10 < recursionLimit
   omega
  ·show cLine - 20 * (k + 1) - 101 + 3 + 0 + 20 * k + 100 < cLine
   omega
 have start : ∀ (C : Cx) s Φ, C.env = env → FS G ⟨C, σ, [], []⟩ MP.tt s →
   (∀ (it : Value) (Sr : Src) (p₁ : Pos) (kont : Result → Sem Fin) s', aM G k (.Name x px) it Sr [] l → kont (.ok .next) = leafOf (.ok (.ret .none)) → FSS G Sr 0 C σ [] [] MP.tt s' →
    Sg G.M (dq (k + 1)) Φ (.forLoop (.Name x px) it [.Expr (.Yield (some (.Name x py)) yp) ep] [] C.env) (G.M.den (.forLoop (.Name x px) it [.Expr (.Yield (some (.Name x py)) yp) ep] [] C.env)) [.ret kont none false [] (.func [.For (.Name x px) iter [.Expr (.Yield (some (.Name x py)) yp) ep] [] fp] C.env) p₁ []] s') →
   Sg G.M (dq (k + 1)) Φ (.func [.For (.Name x px) iter [.Expr (.Yield (some (.Name x py)) yp) ep] [] fp] env) (G.M.den (.func [.For (.Name x px) iter [.Expr (.Yield (some (.Name x py)) yp) ep] [] fp] env)) [] s := by
  intro C s Φ hC h go
  subst hC
  have hA4 : AOk k ((dq (k + 1)).over (.func [.For (.Name x px) iter [.Expr (.Yield (some (.Name x py)) yp) ep] [] fp] C.env) []) := jI hA (show 1 ≤ 2 by decide) (show 3 ≤ 10 by decide) rfl
  refine pE (fv ?_)
  rw [exec_For]
  refine au (wpAny_standAt ?_)
  refine au (up (wpAny_mono (hi C rfl _ _ _ MP.tt s hA4 h) (fun y s₁ h₁ => ?_) iz))
  rw [hfs y]
  refine au (wpAny_pure ?_)
  refine au (wpAny_standAt ?_)
  refine au (wpAny_holding (up (wpAny_mono (hy C σ [] [] _ _ s₁ y hA4 h₁ fun F z => z.2) (fun it s₂ h₂ => ?_) iz)))
  obtain ⟨Sr, l', rfl, W, h₂⟩ := h₂
  exact oS fun p₁ => go it Sr p₁ _ s₂ W rfl (h₂.wk fun _ _ => trivial)
 cases hl : l.length with
 | zero =>
  refine ⟨rfl, fun C s hC h => ?_⟩
  refine start C s _ hC h fun it Sr p₁ kont s' W hk h' => ?_
  refine eP (hA3 it p₁ kont C.env |> fun z => hC ▸ z) W (hx C hC) hu (by rw [hC]; exact hco) (by rw [hC]; exact hin) hd hn rfl (i := 0) (fun _ s₃ h₃ => ?_) (fun vp hv => ?_) (Nat.zero_le _) h'
  ·show Sg _ _ _ _ (leafOf (.ok .next)) _ s₃
   refine mh (.ok .next) ?_
   rw [hk]
   exact lN _ ⟨rfl, h₃⟩
  ·have := (List.getElem?_eq_some_iff.mp hv).1; omega
 | succ m =>
  refine ⟨rfl, fun C s hC h => ?_⟩
  have e0 : l.length - (m + 1) = 0 := by omega
  rw [e0]
  refine start C s _ hC h fun it Sr p₁ kont s' W hk h' => ?_
  refine eP (hA3 it p₁ kont C.env |> fun z => hC ▸ z) W (hx C hC) hu (by rw [hC]; exact hco) (by rw [hC]; exact hin) hd hn rfl (i := 0) (fun e => ?_) (fun vp hv s₃ v p lv K hF hK => ?_) (Nat.zero_le _) h'
  ·omega
  ·obtain ⟨X₂, Y₂, hS₂, hF⟩ := hF
   rw [List.append_nil, List.append_nil] at hF
   refine ⟨rfl, v, vp, ⟨σ, X₂, Y₂⟩, rfl, hv, hst, hF, stage it Sr p₁ kont W hk m 1 (by omega) X₂ Y₂ hS₂ _ rfl fun C' s₄ Φ hC' h₄ hSg => ?_⟩
   show Sg _ _ _ _ (K (.send .none)) _ s₄
   rw [hK, hC]
   exact dp rfl (hSg ⟨X₂, Y₂, hS₂, by rw [List.append_nil, List.append_nil]; exact h₄⟩)
noncomputable def fw (G : Gd) (k : Nat) (v : VP) (l : List VP) : Prop := ∀ C σ X Y τ A s y, AOk (k + 2) A → FS G ⟨C, σ, X, Y⟩ τ s → (∀ F, τ.p F → v.p F y) →
 wpAny G.M A (pyIter y) (fun it s' => ∃ a g env, it = .ref a ∧ gc env [] ∧ FSS G (cB G (k + 1) env l (.ok (.ret .none)) [] a g) 0 C σ X Y τ s') ff s
theorem fw.yld {v : VP} {l : List VP} {t : Expr} (h : fw G k v l) : dd G (k + 2) t v (· = l) := fun C σ X Y τ A s y hA hs hv =>
 wpAny_mono (h C σ X Y τ A s y hA hs hv) (fun it s' ⟨a, g, env, e, ok, w⟩ => ⟨_, l, rfl, by subst e; exact aM.gen ok rfl, w⟩) iz
theorem fw.inst {D f : Addr} {fs : List (Str × VP)} {oc : Value} {od : Option Addr} {osl : Array (Option Value)} {fd : FuncData} {self x : Str} {px py yp ep fp : Pos} {iter : Expr} {l : List VP} {v : VP}
  (hs : findIn G.K (.ref D) "__iter__" = some (some (.ref f))) (hf : isFn G.K (.ref f) = true) (hK : G.K.lookup f = some ⟨oc, od, .func fd, osl⟩) (hcd : codeIn G.K fd.code fd.qualname = true)
  (hbody : fd.body = .stmts [.For (.Name x px) iter [.Expr (.Yield (some (.Name x py)) yp) ep] [] fp]) (hg : fd.globals = mainGlobals ∧ fd.builtins = builtinsNs) (hcl : fd.closure = []) (hk : fd.scope.kind = .function) (hco : fd.scope.isCoroutine = false) (hgen : fd.scope.isGenerator = true)
  (hbind : ∀ (y : Value) (s : Shared), Wd G s → BindsTo s fd ⟨[y], []⟩ [(self, y)]) (hnd : (fd.scope.names.map (·.1)).Nodup) (hnc : ∀ p ∈ fd.scope.names, p.2 ≠ .cell) (hself : fd.scope.names.lookup self = some .local) (hx : fd.scope.names.lookup x = some .local) (hne : self ≠ x)
  (hi : ∀ (C : Cx) n, C.env = callEnvC fd n f → EvT G k C [(self, some (aL D fs)), (x, none)] iter v) (hy : dd G k (.Name x px) v (· = l)) (hin : ∀ n, interactive (callEnvC fd n f) = false) (hfs : ∀ n y, foldedSetIterable iter (callEnvC fd n f) y = pure y)
  (hd : autoParam ((x == ("__debug__" : Str)) = false) tcD) (hn : autoParam ((x == ("__classdict__" : Str)) = false) tcD) : fw G k (aL D fs) l := by
 intro C σ X Y τ A s y hA h hv
 obtain ⟨F, m, w⟩ := h
 obtain ⟨a0, d0, es, n0, rfl, e1, e2, r⟩ := hv F w.tmp
 have hyv : (aL D fs).p F (.ref a0) := ⟨a0, d0, es, n0, rfl, e1, e2, r⟩
 refine ag (w.fr) fun h₀ Fr₀ X₀ => ?_
 refine owit_iter Fr₀ X₀ (w.ee e1 e2) hs hf ?_
 refine wpAny_call (codeAny_call_generator hA.room (w.wd.K _ _ hK) rfl hco hgen hbody (codeRec_of w.wd.K hcd) (hbind _ s w.wd _ _ _ _ ?_))
 rw [hcl]
 refine wpAny_newFunctionEnv_cells hk (fun p hp => ?_) fun env he s₂ x₂ => ?_
 ·rw [List.mem_singleton.mp hp]; exact .inl hself
 subst he
 refine ez (x₂.done) fun h' tk re0 keep => ?_; subst re0
 have hlim : Heap.NoLimit h' := w.wd.lim.keeps keep
 refine ⟨hlim, ?_⟩
 have e0 : newEnv fd.scope s.heap.objs.size fd.globals (cellsFrom (s.heap.objs.size + 1) fd.scope.names []) (fd.qualname ++ ".<locals>.") (some f) fd.code none fd.builtins = callEnvC fd s.heap.objs.size f := rfl
 have nocells : ∀ (names : List (Str × NameKind)) n, (∀ p ∈ names, p.2 ≠ .cell) → cellsFrom n names [] = [] := by
  intro names
  induction names with
  | nil => intro n _; rfl
  | cons p r ih =>
   intro n hp
   obtain ⟨p1, p2⟩ := p
   unfold cellsFrom
   have : (p2 == NameKind.cell) = false := beq_eq_false_iff_ne.mpr (hp (p1, p2) (.head _))
   simp only [this, Bool.false_eq_true, if_false]
   exact ih n fun p hp' => hp p (.tail _ hp')
 let env : Env := callEnvC fd s.heap.objs.size f
 have hcells : env.cells = [] := nocells _ _ hnc
 let σ0 : Sto := [(self, some (aL D fs)), (x, none)]
 have st0 : iK env [] σ0 := {
  vars := fun z u e => by
   rcases List.mem_cons.mp e with q | e
   ·cases q; exact .inl hself
   ·cases List.mem_singleton.mp e
  names := by simp [σ0, hne] }
 have gok : gc env [] := ⟨hk, hg, (fun _ h => nomatch h), (fun z c e => by rw [hcells] at e; cases e), fun z z' c e => by rw [hcells] at e; cases e⟩
 have gat := sx (k := k) (σ := σ0) (x := x) (px := px) (py := py) (yp := yp) (ep := ep) (fp := fp) (iter := iter) (env := env) (v := v) (l := l) (hA.le (Nat.le_succ _)) (fun C hC => hi C _ hC) hy (fun C hC => .inl (by rw [hC]; exact hx)) (fun u => ⟨[(self, some (aL D fs)), (x, some u)], .there .here, by simp, .keep (.drop .nil)⟩) st0 hco (hin _) hd hn (hfs _)
 have hns : h'.Ns s.heap.objs.size (bindL env.kindOf [(self, .ref a0)] fun _ => none) := x₂.toInCall.ns
 have hbl : bindL env.kindOf [(self, Value.ref a0)] (fun _ => none) self = some (.ref a0) := by
  have hks : env.kindOf self = some .local := hself
  simp [bindL, hks]
 have hlt : s.heap.objs.size < h'.objs.size := hns.lt
 let gs : GenState := .fresh (.func [.For (.Name x px) iter [.Expr (.Yield (some (.Name x py)) yp) ep] [] fp] env)
 let go : Obj := { cls := .type "generator", data := .fields #[.int s.gens.size 0, .str fd.name tk, .str fd.qualname (tk + 1)] }
 let s₅ : Shared := ⟨h'.push go, s.gens.push gs, s.drawn, tk + 1 + 1, s.os⟩
 have keep5 : ∀ d o, s.heap.get? d = some o → s₅.heap.get? d = some o := fun d o e => Heap.get?_push_of_some _ (keep d o e)
 have hz5 : s₅.heap.objs.size = h'.objs.size + 1 := by show (h'.push go).objs.size = _; rw [Heap.size_push]
 have bare5 : AllBare s₅.gens := by
  intro y hy
  rcases Array.mem_push.mp hy with hy | rfl
  ·exact w.wd.bare y hy
  ·rfl
 have w5 : FSB G C σ X Y τ s₅ F m := w.step (s' := s₅) (w.wd.keeps keep5 (by show s.heap.objs.size ≤ s₅.heap.objs.size; omega) bare5) (fun d o e _ => keep5 d o e) (by omega)
  (fun i x e => by
   have lt : i < s.gens.size := by
    rcases Nat.lt_or_ge i s.gens.size with l | l
    ·exact l
    ·rw [Array.getElem?_eq_none l] at e; cases e
   show (s.gens.push gs)[i]? = some x
   rw [Array.getElem?_push_lt lt, ← Array.getElem?_eq_getElem lt]; exact e) (by show s.gens.size ≤ (s.gens.push gs).size; rw [Array.size_push]; exact Z22) (Fz.le.refl _) (fun d o e => .inl e) w.tmp
 have fresh : ∀ d, s.heap.objs.size ≤ d → C.ey d ∧ F d = none ∧ d ≠ C.L ∧ d ∉ X.map (·.1) ∧ ∀ x c, C.env.cells.lookup x = some c → c ≠ d := fun d hd => by
  refine ⟨.inl (Nat.le_trans w.kept.size hd), ?_, fun e => ?_, fun hm => ?_, fun x c e q => ?_⟩
  ·cases q : F d with
   | none => rfl
   | some o' => exact absurd (Heap.lt_size (w.fz _ _ q).1) (Nat.not_lt.mpr hd)
  ·subst e; exact absurd w.ns.lt (Nat.not_lt.mpr hd)
  ·refine ag (List.mem_map.mp hm) fun p hp e => ?_
   obtain ⟨⟨o', e', _⟩, _⟩ := w.own p hp
   rw [e] at e'
   exact absurd (Heap.lt_size e') (Nat.not_lt.mpr hd)
  ·subst q
   obtain ⟨⟨v, iv⟩, _⟩ := w.cells x c e
   exact absurd iv.lt (Nat.not_lt.mpr hd)
 refine ag (fT (hns.push go)) fun oL hoL hnsL => ?_
 refine iV (fresh s.heap.objs.size (Nat.le_refl _)) fun p1 p2 p3 p4 p5 => ?_
 have x1 := w5.jZ (a := s.heap.objs.size) (P := oNs env σ0) hoL ⟨_, hnsL, fun z u e q => by
  rcases List.mem_cons.mp e with q2 | e
  ·cases q2; exact ⟨_, hbl, hyv⟩
  ·cases List.mem_singleton.mp e⟩ p1 p2 p3 p4 p5
 refine iV (fresh h'.objs.size (Nat.le_of_lt hlt)) fun q1 q2 q3 q4 q5 => ?_
 have x2 := x1.jZ (a := h'.objs.size) (P := cu s.gens.size) (Heap.get?_push_size h' (o := go) rfl) ⟨_, _, rfl, rfl, rfl⟩ q1 q2 q3 (by
  rw [List.map_cons]
  intro hm
  rcases List.mem_cons.mp hm with e | hm
  ·exact absurd hlt (by rw [e]; exact Nat.lt_irrefl _)
  ·exact q4 hm) q5
 have hgx : s₅.gens[s.gens.size]? = some gs := Array.getElem?_push_size ..
 have x3 := x2.rP (g := s.gens.size) (P := kX G (k + 1) env ⟨σ0, [], []⟩ l (.ok (.ret .none)) [] l.length) hgx ⟨gat, (fun _ h => nomatch h)⟩ (.inl w.kept.gsize) (fun hm => by
  refine ag (List.mem_map.mp hm) fun q hq e => ?_
  obtain ⟨⟨g', e', _⟩, _⟩ := w.gown q hq
  rw [e, Array.getElem?_eq_none (Nat.le_refl _)] at e'
  cases e')
 have hT : Shared.TypeIs s₅ (.ref h'.objs.size) "generator" := ⟨go, Heap.get?_push_size h' (o := go) rfl, rfl⟩
 show OwitIt G.M A _ ff (.ref h'.objs.size) s₅
 unfold OwitIt
 refine wpAny_specialOf hT slot_gen_next.lookup ?_
 refine ⟨h'.objs.size, s.gens.size, env, rfl, gok, bj.mpr ⟨⟨σ0, [], []⟩, st0, F, m, ?_⟩⟩
 rw [Nat.sub_zero]
 exact x3.perm (List.Perm.swap _ _ _) (List.Perm.refl _)
section
variable {prog : Program} {w : World} {E : Value → Shared → Prop}
theorem nP {x : Value} {Q : Value → Shared → Prop} (h : wpAny (model prog w) A.in1 (pyIter x) (fun it s' => Q (.ref s'.heap.objs.size) { s' with heap := s'.heap.push { cls := .type "enumerate", data := .fields #[.none, .bool false, it, rawInt 0, .none, .none] } }) ff s) :
  wpAny (model prog w) A.in1 (Builtin.«enumerate.__new__» ⟨[.type "enumerate", x], []⟩) (fun fin s' => ∃ v, fin = .done (.ret v) ∧ Q v s') ff s := by
 have hsub := sub_enumerate
 generalize hPI : (pyIter : Value → Sem Value) = PI at h
 unfold Builtin.«enumerate.__new__»
 rw [hPI]
 wp_walk
 refine wpAny_stack_any fun st => wpAny_pure ?_
 have fin : ∀ (f : Value → Sem Fin), (∀ it s', Q (.ref s'.heap.objs.size) { s' with heap := s'.heap.push { cls := .type "enumerate", data := .fields #[.none, .bool false, it, rawInt 0, .none, .none] } } → wpAny (model prog w) A.in1 (f it) (fun fin s' => ∃ v, fin = .done (.ret v) ∧ Q v s') ff s') → wpAny (model prog w) A.in1 (PI x >>= f) (fun fin s' => ∃ v, fin = .done (.ret v) ∧ Q v s') ff s :=
  fun f hf => wpAny_bind (wpAny_mono h (fun it s' h' => hf it s' h') iz)
 split
 ·rename_i c _ _ _ _ _
  cases (c == Value.type "enumerate")
  ·wp_walk
   refine wpAny_mono h (fun it s' h' => ?_) iz
   obtain ⟨hp, g, d, tk, os⟩ := s'
   wp_walk
   exact ⟨_, rfl, h'⟩
  ·wp_walk
   refine wpAny_mono h (fun it s' h' => ?_) iz
   obtain ⟨hp, g, d, tk, os⟩ := s'
   wp_walk
   exact ⟨_, rfl, h'⟩
 ·wp_walk
  refine wpAny_mono h (fun it s' h' => ?_) iz
  obtain ⟨hp, g, d, tk, os⟩ := s'
  wp_walk
  exact ⟨_, rfl, h'⟩
set_option maxRecDepth 100000 in
set_option maxHeartbeats 1000000 in
theorem og {x : Value} {Q : Value → Shared → Prop} (h : wpAny (model prog w) A.in1.in1 (pyIter x) (fun it s' => ∀ h', h'.get? s'.heap.objs.size = some { cls := .type "enumerate", data := .fields #[.none, .bool false, it, rawInt 0, .none, .none] } → h' = s'.heap.push { cls := .type "enumerate", data := .fields #[.none, .bool false, it, rawInt 0, .none, .none] } → Q (.ref s'.heap.objs.size) { s' with heap := h' }) ff s) :
  wpAny (model prog w) A (call (.type "enumerate") [x]) Q ff s := by
 have ft := PySem.F.called_enumerate
 have hct := PySem.F.typeCall_enumerate_1 x
 have hcn := PySem.F.newCall_enumerate_1 x
 have hne : (some "enumerate.__new__" != some "object.__new__") = true := by decide
 refine kT (ft.mro) fun c tl hmro => ?_
 have hmade := ft.made
 have hsub := ft.sub
 refine wpAny_call (codeAny_of_tree ?_)
 show wpAny _ _ (PySem.callAny (.type "enumerate") _) _ _ _
 refine wpAny_pure ⟨Code.quiet_builtin _ (by decide +kernel), codeAny_builtin PySem.F.entry_type_call ?_⟩
 rw [Around.under_plain (weight_type_call_type "enumerate" [x] []) (units_type_call_type "enumerate" [x] [])]
 have h1 := ft.notType
 have h2 := ft.canCreate
 repeat (any_goals (first | assumption | wp_step))
 have key := nP (A := A.in1) (Q := fun v s' => s'.TypeIs v "enumerate" ∧ Q v s') (wpAny_mono h (fun it s' h' => ⟨⟨_, Heap.get?_push_size _ rfl, rfl⟩, h' _ (Heap.get?_push_size _ rfl) rfl⟩) iz)
 refine codeAny_mono (R := wants (fun v s' => s'.TypeIs v "enumerate" ∧ Q v s') ff) (codeAny_call_builtin ft.plain PySem.F.entry_enumerate_new (wpAny_of_eq hcn ?_)) fun r s₁ hr => ?_
 ·refine wpAny_mono key (fun fin s' hf => ?_) fun _ _ z => z.elim
  obtain ⟨v, rfl, hf⟩ := hf
  exact hf
 cases r with
 | error e => exact hr.elim
 | ok fl =>
  cases fl with
  | ret obj =>
   obtain ⟨hT, hq⟩ := hr
   have hli := ft.init.lookup
   have hbi := ft.init.bind obj
   repeat (any_goals (first | assumption | wp_step))
   refine codeAny_mono (codeAny_call_builtin ft.init.plain PySem.F.entry_object_init (ft.init.check _ _ _ _ _ _ _ _ hT (PySem.F.args_object_init_2 obj _) (object_init_meets ft.init.lookup ft.made hne prog w A.in1 (wants (fun r s₂ => r = .none ∧ Q obj s₂) ff) s₁ ⟨hT, rfl, hq⟩))) fun r₂ s₂ hr₂ => ?_
   cases r₂ with
   | error e => exact hr₂.elim
   | ok fl₂ =>
    cases fl₂ with
    | ret r =>
     obtain ⟨rfl, hq⟩ := hr₂
     repeat (any_goals (first | assumption | wp_step))
    | _ => exact hr₂.elim
  | _ => exact hr.elim
end
section
variable {prog : Program} {w : World} {E : Value → Shared → Prop}
theorem oE {e it : Addr} {i : Int} {x old : Value} {Q : Fin → Shared → Prop} (he : IsEnum s.heap e it i old)
  (hQ : ∀ h', IsEnumOut h' e it (i + 1) x s.heap.objs.size → h'.get? s.heap.objs.size = some { cls := .type "tuple", data := .seq #[.int i s.toks, x] } → h'.objs.size = s.heap.objs.size + 1 →
   (∀ b o, b ≠ e → s.heap.get? b = some o → h'.get? b = some o) → Q (.done (.ret (.ref s.heap.objs.size))) { s with heap := h', toks := s.toks + 1 }) :
  wpAny (model prog w) A (do
   let .int i _ ← field (.ref e) 3 | unsupported "internal:enumerate.__next__"
   let given ← field (.ref e) 4
   let index ← if given == .none then mkInt i else pure given
   setField (.ref e) 3 (rawInt (i + 1)); setField (.ref e) 4 .none
   let result ← newTuple [index, x]
   if ← Builtin.SmallTypes.ownedTupleIsFree (.ref e) then
    rule "enumerate.__next__.owned-tuple-again"
    let old ← field (.ref e) 5
    setField (.ref e) 5 x
    Builtin.SmallTypes.ownedTupleHandOut (.ref e) result
    letGo [old] [result]
   ret result) Q E s := by
 obtain ⟨hp, g, d, tk, os⟩ := s
 refine wpAny_bind (wpAny_field he rfl (x := rawInt i) rfl ?_)
 show wpAny _ _ (field (.ref e) 4 >>= _) _ _ ⟨hp, g, d, tk, os⟩
 refine wpAny_bind (wpAny_field he rfl (x := .none) rfl ?_)
 show wpAny _ _ (mkInt i >>= _) _ _ ⟨hp, g, d, tk, os⟩
 refine wpAny_bind (wpAny_mkInt ?_)
 show wpAny _ _ (setField (.ref e) 3 (rawInt (i + 1)) >>= _) _ _ ⟨hp, g, d, tk + 1, os⟩
 refine wpAny_bind (wpAny_setField_rec he (by simp) fun h₂ he₂ hs₂ => ?_)
 replace hs₂ : Heap.SameBut e hp h₂ := hs₂
 replace he₂ : IsEnum h₂ e it (i + 1) old := he₂
 show wpAny _ _ (setField (.ref e) 4 .none >>= _) _ _ ⟨h₂, g, d, tk + 1, os⟩
 refine wpAny_bind (wpAny_setField_rec he₂ (by simp) fun h₃ he₃ hs₃ => ?_)
 replace hs₃ : Heap.SameBut e h₂ h₃ := hs₃
 replace he₃ : IsEnum h₃ e it (i + 1) old := he₃
 show wpAny _ _ (newTuple [.int i tk, x] >>= _) _ _ ⟨h₃, g, d, tk + 1, os⟩
 refine wpAny_bind (wpAny_newTuple ?_)
 have he₄ : IsEnum (h₃.push { cls := .type "tuple", data := .seq #[.int i tk, x] }) e it (i + 1) old := Heap.get?_push_of_some _ he₃
 generalize hh₄ : h₃.push { cls := .type "tuple", data := .seq #[.int i tk, x] } = h₄ at he₄
 have hsz : h₃.objs.size = hp.objs.size := by rw [hs₃.1, hs₂.1]
 have hel : e < hp.objs.size := Heap.lt_size he
 have ht₄ : h₄.get? hp.objs.size = some { cls := .type "tuple", data := .seq #[.int i tk, x] } := by rw [← hh₄, ← hsz]; exact Heap.get?_push_size _ rfl
 have hz₄ : h₄.objs.size = hp.objs.size + 1 := by rw [← hh₄, Heap.size_push, hsz]
 have hk₄ : ∀ b o, b ≠ e → hp.get? b = some o → h₄.get? b = some o := fun b o hbe hb => by
  rw [← hh₄]; exact Heap.get?_push_of_some _ (hs₃.extBut b o hbe (hs₂.extBut b o hbe hb))
 show wpAny _ _ (Builtin.SmallTypes.ownedTupleIsFree (.ref e) >>= _) _ _ ⟨h₄, g, d, tk + 1, os⟩
 rw [hsz]
 refine wpAny_bind ?_
 unfold Builtin.SmallTypes.ownedTupleIsFree
 refine wpAny_bind (wpAny_field he₄ rfl (x := .none) rfl (wpAny_pure ?_))
 simp only [if_true]
 refine wpAny_bind (wpAny_rule ?_)
 refine wpAny_bind (wpAny_field he₄ rfl (x := old) rfl ?_)
 refine wpAny_bind (wpAny_setField_rec he₄ (by simp) fun h₅ he₅ hs₅ => ?_)
 replace hs₅ : Heap.SameBut e h₄ h₅ := hs₅
 replace he₅ : IsEnum h₅ e it (i + 1) x := he₅
 show wpAny _ _ (Builtin.SmallTypes.ownedTupleHandOut (.ref e) (.ref hp.objs.size) >>= _) _ _ ⟨h₅, g, d, tk + 1, os⟩
 refine wpAny_bind ?_
 unfold Builtin.SmallTypes.ownedTupleHandOut
 refine wpAny_bind (wpAny_setField_rec he₅ (by simp) fun h₆ he₆ hs₆ => ?_)
 replace hs₆ : Heap.SameBut e h₅ h₆ := hs₆
 replace he₆ : IsEnumOut h₆ e it (i + 1) x hp.objs.size := he₆
 refine wpAny_setField_rec he₆ (by simp) fun h₇ he₇ hs₇ => ?_
 replace hs₇ : Heap.SameBut e h₆ h₇ := hs₇
 replace he₇ : IsEnumOut h₇ e it (i + 1) x hp.objs.size := he₇
 refine wpAny_bind (wpAny_letGo (wpAny_pure (hQ h₇ he₇ ?_ ?_ ?_)))
 ·exact hs₇.extBut _ _ (Nat.ne_of_gt hel) (hs₆.extBut _ _ (Nat.ne_of_gt hel) (hs₅.extBut _ _ (Nat.ne_of_gt hel) ht₄))
 ·rw [hs₇.1, hs₆.1, hs₅.1, hz₄]
 ·exact fun b o hbe hb => hs₇.extBut b o hbe (hs₆.extBut b o hbe (hs₅.extBut b o hbe (hk₄ b o hbe hb)))
end
noncomputable def oEn (it : Addr) (i : Nat) : OP := ⟨fun _ o => ∃ old, o = { cls := .type "enumerate", dict := none, data := .fields #[.none, .bool false, .ref it, rawInt i, .none, old], slots := #[] }, fun _ x => x⟩
noncomputable def enumSrc (Sr : Src) (e it : Addr) : Src := ⟨fun i X₁ Y₁ => ∃ X₂, Sr.S i X₂ Y₁ ∧ X₁ = (e, oEn it i) :: X₂⟩
noncomputable def bW (l : List VP) : List VP := l.zipIdx.map fun p => aQ [vInt p.2, p.1]
theorem hJ {l : List VP} {i : Nat} {v : VP} (h : (bW l)[i]? = some v) : ∃ u, l[i]? = some u ∧ v = aQ [vInt i, u] := by
 unfold bW at h
 rw [List.getElem?_map, List.getElem?_zipIdx] at h
 cases q : l[i]? with
 | none => rw [q] at h; cases h
 | some u =>
  rw [q] at h
  exact ⟨u, rfl, by simpa using h.symm⟩
theorem cy {Sr : Src} {e it : Addr} {i : Nat} : FSS G (enumSrc Sr e it) i C σ X Y τ s ↔ FSS G Sr i C σ ((e, oEn it i) :: X) Y τ s := by
 constructor
 ·rintro ⟨_, Y₁, ⟨X₂, h1, rfl⟩, h⟩
  exact ⟨X₂, Y₁, h1, h.perm List.perm_middle⟩
 ·rintro ⟨X₂, Y₁, h1, h⟩
  exact ⟨_, Y₁, ⟨X₂, h1, rfl⟩, h.perm List.perm_middle.symm⟩
theorem FSB.qr {e n : Addr} {P P' : OP} {o' : Obj} {ys : List Value} (w : FSB G C σ (X₁ ++ (e, P) :: X) Y τ s F m) {h' : Heap} {tk : Nat} (hs : Heap.ExtBut e s.heap h') (hz : s.heap.objs.size ≤ h'.objs.size) (hn : h'.get? e = some o') (hP : P'.p F o')
  (en : n = s.heap.objs.size) (ht : h'.get? n = some (eK ys)) : ∃ F', F.le F' ∧ F' n = some (eK ys) ∧ FSB G C σ (X₁ ++ (e, P') :: X) Y τ ⟨h', s.gens, s.drawn, tk, s.os⟩ F' m := by
 have w0 := w.perm (X' := (e, P) :: (X₁ ++ X)) List.perm_middle.symm (List.Perm.refl _)
 have w1 := w0.chg (tk := tk) hs hz hn hP
 have fr : F n = none ∧ n ≠ C.L ∧ n ∉ ((e, P') :: (X₁ ++ X)).map (·.1) ∧ ∀ x c, C.env.cells.lookup x = some c → c ≠ n := by
  subst en
  refine ⟨?_, fun q => ?_, fun hm => ?_, fun x c q r => ?_⟩
  ·cases q : F s.heap.objs.size with
   | none => rfl
   | some o => exact absurd (Heap.lt_size (w.fz _ o q).1) (Nat.lt_irrefl _)
  ·have := w.ns.lt; rw [← q] at this; exact Nat.lt_irrefl _ this
  ·have hm2 : s.heap.objs.size ∈ ((e, P) :: (X₁ ++ X)).map (·.1) := hm
   refine ag (List.mem_map.mp hm2) fun p hp q => ?_
   obtain ⟨⟨o, ho, _⟩, _⟩ := w0.own p hp
   rw [q] at ho
   exact Nat.lt_irrefl _ (Heap.lt_size ho)
  ·subst r
   obtain ⟨⟨v, iv⟩, _⟩ := w.cells x _ q
   exact Nat.lt_irrefl _ iv.lt
 have hp : C.s₀.heap.objs.size ≤ n := by rw [en]; exact w.kept.size
 have w2 := w1.jZ (P := ⟨fun _ o => o = eK ys, fun _ x => x⟩) ht rfl (.inl hp) fr.1 fr.2.1 fr.2.2.1 fr.2.2.2
 refine gK (FSB.freeze (X₁ := []) w2 hp) fun o F' ho hF le w3 => ?_
 have ho : o = eK ys := ho
 subst ho
 exact ⟨F', le, hF, w3.perm (X' := X₁ ++ (e, P') :: X) List.perm_middle (List.Perm.refl _)⟩
theorem aM.enum {env : Env} {l : List VP} {endr : Result} {a e : Addr} {g : Nat} {elts : List Expr} {ctx : Nat} {pos : Pos} (ok : gc env []) (hend : (End.ret endr).result = .returned .none) :
  aM G (k + 2) (.Tuple elts ctx pos) (.ref e) (enumSrc (cB G k env l endr [] a g) e a) [] (bW l) where
 item := fun C σ X Y τ A s i v hA hH hl h => by
  refine ag (hJ hl) fun u hu re0 => ?_; subst re0
  have h := cy.mp h
  obtain ⟨Xf, Yf, hS, F, m, w⟩ := h
  obtain ⟨⟨o, ho, old, rfl⟩, _⟩ := w.own (e, oEn a i) (by simp)
  have hT : s.TypeIs (.ref e) "enumerate" := ⟨_, ho, rfl⟩
  unfold pyNext
  refine wpAny_bind (wpAny_attempt (wpAny_callSpecial?_slot (name := Str.ofString "__next__") hT PySem.F.slot_enumerate_next (wpAny_call_entry PySem.F.slot_enumerate_next hT PySem.F.entry_enumerate_next ?_ (PySem.F.args_enumerate_next_1 _))))
  show wpAny _ _ (field (.ref e) 2 >>= _) _ _ _
  refine wpAny_bind (wpAny_field ho rfl (x := .ref a) rfl ?_)
  obtain ⟨st, ok2, F₂, m₂, w₂⟩ := bj.mp (⟨Xf, Yf, hS, F, m, w⟩ : FSS G (cB G k env l endr [] a g) i C σ ((e, oEn a i) :: X) Y τ s)
  obtain ⟨⟨oa, hoa, hga⟩, _⟩ := w₂.own (a, cu g) (by simp)
  have hg := cu.gA hoa hga
  refine wpAny_bind ?_
  unfold Builtin.SmallTypes.nextOf
  refine wpAny_bind (wpAny_callSpecial?_slot (name := Str.ofString "__next__") hg.typeIs slot_gen_next (wpAny_call_entry slot_gen_next hg.typeIs entry_gen_next ?_ (args_gen_next _)))
  refine wpAny_mono (gH (C := C) (X := (e, oEn a i) :: X) (Y := Y) ok hA.in1.in1 hH hu ⟨Xf, Yf, hS, F, m, w⟩) (fun fin s₁ h₁ => ?_) fun _ _ z => z.elim
  obtain ⟨y, rfl, Xg, Yg, hS₁, F₁, m₁, w₁⟩ := h₁
  refine ⟨y, rfl, wpAny_pure ?_⟩
  obtain ⟨⟨o₁, ho₁, old₁, rfl⟩, _⟩ := w₁.own (e, oEn a i) (by simp)
  refine oE (e := e) (it := a) (i := (i : Int)) (old := old₁) ho₁ fun h' he' ht' hz' hk' => ?_
  refine ⟨_, rfl, wpAny_pure ⟨_, rfl, ?_⟩⟩
  refine wpAny_letOwnedTupleGo_enum he' fun h'' he'' hs'' => ?_
  refine cy.mpr ⟨Xg, Yg, hS₁, ?_⟩
  have hne : s₁.heap.objs.size ≠ e := Nat.ne_of_gt (Heap.lt_size ho₁)
  have ht'' : h''.get? s₁.heap.objs.size = some (eK [.int i s₁.toks, y]) := (hs''.2 _ hne).trans ht'
  have he3 : h''.get? e = some { cls := .type "enumerate", dict := none, data := .fields #[.none, .bool false, .ref a, rawInt ((i + 1 : Nat) : Int), .none, y], slots := #[] } := by
   have e1 : ((i + 1 : Nat) : Int) = (i : Int) + 1 := by omega
   rw [e1]; exact he''
  refine cx (w₁.qr (P' := oEn a (i + 1)) (h' := h'') (tk := s₁.toks + 1) (fun b o hb e => (hs''.2 b hb).trans (hk' b o hb e)) (by rw [hs''.1, hz']; exact Z22) he3 ⟨y, rfl⟩ rfl ht'') fun F' le hF' w' => ?_
  exact ⟨F', m₁, { w' with tmp := ⟨w'.tmp.1, _, _, rfl, hF', .cons ⟨_, rfl⟩ (.cons w'.tmp.2 .nil)⟩ }⟩
 done := fun C σ X Y τ A s hA hH h => by
  have hlen : (bW l).length = l.length := by simp [bW]
  rw [hlen] at h
  have h := cy.mp h
  obtain ⟨Xf, Yf, hS, F, m, w⟩ := h
  obtain ⟨⟨o, ho, old, rfl⟩, _⟩ := w.own (e, oEn a l.length) (by simp)
  have hT : s.TypeIs (.ref e) "enumerate" := ⟨_, ho, rfl⟩
  unfold pyNext
  refine wpAny_bind (wpAny_attempt (wpAny_callSpecial?_slot (name := Str.ofString "__next__") hT PySem.F.slot_enumerate_next (wpAny_call_entry PySem.F.slot_enumerate_next hT PySem.F.entry_enumerate_next ?_ (PySem.F.args_enumerate_next_1 _))))
  show wpAny _ _ (field (.ref e) 2 >>= _) _ _ _
  refine wpAny_bind (wpAny_field ho rfl (x := .ref a) rfl ?_)
  obtain ⟨st, ok2, F₂, m₂, w₂⟩ := bj.mp (⟨Xf, Yf, hS, F, m, w⟩ : FSS G (cB G k env l endr [] a g) l.length C σ ((e, oEn a l.length) :: X) Y τ s)
  obtain ⟨⟨oa, hoa, hga⟩, _⟩ := w₂.own (a, cu g) (by simp)
  have hg := cu.gA hoa hga
  refine wpAny_bind ?_
  unfold Builtin.SmallTypes.nextOf
  refine wpAny_bind (wpAny_callSpecial?_slot (name := Str.ofString "__next__") hg.typeIs slot_gen_next (wpAny_call_entry slot_gen_next hg.typeIs entry_gen_next ?_ (args_gen_next _)))
  refine wpAny_mono (gI (C := C) (X := (e, oEn a l.length) :: X) (Y := Y) ok hA.in1.in1 hH hend ⟨Xf, Yf, hS, F, m, w⟩) (fun fin s₁ h₁ => h₁.elim) fun x s₁ h₁ => ?_
  obtain ⟨b, o, rfl, hb, hc, h₁⟩ := h₁
  refine wpAny_bind (wpAny_isInstance (T := "StopIteration") (b := true) ⟨o, hb, hc⟩ isSubtype_stop ?_)
  exact wpAny_pure ⟨rfl, h₁.less (Wk.refl _) (List.sublist_cons_self _ _) (List.Sublist.refl _)⟩
 self := fun C σ X Y τ A s hA hH h => by
  have h' := cy.mp h
  obtain ⟨Xf, Yf, hS, F, m, w⟩ := h'
  obtain ⟨⟨o, ho, old, rfl⟩, _⟩ := w.own (e, oEn a 0) (by simp)
  have hT : s.TypeIs (.ref e) "enumerate" := ⟨_, ho, rfl⟩
  refine wpAny_pyIter_slot hT PySem.F.slot_enumerate_iter (wpAny_call_entry PySem.F.slot_enumerate_iter hT PySem.F.entry_enumerate_iter ?_ (PySem.F.args_enumerate_iter_1 _))
  show wpAny _ _ (ret (.ref e)) _ _ s
  exact wpAny_pure ⟨_, rfl, "enumerate", _, hT, PySem.F.slot_enumerate_next.lookup, rfl, h⟩
theorem qQ {C : Cx} {σ : Sto} {X : List (Addr × OP)} {Y : List (Nat × GP)} {τ τ' : MP} {s : Shared} {F : Fz} {m : Str → Option Value} (w : FSB G C σ X Y τ s F m) (h : τ.p F → τ'.p F) : FS G ⟨C, σ, X, Y⟩ τ' s := ⟨F, m, { w with tmp := h w.tmp }⟩
theorem dk.enum {arg : Expr} {v : VP} {l : List VP} {q p : Pos} {ka : Nat} {elts : List Expr} {ctx : Nat} {pos : Pos} (hx : EvT G ka C σ (.Name "enumerate" q) (vIs (.type "enumerate"))) (ha : EvT G ka C σ arg v) (hg : fw G k v l) (hk : k + 4 ≤ ka)
  (hplain : autoParam (((backTo p (starEach [arg] C.env)).any (·.1) || (backToKw p (keywordEach [] C.env)).any (·.1.isNone)) = false) tcR) (hst : ∃ x r, backTo p (starEach [arg] C.env) = (false, x) :: r := by exact ⟨_, _, rfl⟩) (hstar : autoParam (starEach [arg] C.env = (false, eval arg C.env) :: starEach [] C.env) tcR) :
  dk G ka (k + 3) (.Tuple elts ctx pos) C σ (.Call (.Name "enumerate" q) [arg] [] p) (· = bW l) := by
 intro A X Y τ s hA h
 refine wpAny_Call_Name_kw (wpAny_mono (hx A X Y _ s hA h) (fun y s₁ h₁ => ?_) iz)
 obtain rfl : y = .type "enumerate" := h₁.take fun F z => z.2
 refine bH (first := []) (pos := [v]) (kv := []) (kn := []) (fun ys zs s₂ h₂ => ?_) KpT.ty (af.cons ha .nil hstar) KwT.nil rfl rfl hplain (.inr hst) hA h₁
 obtain ⟨y, rfl⟩ : ∃ y, ys = [y] := h₂.take fun F z => let ⟨y, e, _⟩ := z.1.2.one; ⟨y, e⟩
 obtain rfl : zs = [] := h₂.take fun F z => z.2.none
 have hA4 : AOk (k + 4) A := hA.le hk
 refine og ?_
 refine wpAny_mono (hg C σ X Y _ A.in1.in1 s₂ y hA4.in1.in1 h₂ fun F z => (by refine ag (z.1.2.one) fun y' e q => ?_; cases e; exact q)) (fun it s₃ h₃ => ?_) iz
 obtain ⟨a, g, env, rfl, ok, Xf, Yf, hS, F, m, w⟩ := h₃
 intro h' hget heq
 subst heq
 have w1 := w.newX (tk := s₃.toks) (P := oEn a 0) (fun b o e => Heap.get?_push_of_some _ e) (by rw [Heap.size_push]; exact Z22) (Nat.le_refl _) hget ⟨.none, rfl⟩
 have W := aM.enum (G := G) (k := k + 1) (l := l) (a := a) (e := s₃.heap.objs.size) (g := g) (elts := elts) (ctx := ctx) (pos := pos) ok (endr := .ok (.ret .none)) rfl
 have fs : FSS G (enumSrc (cB G (k + 1) env l (.ok (.ret .none)) [] a g) s₃.heap.objs.size a) 0 C σ X Y τ ⟨s₃.heap.push { cls := .type "enumerate", data := .fields #[.none, .bool false, .ref a, rawInt 0, .none, .none] }, s₃.gens, s₃.drawn, s₃.toks, s₃.os⟩ :=
  cy.mpr ⟨Xf, Yf, hS, (qQ w1 fun z => z.1.1.1).perm List.perm_middle⟩
 refine wpAny_mono (W.self C σ X Y τ A _ (hA4.le (Nat.le_succ _)) bb fs) (fun it s₄ h₄ => ?_) iz
 obtain ⟨rfl, h₄⟩ := h₄
 exact ⟨_, _, rfl, W, h₄⟩
noncomputable def EvX (G : Gd) (k : Nat) (C : Cx) (σ : Sto) (R : List (Addr × OP)) (e : Expr) (v : VP) : Prop :=
 ∀ A X Y τ s, AOk k A → (∀ p ∈ R, p ∈ X) → FS G ⟨C, σ, X, Y⟩ τ s → wpAny G.M A (eval e C.env) (fun y s' => FS G ⟨C, σ, X, Y⟩ (τ.and (v.at y)) s') ff s
noncomputable def TsX (G : Gd) (k : Nat) (C : Cx) (σ : Sto) (R : List (Addr × OP)) (e : Expr) (b : Bool) : Prop :=
 ∀ A X Y τ s, AOk k A → (∀ p ∈ R, p ∈ X) → FS G ⟨C, σ, X, Y⟩ τ s → wpAny G.M A (isTrue e C.env (eval e C.env)) (fun b' s' => b' = b ∧ FS G ⟨C, σ, X, Y⟩ τ s') ff s
theorem EvT.toX {e : Expr} {v : VP} (h : EvT G k C σ e v) : EvX G k C σ R e v := fun A X Y τ s hA _ hs => h A X Y τ s hA hs
theorem TsX.as {e : Expr} {b b' : Bool} (h : TsX G k C σ R e b) (q : b = b') : TsX G k C σ R e b' := q ▸ h
theorem EvX.field {self : Str} {D x d : Addr} {fs : List (Str × VP)} {name : Str} {v : VP} {p q : Pos} {attr : Option Value} (hv : (self, some (dh D x d)) ∈ σ) (hR : (d, bJ fs) ∈ R) (hl : fs.lookup name = some v) (hg : plainGet G.K D name = true) (hh : hasDictIn G.K D = true) (ha : findIn G.K (.ref D) name = some attr) (hn : noGet G.K attr = true)
  (hb : autoParam (attributeBase (.Name self q) name C.env (eval (.Name self q) C.env) = eval (.Name self q) C.env) tcR) (hd : autoParam ((self == ("__debug__" : Str)) = false) tcD) (hnn : autoParam ((self == ("__classdict__" : Str)) = false) tcD) : EvX G k C σ R (.Attribute (.Name self q) name p) v := by
 intro A X Y τ s hA hX h
 refine gz hb (wpAny_mono (EvT.var hv hd hnn A X Y τ s hA h) (fun y s₁ h₁ => ?_) iz)
 have h₂ := h₁
 obtain ⟨F, m, w⟩ := h₂
 refine bx (w.tmp) fun _ re0 e1 => ?_; subst re0
 obtain ⟨⟨o, ho, es, n, rfl, r⟩, _⟩ := w.own (d, bJ fs) (hX _ hR)
 refine cx (r.get hl) fun z g hz vz => ?_
 refine get_value w.wd.K (⟨(w.fz _ _ e1).1, rfl, rfl, ho⟩ : InstAt s₁.heap x (instObj D d) D (some (dictOf es n))) (plainGet_of hg).1 (findObj_own hh ha hn g) hz ?_
 have h₃ : FS G ⟨C, σ, X, Y⟩ (τ.and (v.at z)) s₁ := ⟨F, m, { w with tmp := ⟨w.tmp.1, vz⟩ }⟩
 exact h₃.toks
theorem TsX.cmp {a b : Expr} {op : CmpOp} {p : Pos} {va vb vr : VP} {t : Bool} (ha : EvX G k C σ R a va) (hb : EvX G k C σ R b vb) (ho : aY G k op va vb vr) (ht : d6 G k vr t) (hm : behindInMarks op b = false := by with_unfolding_all rfl) :
  TsX G k C σ R (.Compare a [op] [b] p) t := by
 intro A X Y τ s hA hX h
 refine wpAny_isTrue_Compare1 (wpAny_mono (ha A X Y τ s hA hX h) (fun y s₁ h₁ => ?_) iz) hm
 refine wpAny_mono (hb A X Y _ s₁ hA hX h₁) (fun z s₂ h₂ => ?_) iz
 refine wpAny_mono (ho _ A _ s₂ y z hA h₂ fun F q => ⟨q.1.2, q.2⟩) (fun r s₃ h₃ => ?_) iz
 refine wpAny_mono (ht _ A _ s₃ r hA h₃ fun F q => q.2) (fun b' s₄ h₄ => ?_) iz
 exact ⟨h₄.1, h₄.2.wk fun F q => q.1.1.1⟩
theorem ExT.uS {t : Expr} {body orelse rest : List Stmt} {p : Pos} (ht : TsX G k C σ X t true) (hb : ExT G k C σ X Y body (Th G k C rest Ψ)) : ExT G k C σ X Y (.If t body orelse p :: rest) Ψ := by
 intro A s hA h
 refine wpAny_execs_cons (wpAny_If (wpAny_mono (ht A X Y _ s hA (fun _ h => h) h) (fun b s₁ h₁ => ?_) iz))
 obtain ⟨rfl, h₁⟩ := h₁
 exact wpAny_mono (hb A s₁ hA h₁) (fun f s₂ h₂ => by cases f with | next => exact h₂ A hA | brk => exact h₂ | cont => exact h₂ | ret v => exact h₂) iz
theorem ExT.sU {t : Expr} {body orelse rest : List Stmt} {p : Pos} (ht : TsX G k C σ X t false) (hb : ExT G k C σ X Y orelse (Th G k C rest Ψ)) : ExT G k C σ X Y (.If t body orelse p :: rest) Ψ := by
 intro A s hA h
 refine wpAny_execs_cons (wpAny_If (wpAny_mono (ht A X Y _ s hA (fun _ h => h) h) (fun b s₁ h₁ => ?_) iz))
 obtain ⟨rfl, h₁⟩ := h₁
 exact wpAny_mono (hb A s₁ hA h₁) (fun f s₂ h₂ => by cases f with | next => exact h₂ A hA | brk => exact h₂ | cont => exact h₂ | ret v => exact h₂) iz
theorem ExT.qz {α : Type} {test : Expr} {body rest : List Stmt} {p : Pos} (P : α → Prop) (μ : α → Nat) (σs : α → Sto) (b : α → Bool) (a₀ : α) (h0 : P a₀) (e0 : σ = σs a₀) (ht : ∀ a, P a → TsT G k C (σs a) test (b a))
  (hb : ∀ a, P a → b a = true → ∃ a', P a' ∧ μ a' < μ a ∧ ExT G k C (σs a) X Y body (LpT G C True (σs a') X Y Ψ)) (hr : ∀ a, P a → b a = false → ExT G k C (σs a) X Y rest Ψ) :
  ExT G k C σ X Y (.While test body [] p :: rest) Ψ := by
 intro A s hA h
 have key : ∀ (n : Nat) (a : α) (s : Shared), μ a ≤ n → P a → FS G ⟨C, σs a, X, Y⟩ MP.tt s → WhlRest PySem.Challenge.pw_jg0001_01 G.w A ff C.env test body [] (fun f s' => match f with | .next => wpAny G.M A (execs rest C.env) Ψ ff s' | f => Ψ f s') n s := by
  intro n
  induction n with
  | zero =>
   intro a s hn hp hs
   refine whl_turn (k := 0) PassesOwn.never (wpAny_mono (ht a hp A X Y _ s hA hs) (fun c s₁ h₁ => ?_) iz)
   obtain ⟨rfl, h₁⟩ := h₁
   cases hb' : b a with
   | false => exact .no rfl (wpAny_execs_nil (hr a hp hb' A s₁ hA h₁))
   | true =>
    refine cx (hb a hp hb') fun a' _ lt _ => ?_
    omega
  | succ n ih =>
   intro a s hn hp hs
   refine whl_turn (k := n) PassesOwn.never (wpAny_mono (ht a hp A X Y _ s hA hs) (fun c s₁ h₁ => ?_) iz)
   obtain ⟨rfl, h₁⟩ := h₁
   cases hb' : b a with
   | false => exact .no rfl (wpAny_execs_nil (hr a hp hb' A s₁ hA h₁))
   | true =>
    refine cx (hb a hp hb') fun a' hp' lt hx => ?_
    refine .yes rfl (wpAny_mono (hx A s₁ hA h₁) (fun f s₂ h₂ => ?_) iz)
    cases f with
    | next => exact ih a' s₂ (by omega) hp' h₂.2
    | cont => exact ih a' s₂ (by omega) hp' h₂.2
    | brk => exact h₂.elim
    | ret v => exact h₂
 subst e0
 exact wpAny_execs_cons (whl_start _ (key _ a₀ s (Nat.le_refl _) h0 h))
theorem ExT.nX {a b : Str} {pa pb p : Pos} {ctx : Nat} {tp : Pos} {e : Expr} {va vb : VP} {rest : List Stmt} (he : EvT G k C σ e (aQ [va, vb])) (hxa : C.st a) (hxb : C.st b) (hub : Upd σ b vb σ₁) (hua : Upd σ₁ a va σ')
  (hr : ExT G k C σ' X Y rest Ψ) (hs : autoParam (swapsWithSole [.Tuple [.Name a pa, .Name b pb] ctx tp] e p.line C.env = pure false) tcR) (hw : autoParam (swappedStores [.Tuple [.Name a pa, .Name b pb] ctx tp] e C.env = pure (some [a, b])) tcR) :
  ExT G k C σ X Y (.Assign [.Tuple [.Name a pa, .Name b pb] ctx tp] e p :: rest) Ψ := by
 intro A s hA h
 refine wpAny_execs_cons (PyProof.Rows.Assign_Tuple_swapped (names := [a, b]) (wpAny_mono (he A X Y _ s hA h) (fun y s₁ h₁ => ?_) iz) hs hw)
 have h₂ := h₁
 obtain ⟨F, m, w⟩ := h₂
 obtain ⟨_, t, ys, rfl, e, r⟩ := w.tmp
 refine n8 (r.two) fun y1 y2 re0 v1 v2 => ?_; subst re0
 refine dR (wpAny_unpackItems_tuple (items := #[y1, y2]) hA.1 ⟨_, (w.fz _ _ e).1, rfl, _, rfl⟩ fun h' hx hz => ?_)
 have h₁ : FS G ⟨C, σ, X, Y⟩ ((va.at y1).and (vb.at y2)) ⟨h', s₁.gens, s₁.drawn, s₁.toks, s₁.os⟩ :=
  FS.grow (s := s₁) (τ := (va.at y1).and (vb.at y2)) ⟨F, m, { w with tmp := ⟨v1, v2⟩ }⟩ (fun b o q => hx b o (Nat.ne_of_lt (Heap.lt_size q)) q) hz
 show wpAny _ _ (assignInOrder [bindName C.env b, bindName C.env a] [y2, y1]) _ _ _
 rw [cA]
 refine wpAny_bind (wpAny_holding (wpAny_bindName (bL h₁ hxb (fun F z => z.2) hub fun s₂ h₂ => ?_)))
 rw [cA]
 refine wpAny_bind (wpAny_holding (wpAny_bindName (bL h₂ hxa (fun F z => z.1) hua fun s₃ h₃ => ?_)))
 exact wpAny_pure (hr A s₃ hA (h₃.wk fun _ _ => trivial))
noncomputable def JnT (G : Gd) (C : Cx) (σ : Sto) (X : List (Addr × OP)) (Y : List (Nat × GP)) (Ψ : Flow → Shared → Prop) : Flow → Shared → Prop := fun f s => match f with
 | .next => FS G ⟨C, σ, X, Y⟩ MP.tt s
 | f => Ψ f s
theorem ExT.jn (hw : Wk σ σ') : ExT G k C σ X Y [] (JnT G C σ' X Y Ψ) := .nil fun _ h => h.less hw (List.Sublist.refl _) (List.Sublist.refl _)
theorem ExT.ifJ {t : Expr} {body orelse rest : List Stmt} {p : Pos} {b : Bool} (σ' : Sto) (ht : TsT G k C σ t b) (h1 : b = true → ExT G k C σ X Y body (JnT G C σ' X Y Ψ)) (h2 : b = false → ExT G k C σ X Y orelse (JnT G C σ' X Y Ψ)) (hr : ExT G k C σ' X Y rest Ψ) : ExT G k C σ X Y (.If t body orelse p :: rest) Ψ := by
 refine .if_ ht (fun e => (h1 e).weak fun f s hf => ?_) (fun e => (h2 e).weak fun f s hf => ?_)
 ·cases f with
  | next => exact fun A hA => hr A s hA hf
  | brk => exact hf
  | cont => exact hf
  | ret v => exact hf
 ·cases f with
  | next => exact fun A hA => hr A s hA hf
  | brk => exact hf
  | cont => exact hf
  | ret v => exact hf
theorem ExT.qL {t : Expr} {x : Str} {it : Value} {Sr : Src} {H : gM} {l : List VP} {body rest : List Stmt} {p q : Pos} (hx : (x, some (vIs it)) ∈ σ) (W : aM G k t it Sr H l) (hH : C.holds G H) (hS : Sr.S 0 X₁ Y₁)
  (step : ry G k C t body rest Y Ψ σ X l)
  (hs : ∀ y, foldedSetIterable (.Name x q) C.env y = pure y := by intro _; rfl) (hd : autoParam ((x == ("__debug__" : Str)) = false) tcD) (hn : autoParam ((x == ("__classdict__" : Str)) = false) tcD) : ExT G k C σ (X₁ ++ X) (Y₁ ++ Y) (.For t (.Name x q) body [] p :: rest) Ψ := by
 intro A s hA h
 refine wpAny_execs_cons (wpAny_For (wpAny_mono (EvT.var (k := k) hx hd hn A _ _ _ s hA h) (fun y s₁ h₁ => ?_) iz) hs)
 obtain rfl : y = it := h₁.take fun F z => z.2
 refine wpAny_mono (W.self C σ X Y MP.tt A s₁ hA hH ⟨X₁, Y₁, hS, h₁.wk fun _ _ => trivial⟩) (fun it' s₂ h₂ => ?_) iz
 obtain ⟨rfl, h₂⟩ := h₂
 obtain ⟨P, σs, Xs, p0, w0, x0, turn, fin⟩ := step
 refine cJ (fun n s => ∃ i, n = l.length - i ∧ i ≤ l.length ∧ P i ∧ FSS G Sr i C (σs i) (Xs i) Y MP.tt s) (fun n s₃ ⟨i, en, hi, hp, h₃⟩ => ?_) l.length
  ⟨0, rfl, Nat.zero_le _, p0, let ⟨a, b, c, d⟩ := h₂; ⟨a, b, c, x0 ▸ d.less w0 (List.Sublist.refl _) (List.Sublist.refl _)⟩⟩
 rcases Nat.lt_or_ge i l.length with lt | ge
 ·have hv : l[i]? = some l[i] := List.getElem?_eq_getElem lt
  obtain ⟨σ', ha, hb⟩ := turn i l[i] hv hp
  refine wpAny_mono (W.item C (σs i) (Xs i) Y _ A s₃ i l[i] hA hH hv h₃) (fun r s₄ h₄ => ?_) iz
  obtain ⟨x, rfl, h₄⟩ := h₄
  refine wpAny_mono h₄ (fun _ s₅ h₅ => ?_) iz
  obtain ⟨Xf, Yf, hS, h₅⟩ := h₅
  refine wpAny_mono (ha A _ _ _ s₅ x hA h₅ fun F z => z.2) (fun _ s₆ h₆ => ?_) iz
  refine wpAny_mono (hb Xf Yf A s₆ hA (h₆.wk fun _ _ => trivial)) (fun f s₇ h₇ => ?_) iz
  cases f with
  | next => exact ⟨l.length - (i + 1), k8, i + 1, rfl, lt, h₇.1, Xf, Yf, hS, h₇.2⟩
  | cont => exact ⟨l.length - (i + 1), k8, i + 1, rfl, lt, h₇.1, Xf, Yf, hS, h₇.2⟩
  | brk => exact h₇.elim
  | ret v => exact h₇
 ·obtain rfl : i = l.length := Nat.le_antisymm hi ge
  refine wpAny_mono (W.done C _ _ Y _ A s₃ hA hH h₃) (fun r s₄ h₄ => ?_) iz
  obtain ⟨rfl, h₄⟩ := h₄
  exact wpAny_execs_nil (fin hp A s₄ hA h₄)
theorem lr {a : Addr} {oc : Value} {od : Option Addr} {osl : Array (Option Value)} {fd : FuncData} {stmts : List Stmt} {x : Str} {v : VP} {σ0 : Value → Sto} {l : List VP} {endr : Result} {y : Value}
  (hK : G.K.lookup a = some ⟨oc, od, .func fd, osl⟩) (hcd : codeIn G.K fd.code fd.qualname = true) (hbody : fd.body = .stmts stmts)
  (hg : fd.globals = mainGlobals ∧ fd.builtins = builtinsNs) (hcl : fd.closure = []) (hk : fd.scope.kind = .function) (hco : fd.scope.isCoroutine = false) (hgen : fd.scope.isGenerator = false)
  (hbind : ∀ (y : Value) (s : Shared), Wd G s → BindsTo s fd ⟨[y], []⟩ [(x, y)]) (hnd : (fd.scope.names.map (·.1)).Nodup) (hpl : fd.scope.names.lookup x = some .local) (hσn : ∀ y, (σ0 y).map (·.1) = av fd.scope) (hσ : ∀ y z u, (z, some u) ∈ σ0 y → z = x ∧ u = vIs y)
  (body : ∀ (s₀ : Shared) (F₀ : Fz) (xa : List Addr) (xg : List Nat) (it : Value) (Sr : Src) (H : gM) (X₁ : List (Addr × OP)) (Y₁ : List (Nat × GP)), (∀ t, aM G (k + 1) t it Sr H l) → Sr.S 0 X₁ Y₁ → Cx.holds ⟨callEnvC fd s₀.heap.objs.size a, s₀, F₀, xa, xg⟩ G H →
   ExT G j ⟨callEnvC fd s₀.heap.objs.size a, s₀, F₀, xa, xg⟩ (σ0 it) X₁ Y₁ stmts (j2 G ⟨callEnvC fd s₀.heap.objs.size a, s₀, F₀, xa, xg⟩ v))
  (hA : AOk (j + 1) A) (h : Ready G k C σ X Y τ l endr y s) : wpAny G.M A (PySem.call (.ref a) [y]) (fun r s' => FS G ⟨C, σ, X, Y⟩ (τ.and (v.at r)) s') ff s := by
 obtain ⟨ga, g, env, caps, X₁, Y₁, rfl, ok, hend, hS, hm, F, m, w, hc⟩ := h
 refine wpAny_call (codeAny_call_function hA.room (w.wd.K _ _ hK) rfl hco hgen hbody (codeRec_of w.wd.K hcd) (hbind _ s w.wd _ _ _ _ ?_))
 rw [hcl]
 refine wpAny_newFunctionEnv_cells hk (fun p hp => ?_) fun env' he s₂ x₂ => ?_
 ·rw [List.mem_singleton.mp hp]; exact .inl hpl
 subst he
 refine ez (x₂.done) fun h' tk re0 keep => ?_; subst re0
 have en := FS.gq (τ' := MP.tt) (X0 := X₁) (Y0 := Y₁) (xa := X₁.map (·.1)) (xg := Y₁.map (·.1)) (F := F) (pn := [x]) (bs := [.ref ga]) (bv := [vIs (.ref ga)]) (σ0 := σ0 (.ref ga)) w.wd (fun b o e => let ⟨p, q, _⟩ := w.fz b o e; ⟨p, q⟩)
  (fun b hb => by
   refine ag (List.mem_map.mp hb) fun p hp re0 => ?_; subst re0
   refine bx (w.own p (List.mem_append_left _ hp)) fun nn0 pr _ => ?_; refine ag (nn0) fun o e _ => ?_
   exact ⟨w.dy pr, Heap.lt_size e⟩)
  (fun b hb => by
   refine ag (List.mem_map.mp hb) fun q hq re0 => ?_; subst re0
   obtain ⟨⟨g', e, _⟩, _⟩ := w.gown q (List.mem_append_left _ hq)
   rcases Nat.lt_or_ge q.1 s.gens.size with l | l
   ·exact l
   ·rw [Array.getElem?_eq_none l] at e; cases e)
  (fun p hp => let ⟨a, _, c, _⟩ := w.own p (List.mem_append_left _ hp); ⟨a, List.mem_map_of_mem hp, c⟩)
  (by have := w.nodup; rw [List.map_append] at this; exact (List.nodup_append.mp this).1)
  (fun q hq => let ⟨a, _⟩ := w.gown q (List.mem_append_left _ hq); ⟨a, List.mem_map_of_mem hq⟩)
  (by have := w.ynd; rw [List.map_append] at this; exact (List.nodup_append.mp this).1)
  hg hk hnd (by simp) (hσn _) (fun z u e => by obtain ⟨rfl, rfl⟩ := hσ _ z u e; simp) (.cons rfl .nil) rfl trivial x₂
 have hlim : Heap.NoLimit h' := w.wd.lim.keeps keep
 refine ⟨hlim, codeAny_func ?_⟩
 refine wpAny_mono (body s F _ _ (.ref ga) _ (caps.map fun q => (q.c, q.o)) X₁ Y₁ (fun t => aM.gen ok hend) hS (fun p hp => ?_) _ _ (hA.deeper (env := callEnvC fd s.heap.objs.size a)) en) (fun fl s'' hp => ?_) fun _ _ z => z.elim
 ·refine ag (List.mem_map.mp hp) fun q hq re0 => ?_; subst re0
  refine iV (hc q hq) fun c1 c2 c3 c4 c5 => ?_
  exact ⟨c1, fun hm => c4 (by rw [List.map_append]; exact List.mem_append_left _ hm), c3, c2⟩
 obtain ⟨r, σ', X', Y', rfl, F', m', w'⟩ := hp
 exact ⟨F', m, FSB.k6 (X₂ := []) (Y₂ := []) w w' rfl rfl (fun _ h => h) (fun _ h => h) (fun _ h => nomatch h) List.nodup_nil (fun _ h => nomatch h) List.nodup_nil⟩
noncomputable def qc (G : Gd) (C : Cx) (d : Addr) (fs : Addr → List (Str × VP)) (P : OP) : Flow → Shared → Prop := fun fl s' => (fl = .next ∨ fl = .ret .none) ∧ ∃ b σ' X₁ Y', FS G ⟨C, σ', (d, bJ (fs b)) :: (b, P) :: X₁, Y'⟩ MP.tt s'
theorem uC {D fI : Addr} {oc : Value} {od : Option Addr} {osl : Array (Option Value)} {fd : FuncData} {stmts : List Stmt} {pos kv bv : List VP} {kn pn : List Str} {fs : Addr → List (Str × VP)} {P : OP} {σ0 : Addr → Addr → Sto}
  (hm : makesIn G.K D = true) (hi : findIn G.K (.ref D) "__init__" = some (some (.ref fI))) (hf : typeIn G.K (.ref fI) = some (.type "function"))
  (hK : G.K.lookup fI = some ⟨oc, od, .func fd, osl⟩) (hcd : codeIn G.K fd.code fd.qualname = true) (hbody : fd.body = .stmts stmts)
  (hg : fd.globals = mainGlobals ∧ fd.builtins = builtinsNs) (hcl : fd.closure = []) (hk : fd.scope.kind = .function) (hco : fd.scope.isCoroutine = false) (hgen : fd.scope.isGenerator = false)
  (hbind : ∀ (x : Addr) (ys zs : List Value) (s : Shared), ys.length = pos.length → zs.length = kv.length → Wd G s → ∃ bs : List Value, BindsTo s fd ⟨.ref x :: ys, kn.zip zs⟩ (pn.zip (.ref x :: bs)) ∧ bs.length + 1 = pn.length ∧ ∀ F, Rel2 F pos ys → Rel2 F kv zs → Rel2 F bv bs)
  (hnd : (fd.scope.names.map (·.1)).Nodup) (hpn : pn.Nodup) (hpl : ∀ x ∈ pn, x ∈ av fd.scope) (hσn : ∀ x d, (σ0 x d).map (·.1) = av fd.scope) (hσ : ∀ x d n v, (n, some v) ∈ σ0 x d → (n, v) ∈ pn.zip (dh D x d :: bv))
  (body : ∀ (s₀ : Shared) (F₀ : Fz) (x d : Addr), (∀ n ∈ av fd.scope, Cx.st ⟨callEnvC fd s₀.heap.objs.size fI, s₀, F₀, [d], []⟩ n) → ExT G k ⟨callEnvC fd s₀.heap.objs.size fI, s₀, F₀, [d], []⟩ (σ0 x d) [(d, bJ [])] [] stmts (qc G ⟨callEnvC fd s₀.heap.objs.size fI, s₀, F₀, [d], []⟩ d fs P))
  {ys zs : List Value} (hA : AOk (k + 2) A) (h : FS G ⟨C, σ, X, Y⟩ τ s) (hrel : ∀ F, τ.p F → Rel2 F pos ys ∧ Rel2 F kv zs) :
  wpAny G.M A (PySem.call (.ref D) ys (kn.zip zs)) (fun r s' => ∃ b, FS G ⟨C, σ, (b, P) :: X, Y⟩ (τ.and ((aL D (fs b)).at r)) s') ff s := by
 refine wpAny_call ?_
 obtain ⟨F, m, w⟩ := h
 obtain ⟨r1, r2⟩ := hrel F w.tmp
 obtain ⟨hh, g, dr, t, os⟩ := s
 refine make_core (makes_of w.wd.K hm) (looks_findIn w.wd.K hi) (fun self => bind_fn w.wd.K self hf) (.inl rfl) ?_
 let s1 : Shared := ⟨(hh.push emptyDict).push (instObj D hh.objs.size), g, dr, t, os⟩
 have hk1 : ∀ b o, hh.get? b = some o → s1.heap.get? b = some o := fun b o e => Heap.get?_push_of_some _ (Heap.get?_push_of_some _ e)
 have hz1 : s1.heap.objs.size = hh.objs.size + 2 := by show ((hh.push emptyDict).push (instObj D hh.objs.size)).objs.size = _; rw [Heap.size_push, Heap.size_push]
 have gd : s1.heap.get? hh.objs.size = some emptyDict := Heap.get?_push_of_some _ (Heap.get?_push_size _ rfl)
 have gx : s1.heap.get? (hh.objs.size + 1) = some (instObj D hh.objs.size) := by
  have := Heap.get?_push_size (hh.push emptyDict) (o := instObj D hh.objs.size) rfl
  rwa [Heap.size_push] at this
 have wd1 : Wd G s1 := w.wd.keeps hk1 (by show hh.objs.size ≤ s1.heap.objs.size; omega) w.wd.bare
 let F1 : Fz := fun b => if b = hh.objs.size + 1 then some (instObj D hh.objs.size) else F b
 have lowF : ∀ c, hh.objs.size ≤ c → F c = none := fun c hc => by
  cases q : F c with
  | none => rfl
  | some o => exact absurd (Heap.lt_size (w.fz _ o q).1) (Nat.not_lt.mpr hc)
 have le1 : F.le F1 := fun b o e => by
  show (if b = hh.objs.size + 1 then some (instObj D hh.objs.size) else F b) = some o
  by_cases q : b = hh.objs.size + 1
  ·subst q; rw [lowF _ (Nat.le_succ _)] at e; cases e
  ·rw [if_neg q]; exact e
 have hF1 : ∀ a o, F1 a = some o → s1.heap.get? a = some o ∧ ¬ G.gb a := fun a o e => by
  have e' : (if a = hh.objs.size + 1 then some (instObj D hh.objs.size) else F a) = some o := e
  by_cases q : a = hh.objs.size + 1
  ·subst q
   rw [if_pos rfl] at e'
   cases e'
   exact ⟨gx, Gd.ef (Nat.le_trans w.wd.big (Nat.le_succ _))⟩
  ·rw [if_neg q] at e'
   exact ⟨hk1 _ _ (w.fz a o e').1, (w.fz a o e').2.1⟩
 have F1d : F1 hh.objs.size = none := by
  show (if hh.objs.size = hh.objs.size + 1 then some (instObj D hh.objs.size) else F hh.objs.size) = none
  rw [if_neg (by omega)]; exact lowF _ (Nat.le_refl _)
 have F1x : F1 (hh.objs.size + 1) = some (instObj D hh.objs.size) := if_pos rfl
 refine cx (hbind (hh.objs.size + 1) ys zs s1 r1.length r2.length wd1) fun bs hb hlen hbr => ?_
 have kinds : ∀ p ∈ fd.scope.names, fd.scope.names.lookup p.1 = some p.2 := fun p hp => aO hnd hp
 have locs : ∀ n, n ∈ av fd.scope → fd.scope.names.lookup n = some .local ∨ (fd.scope.names.lookup n = some .cell ∧ ((cellsFrom (s1.heap.objs.size + 1) fd.scope.names []).lookup n).isSome = true) := fun n hn => by
  refine ag (List.mem_map.mp hn) fun p hp e => ?_
  have hp2 := List.mem_filter.mp hp
  have hl := kinds p hp2.1
  subst e
  rcases Bool.or_eq_true_iff.mp hp2.2 with q | q
  ·exact .inl (by rw [hl]; exact congrArg some (eq_of_beq q))
  ·have q' := eq_of_beq q
   refine .inr ⟨by rw [hl, q'], aR _ _ _ (.inl ?_)⟩
   obtain ⟨p1, p2⟩ := p
   dsimp only at q' ⊢
   subst q'
   exact hp2.1
 have hA' : AOk (k + 1) (A.under (.builtin "type.__call__" ⟨.ref D :: ys, kn.zip zs⟩)) := AOk.make hA
 refine codeAny_call_function hA'.room (wd1.K _ _ hK) rfl hco hgen hbody (codeRec_of wd1.K hcd) (hb _ _ _ _ ?_)
 rw [hcl]
 refine wpAny_newFunctionEnv_cells hk (fun p hp => ?_) fun env he s' x => ?_
 ·obtain ⟨p1, p2⟩ := p
  exact locs p1 (hpl p1 (List.of_mem_zip hp).1)
 subst he
 refine ez (x.done) fun h' tk re0 keep => ?_; subst re0
 have en := FS.gq (τ' := MP.tt) (σ0 := σ0 (hh.objs.size + 1) hh.objs.size) (xa := [hh.objs.size]) (xg := []) (X0 := [(hh.objs.size, bJ [])]) (Y0 := []) wd1 hF1
  (fun a ha => by rw [List.mem_singleton.mp ha]; exact ⟨w.wd.big, by omega⟩) (fun _ h => nomatch h)
  (fun p hp => by rw [List.mem_singleton.mp hp]; exact ⟨⟨_, gd, [], 0, rfl, .nil⟩, .head _, F1d⟩) (by simp) (fun _ h => nomatch h) List.nodup_nil hg hk hnd hpn (hσn _ _) (hσ _ _) (.cons ⟨rfl, F1x⟩ ((hbr F r1 r2).mono le1)) (by simpa using hlen) trivial x
 refine ⟨wd1.lim.keeps keep, codeAny_func ?_⟩
 have bd := body s1 F1 (hh.objs.size + 1) hh.objs.size (fun n hn => by
  rcases locs n hn with q | ⟨q, q2⟩
  ·exact .inl q
  ·obtain ⟨c, hc⟩ := Option.isSome_iff_exists.mp q2
   exact .inr ⟨q, c, hc, .inl (Nat.le_of_lt (x.above n c (mem_of_lookup hc)))⟩) _ _ (hA'.deeper (env := callEnvC fd s1.heap.objs.size fI)) en
 refine wpAny_mono bd (fun fl s'' hp => ?_) fun _ _ z => z.elim
 obtain ⟨hfl, b, σ', X₁, Y', F', m', w'⟩ := hp
 obtain ⟨⟨o, ho, es, n, rfl, hes⟩, -, hFd, -⟩ := w'.own (hh.objs.size, bJ (fs b)) (by simp)
 obtain ⟨⟨ob, hob, hPb⟩, hpb, hFb, -⟩ := w'.own (b, P) (by simp)
 have hbd : b ≠ hh.objs.size := fun e => by
  have nd := w'.nodup
  rw [List.map_cons, List.nodup_cons] at nd
  exact nd.1 (by simp [e])
 have hbs : s1.heap.objs.size ≤ b := by
  rcases hpb with q | q
  ·exact q
  ·exact absurd (List.mem_singleton.mp q) hbd
 have hbh : hh.objs.size ≤ b := Nat.le_trans (by show hh.objs.size ≤ s1.heap.objs.size; omega) hbs
 have fin : FS G ⟨C, σ, (b, P) :: X, Y⟩ (τ.and ((aL D (fs b)).at (.ref (hh.objs.size + 1)))) s'' := by
  let F2 : Fz := fun c => if c = hh.objs.size then some (dictOf es n) else F' c
  have le2 : F'.le F2 := fun b o e => by
   show (if b = hh.objs.size then some (dictOf es n) else F' b) = some o
   by_cases q : b = hh.objs.size
   ·subst q; rw [hFd] at e; cases e
   ·rw [if_neg q]; exact e
  have lee : F.le F2 := (le1.trans w'.le).trans le2
  have w2 : FSB G C σ X Y (τ.and ((aL D (fs b)).at (.ref (hh.objs.size + 1)))) s'' F2 m := by
   refine w.step w'.wd (fun a o e t => ?_) ?_ (fun i x e => ?_) ?_ lee (fun a o e => ?_) ⟨τ.mono lee w.tmp, hh.objs.size + 1, hh.objs.size, es, n, rfl, le2 _ _ (w'.le _ _ F1x), if_pos rfl, hes.mono le2⟩
   ·exact w'.kept.heap a o (hk1 _ _ e) (fun hm => by rw [List.mem_singleton.mp hm] at e; exact Nat.lt_irrefl _ (Heap.lt_size e)) t
   ·have := w'.kept.size
    exact Nat.le_trans (by show hh.objs.size ≤ s1.heap.objs.size; omega) this
   ·exact w'.kept.gens i x e (by simp)
   ·exact w'.kept.gsize
   ·have e' : (if a = hh.objs.size then some (dictOf es n) else F' a) = some o := e
    by_cases q : a = hh.objs.size
    ·subst q
     rw [if_pos rfl] at e'
     cases e'
     exact .inr ⟨ho, Nat.le_refl _⟩
    ·rw [if_neg q] at e'
     have := w'.fz a o e'
     rcases this.2.2 with q2 | q2
     ·have q3 : (if a = hh.objs.size + 1 then some (instObj D hh.objs.size) else F a) = some o := q2
      by_cases q4 : a = hh.objs.size + 1
      ·exact .inr ⟨this.1, by subst q4; exact Nat.le_succ _⟩
      ·rw [if_neg q4] at q3; exact .inl q3
     ·exact .inr ⟨this.1, Nat.le_trans (by show hh.objs.size ≤ s1.heap.objs.size; omega) q2⟩
  refine ⟨F2, m, w2.jZ hob (P.mono le2 hPb) (.inl (Nat.le_trans w.kept.size hbh)) ?_ ?_ ?_ ?_⟩
  ·show (if b = hh.objs.size then some (dictOf es n) else F' b) = none
   rw [if_neg hbd]; exact hFb
  ·have := w.ns.lt
   exact Nat.ne_of_gt (Nat.lt_of_lt_of_le this hbh)
  ·intro hm
   refine ag (List.mem_map.mp hm) fun p hp e => ?_
   obtain ⟨⟨o', ho', _⟩, _⟩ := w.own p hp
   exact absurd (Heap.lt_size ho') (Nat.not_lt.mpr (by rw [e]; exact hbh))
  ·intro z c e
   obtain ⟨⟨v', hv'⟩, _⟩ := w.cells z c e
   refine ag (hv') fun o' ho' _ => ?_
   exact Nat.ne_of_lt (Nat.lt_of_lt_of_le (Heap.lt_size ho') hbh)
 rcases hfl with rfl | rfl
 ·exact ⟨rfl, b, fin⟩
 ·exact ⟨rfl, b, fin⟩
theorem Rel2.pV {F : Fz} : ∀ {l : List VP} {ys : List Value}, ys.length = l.length → (∀ (i : Nat) (v : VP), l[i]? = some v → ∃ y, ys[i]? = some y ∧ v.p F y) → Rel2 F l ys
 | [], ys, h, _ => by cases ys with | nil => exact .nil | cons _ _ => cases h
 | v :: l, [], h, _ => by cases h
 | v :: l, y :: ys, h, q => by
  obtain ⟨y', e, hv⟩ := q 0 v rfl
  cases e
  exact .cons hv (Rel2.pV (by simpa using h) fun i u hu => q (i + 1) u hu)
theorem d8 (a b : Int) : Builtin.Range.rangeSize a b 1 = ((b - a).toNat : Int) := by
 unfold Builtin.Range.rangeSize
 rw [if_pos (by decide)]
 split
 ·rw [Int.ediv_one]; omega
 ·omega
theorem lR {a b : Int} (h1 : -1000000 ≤ a ∧ a ≤ 1000000) (h2 : -1000000 ≤ b ∧ b ≤ 1000000) : Builtin.Range.small a b 1 = true := PySem.small_one (by omega) (by omega) (by omega) (by omega)
theorem aw.mW {n : Nat} (hn : n ≤ 1000) : aw G (k + 1) (.type "list") [b6 0 n] [] [] (ae (aG 0 n)) := by
 intro I A τ s ys zs hA hS hr
 have h := hS
 obtain ⟨F, m, w⟩ := h
 obtain ⟨⟨y, rfl, x, t, u, v, rfl, e⟩, rfl⟩ := (⟨(hr F w.tmp).1.one, (hr F w.tmp).2.none⟩ : _ ∧ _)
 have hsm : Builtin.Range.small 0 (n : Int) 1 = true := lR Z60 Z61
 have hsz : Builtin.Range.rangeSize 0 (n : Int) 1 = (n : Int) := by rw [d8, Int.sub_zero]; rfl
 refine dR (call_list_range (n := n) hA.1 (w.fz _ _ e).1 hsm hsz Z1 fun h' tk acc' c' hk hS' hacc hz => ?_)
 refine hS.fresh hk hz hS' fun F' e' => ⟨_, acc'.toList, c', rfl, by rw [e']; simp [d9], Rel2.pV (by simp [hacc.1, aG]) fun i v hv => ?_⟩
 unfold aG at hv
 rw [List.getElem?_map] at hv
 obtain ⟨j, hj, rfl⟩ := Option.map_eq_some_iff.mp hv
 obtain ⟨hi, rfl⟩ : i < n ∧ i = j := by
  have := List.getElem?_eq_some_iff.mp hj
  obtain ⟨h1, h2⟩ := this
  exact ⟨by simpa using h1, by simpa using h2⟩
 have h3 : i < acc'.size := by rw [hacc.1]; exact hi
 obtain ⟨t', e3⟩ := hacc.2 i acc'[i] (Array.getElem?_eq_getElem h3)
 exact ⟨acc'[i], by simp [h3], t', by simpa using e3⟩
theorem aw.oQ {l : List VP} (hz : l.length ≤ 1000) : aw G (k + 1) (.type "list") [ae l] [] [] (ae l) := by
 intro I A τ s ys zs hA hS hr
 have h := hS
 obtain ⟨F, m, w⟩ := h
 obtain ⟨⟨y, rfl, a, its, n, rfl, e, r⟩, rfl⟩ := (⟨(hr F w.tmp).1.one, (hr F w.tmp).2.none⟩ : _ ∧ _)
 have hl := r.length
 refine dR (call_list_seq (hsz := by simp [sizeLine]; exact Z19) a (.inl rfl) (w.fz _ _ e).1 rfl rfl fun h' c' hk hD hz' => ?_)
 have h2 : FS G I (τ.and (rl l its)) s := ⟨F, m, { w with tmp := ⟨w.tmp, r⟩ }⟩
 exact (h2.made (τ' := (τ.and ((ae l).at (.ref s.heap.objs.size)))) hk hz' fun F F' z hle _ hn => ⟨z.1, _, its, c', rfl, hn _ _ hD (Nat.le_refl _), z.2⟩)
theorem aw.qx {i : Int} (hi : i.natAbs.log2 < 1920) : aw G k (.type "str") [vInt i] [] [] (vStr (toString i)) := by
 intro I A τ s ys zs hA hS hr
 have h := hS
 obtain ⟨F, m, w⟩ := h
 obtain ⟨⟨y, rfl, t, rfl⟩, rfl⟩ := (⟨(hr F w.tmp).1.one, (hr F w.tmp).2.none⟩ : _ ∧ _)
 exact P.str_of_int hi (hS.toks.wk fun F z => ⟨z, _, rfl⟩)
theorem d6.none : d6 G k cT false := by
 intro I A τ s a hA hs ha
 obtain rfl : a = .none := hs.take ha
 exact truthy_none ⟨rfl, hs⟩
theorem d6.list {l : List VP} (hz : l.length < 2 ^ 62) : d6 G k (ae l) (!l.isEmpty) := by
 intro I A τ s a hA hs ha
 have h := hs
 obtain ⟨F, m, w⟩ := h
 obtain ⟨x, ys, n, rfl, e, r⟩ := ha F w.tmp
 refine wpAny_truthy_list (items := ys.toArray) ⟨_, (w.fz _ _ e).1, rfl, _, rfl⟩ (by simp [r.length]; omega) ?_
 refine ⟨?_, hs.toks⟩
 have := r.length
 cases ys with
 | nil => cases l with | nil => rfl | cons _ _ => cases this
 | cons _ _ => cases l with
  | nil => cases this
  | cons _ _ => simp
theorem ExT.qo {self name : Str} {D x d : Addr} {fs : List (Str × VP)} {p q r r' : Pos} {rest : List Stmt} (hv : (self, some (dh D x d)) ∈ σ)
  (hs : findIn G.K (.ref D) "__setattr__" = some (some (.builtin "object.__setattr__"))) (hp : plainOver G.K D = true) (ht : takerIn G.K D name = some none) (hd : hasDictIn G.K D = true) (hz : fs.length ≤ 900)
  (hr : ∀ b, ExT G k C σ ((b, aC []) :: (X₁ ++ (d, bJ (jM name (vIs (.ref b)) fs)) :: X₂)) Y rest Ψ) (hw : autoParam (swapsWith (.List [] r') (some (.Attribute (.Name self r) name q)) p.line C.env = pure false) tcR)
  (hb : autoParam ((self == ("__debug__" : Str)) = false) tcD) (hn : autoParam ((self == ("__classdict__" : Str)) = false) tcD) :
  ExT G k C σ (X₁ ++ (d, bJ fs) :: X₂) Y (.Assign [.Attribute (.Name self r) name q] (.List [] r') p :: rest) Ψ := by
 intro A s hA h
 refine wpAny_execs_cons (plainObj_wpAny_Assign_Attribute (wpAny_List_spliced (wpAny_items_nil ⟨by simp, ?_⟩)) hw)
 obtain ⟨F, m, w⟩ := h
 have h₁ : FS G ⟨C, σ, (s.heap.objs.size, aC []) :: (X₁ ++ (d, bJ fs) :: X₂), Y⟩ MP.tt ⟨s.heap.push { cls := .type "list", data := .seq ([] : List Value).toArray }, s.gens, s.drawn, s.toks, s.os⟩ :=
  ⟨F, m, w.newX (fun b o e => Heap.get?_push_of_some _ e) (by rw [Heap.size_push]; exact Z22) (Nat.le_refl _) (Heap.get?_push_size _ rfl) ⟨[], 0, rfl, .nil⟩⟩
 refine wpAny_mono (EvT.var (k := k) hv hb hn A _ Y _ _ hA h₁) (fun o s₂ h₂ => ?_) iz
 obtain ⟨F, m, w⟩ := h₂
 refine bx (w.tmp) fun _ re0 hx => ?_; subst re0
 obtain ⟨⟨o, ho, es, n, rfl, hes⟩, _⟩ := w.own (d, bJ fs) (by simp)
 refine ia w.wd.K (w.fz _ _ hx).1 ho hs hp ht hd hes.noRef (by rw [hes.length]; assumption) fun h' hb hg => ?_
 have w' : FSB G C σ (((s.heap.objs.size, aC []) :: X₁) ++ (d, bJ fs) :: X₂) Y _ s₂ F m := w
 exact hr _ A _ hA ⟨F, m, (w'.iM (P' := bJ (jM name (vIs (.ref s.heap.objs.size)) fs)) hg hb ⟨_, _, rfl, hes.put rfl rfl⟩).weak w.names (fun _ _ e => ⟨_, e, iz⟩) (List.Sublist.refl _) (List.Sublist.refl _) fun _ _ => trivial⟩
theorem ExT.uq {oe : Expr} {name : Str} {id : String} {P P' : OP} {va : VP} {a : Addr} {e : Expr} {ap p p2 : Pos} {rest : List Stmt} {pl : Sem Bool} (hM : dt G k name id P va P') (hx : EvT G k C σ oe (vIs (.ref a))) (he : EvT G k C σ e va)
  (hr : ExT G k C σ (X₁ ++ (a, P') :: X₂) Y rest Ψ)
  (hev : eval (.Call (.Attribute oe name ap) [e] [] p) C.env = (do
   let ov ← eval oe C.env
   standAt ap.atName
   let (f, first) ← holding [ov] (getMethod ov name pl)
   callWith p f first (backTo p (starEach [e] C.env)) (backToKw p (keywordEach [] C.env))) := by rfl)
  (hst : ∃ x r, backTo p (starEach [e] C.env) = (false, x) :: r := by exact ⟨_, _, rfl⟩) (hstar : autoParam (starEach [e] C.env = (false, eval e C.env) :: starEach [] C.env) tcR)
  (hplain : autoParam (((backTo p (starEach [e] C.env)).any (·.1) || (backToKw p (keywordEach [] C.env)).any (·.1.isNone)) = false) tcR)
  (hi : autoParam (interactive C.env = false) tcR) (hs : autoParam (swapsWith (.Call (.Attribute oe name ap) [e] [] p) none p2.line C.env = pure false) tcR) :
  ExT G k C σ (X₁ ++ (a, P) :: X₂) Y (.Expr (.Call (.Attribute oe name ap) [e] [] p) p2 :: rest) Ψ := by
 intro A s hA h
 refine wpAny_execs_cons (wpAny_Expr_any ?_ hi hs)
 refine methodCall_KW (pl := pl) (wpAny_mono (hx A _ Y _ s hA h) (fun o s₁ h₁ => ?_) iz) hev
 obtain rfl : o = .ref a := h₁.take fun F z => z.2
 have h₂ := h₁
 obtain ⟨F, m, w⟩ := h₂
 obtain ⟨⟨o, ho, hp⟩, _⟩ := w.own (a, P) (by simp)
 refine hM.met F o s₁ a pl hp ho _ _ ?_
 refine bH (first := [.ref a]) (kv := []) (kn := []) (fun ys zs s₂ h₂ => ?_) KpT.bi (af.cons he .nil hstar) KwT.nil rfl rfl hplain (.inr hst) hA h₁
 obtain ⟨y, rfl⟩ : ∃ y, ys = [y] := h₂.take fun F z => let ⟨y, e, _⟩ := z.1.2.one; ⟨y, e⟩
 obtain rfl : zs = [] := h₂.take fun F z => z.2.none
 refine wpAny_mono (hM.call C σ X₁ X₂ Y _ A s₂ a y hA h₂ fun F z => (by refine ag (z.1.2.one) fun y' e q => ?_; cases e; exact q)) (fun r s₃ h₃ => ?_) iz
 exact hr A s₃ hA (h₃.wk fun _ _ => trivial)
noncomputable def rF (G : Gd) (C : Cx) (v : VP) (b : Addr) (P' : OP) : Flow → Shared → Prop := fun fl s' => ∃ y σ' X' Y', (fl = .ret y ∨ (fl = .next ∧ y = .none)) ∧ FS G ⟨C, σ', (b, P') :: X', Y'⟩ (v.at y) s'
theorem oN {a b : Addr} {oc : Value} {od : Option Addr} {osl : Array (Option Value)} {fd : FuncData} {stmts : List Stmt} {pos bv : List VP} {pn : List Str} {v : VP} {P P' : OP} {σ0 : Sto} {ys : List Value}
  (hK : G.K.lookup a = some ⟨oc, od, .func fd, osl⟩) (hcd : codeIn G.K fd.code fd.qualname = true) (hbody : fd.body = .stmts stmts)
  (hg : fd.globals = mainGlobals ∧ fd.builtins = builtinsNs) (hcl : fd.closure = []) (hk : fd.scope.kind = .function) (hco : fd.scope.isCoroutine = false) (hgen : fd.scope.isGenerator = false)
  (hbind : ∀ (ys : List Value) (s : Shared), ys.length = pos.length → Wd G s → ∃ bs : List Value, BindsTo s fd ⟨ys, []⟩ (pn.zip bs) ∧ bs.length = pn.length ∧ ∀ F, Rel2 F pos ys → Rel2 F bv bs)
  (hnd : (fd.scope.names.map (·.1)).Nodup) (hpn : pn.Nodup) (hpl : ∀ x ∈ pn, fd.scope.names.lookup x = some .local) (hσn : σ0.map (·.1) = av fd.scope) (hσ : ∀ x v, (x, some v) ∈ σ0 → (x, v) ∈ pn.zip bv)
  (body : ∀ (s₀ : Shared) (F₀ : Fz), ExT G k ⟨callEnvC fd s₀.heap.objs.size a, s₀, F₀, [b], []⟩ σ0 [(b, P)] [] stmts (rF G ⟨callEnvC fd s₀.heap.objs.size a, s₀, F₀, [b], []⟩ v b P'))
  (hA : AOk (k + 1) A) (h : FS G ⟨C, σ, (b, P) :: X, Y⟩ τ s) (hrel : ∀ F, τ.p F → Rel2 F pos ys) : wpAny G.M A (PySem.call (.ref a) ys) (fun r s' => FS G ⟨C, σ, (b, P') :: X, Y⟩ (τ.and (v.at r)) s') ff s := by
 obtain ⟨F, m, w⟩ := h
 have r1 := hrel F w.tmp
 refine cx (hbind ys s r1.length w.wd) fun bs hb hlen hbr => ?_
 refine wpAny_call (codeAny_call_function hA.room (w.wd.K _ _ hK) rfl hco hgen hbody (codeRec_of w.wd.K hcd) (hb _ _ _ _ ?_))
 rw [hcl]
 refine wpAny_newFunctionEnv_cells hk (fun p hp => ?_) fun env' he s₂ x₂ => ?_
 ·obtain ⟨p1, p2⟩ := p
  exact .inl (hpl p1 (List.of_mem_zip hp).1)
 subst he
 refine ez (x₂.done) fun h' tk re0 keep => ?_; subst re0
 refine bY (w.own (b, P) (.head _)) fun nn0 hpb hFb hbL => ?_; refine ag (nn0) fun ob hob hPb => ?_
 have en := FS.gq (τ' := MP.tt) (X0 := [(b, P)]) (Y0 := []) (xa := [b]) (xg := []) (F := F) (σ0 := σ0) w.wd (fun b o e => let ⟨p, q, _⟩ := w.fz b o e; ⟨p, q⟩)
  (fun c hc => by rw [List.mem_singleton.mp hc]; exact ⟨w.dy hpb, Heap.lt_size hob⟩) (fun _ h => nomatch h)
  (fun p hp => by rw [List.mem_singleton.mp hp]; exact ⟨⟨ob, hob, hPb⟩, .head _, hFb⟩) (by simp) (fun _ h => nomatch h) List.nodup_nil hg hk hnd hpn hσn hσ (hbr F r1) hlen trivial x₂
 have hlim : Heap.NoLimit h' := w.wd.lim.keeps keep
 refine ⟨hlim, codeAny_func ?_⟩
 refine wpAny_mono (body s F _ _ (hA.deeper (env := callEnvC fd s.heap.objs.size a)) en) (fun fl s'' hp => ?_) fun _ _ z => z.elim
 obtain ⟨r, σ', X', Y', hfl, F', m', w'⟩ := hp
 have fin : FS G ⟨C, σ, (b, P') :: X, Y⟩ (τ.and (v.at r)) s'' := by
  refine bY (w'.own (b, P') (.head _)) fun nn0 pb' F'b _ => ?_; refine ag (nn0) fun o' ho' hP' => ?_
  exact ⟨F', m, FSB.k6 (Xo := [(b, P)]) (Yo := []) (X₂ := [(b, P')]) (Y₂ := []) w w' rfl rfl (fun _ h => h) (fun _ h => nomatch h)
   (fun p hp => by rw [List.mem_singleton.mp hp]; exact ⟨⟨o', ho', hP'⟩, pb', F'b⟩) (by simp) (fun _ h => nomatch h) List.nodup_nil⟩
 rcases hfl with rfl | ⟨rfl, rfl⟩
 ·exact fin
 ·exact fin
inductive uW (G : Gd) (k : Nat) (C : Cx) (σ : Sto) (t elt : Expr) (u v : VP) : Prop where
 | mk (σ' : Sto) (ha : dN G k C σ t u σ') (hw : Wk σ' σ) (he : EvT G k C σ' elt v)
inductive uK (G : Gd) (k : Nat) (C : Cx) (σ : Sto) (t elt c : Expr) (u v : VP) (b : Bool) : Prop where
 | mk (σ' : Sto) (ha : dN G k C σ t u σ') (hw : Wk σ' σ) (hc : TsT G k C σ' c b) (he : EvT G k C σ' elt v)
theorem iy.all {scope : Scope} {cl : List (Str × Addr)} {t elt : Expr} {α : Type} {xs : List α} {kv wv : α → VP} (hz : xs.length ≤ 100000)
  (h : ∀ s0 F0 xa xg, (∀ x ∈ av scope, Cx.st ⟨bZ scope cl C.env s0.heap.objs.size, s0, F0, xa, xg⟩ x) → ∀ x ∈ xs, uW G k ⟨bZ scope cl C.env s0.heap.objs.size, s0, F0, xa, xg⟩ σc t elt (kv x) (wv x)) :
  iy G k C scope cl σc t [] elt (xs.map kv) (xs.map wv) := by
 have := iy.filter (G := G) (k := k) (C := C) (σc := σc) (scope := scope) (cl := cl) (t := t) (elt := elt) (ifs := []) (xs := xs) (kv := kv) (wv := wv) (pb := fun _ => true) hz ?_
 ·rwa [List.filter_eq_self.mpr (fun _ _ => rfl)] at this
 intro C' hC x hx
 obtain ⟨env, s0, F0, xa, xg⟩ := C'
 obtain ⟨hC, hst⟩ := hC
 dsimp only at hC
 subst hC
 obtain ⟨σ', h1, h2, h3⟩ := h s0 F0 xa xg hst x hx
 exact ⟨σ', h1, .nil, h2, fun _ => h3⟩
theorem iy.sel {scope : Scope} {cl : List (Str × Addr)} {t elt c : Expr} {α : Type} {xs : List α} {kv wv : α → VP} {pb : α → Bool} (hz : xs.length ≤ 100000)
  (h : ∀ s0 F0 xa xg, (∀ x ∈ av scope, Cx.st ⟨bZ scope cl C.env s0.heap.objs.size, s0, F0, xa, xg⟩ x) → ∀ x ∈ xs, uK G k ⟨bZ scope cl C.env s0.heap.objs.size, s0, F0, xa, xg⟩ σc t elt c (kv x) (wv x) (pb x)) :
  iy G k C scope cl σc t [c] elt (xs.map kv) ((xs.filter pb).map wv) := by
 refine iy.filter (G := G) (k := k) (C := C) (σc := σc) (scope := scope) (cl := cl) (t := t) (elt := elt) (ifs := [c]) (xs := xs) (kv := kv) (wv := wv) (pb := pb) hz ?_
 intro C' hC x hx
 obtain ⟨env, s0, F0, xa, xg⟩ := C'
 obtain ⟨hC, hst⟩ := hC
 dsimp only at hC
 subst hC
 obtain ⟨σ', h1, h2, h3, h4⟩ := h s0 F0 xa xg hst x hx
 exact ⟨σ', h1, .one h3, h2, fun _ => h4⟩
theorem VP.sub {u v : VP} {e : Expr} (h : EvT G k C σ e u) (hs : ∀ F y, u.p F y → v.p F y) : EvT G k C σ e v := fun A X Y τ s hA hS =>
 wpAny_mono (h A X Y τ s hA hS) (fun y s' h' => h'.wk fun F z => ⟨z.1, hs F y z.2⟩) iz
theorem ExT.cF {elts : List Expr} {ctx : Nat} {tp p : Pos} {e : Expr} {v : VP} {rest : List Stmt} (he : EvT G k C σ e v) (ha : dN G k C σ (.Tuple elts ctx tp) v σ') (hr : ExT G k C σ' X Y rest Ψ)
  (hs : autoParam (swapsWithSole [.Tuple elts ctx tp] e p.line C.env = pure false) tcR) (hw : autoParam (swappedStores [.Tuple elts ctx tp] e C.env = pure none) tcR) :
  ExT G k C σ X Y (.Assign [.Tuple elts ctx tp] e p :: rest) Ψ := by
 intro A s hA h
 refine wpAny_execs_cons (Assign_Tuple (wpAny_mono (he A X Y _ s hA h) (fun y s₁ h₁ => ?_) iz) hs hw)
 refine wpAny_mono (ha A X Y _ s₁ y hA h₁ fun F z => z.2) (fun _ s₂ h₂ => hr A s₂ hA (h₂.wk fun _ _ => trivial)) iz
inductive jq (G : Gd) (k : Nat) (C : Cx) (σ : Sto) : List (Option Expr) → List Expr → List Str → Prop where
 | nil : jq G k C σ [] [] []
 | cons {x : Str} {kk : Nat} {kp : Pos} {e : Expr} {v : VP} {ks : List (Option Expr)} {es : List Expr} {ns : List Str} : EvT G k C σ e v → jq G k C σ ks es ns → jq G k C σ (some (.Constant (.str x) kk kp) :: ks) (e :: es) (x :: ns)
noncomputable abbrev sk (G : Gd) : KeyKind PySem.Challenge.pw_jg0001_01 G.w Str := strKind PySem.Challenge.pw_jg0001_01 G.w
theorem jq.ev {ks : List (Option Expr)} {es : List Expr} {ns : List Str} {pos : Pos} (h : jq G k C σ ks es ns) : ∀ {A : Around} {X : List (Addr × OP)} {Y : List (Nat × GP)} {τ : MP} {s : Shared}, AOk k A → FS G ⟨C, σ, X, Y⟩ τ s →
  wpAny G.M A (evalPairs (pairTrees ks es C.env pos)) (fun vs s' => (∃ kvs : List (Str × Value), Carries (sk G) vs kvs ∧ kvs.map (·.1) = ns) ∧ FS G ⟨C, σ, X, Y⟩ τ s') ff s := by
 induction h with
 | nil => intro A X Y τ s hA h; exact pairTrees_nil_walk ⟨⟨[], trivial, rfl⟩, h⟩
 | @cons x kk kp e v ks es ns he _ ih =>
  intro A X Y τ s hA h
  refine pairTrees_cons_walk ?_
  refine wpAny_mono (EvT.str (k := k) A X Y _ s hA h) (fun y s₁ h₁ => ?_) iz
  obtain ⟨t, rfl⟩ := h₁.take (P := ∃ t, y = .str x t) fun F z => z.2
  refine wpAny_mono (he A X Y _ s₁ hA h₁) (fun z s₂ h₂ => ?_) iz
  refine wpAny_mono (ih hA (h₂.wk fun F z => z.1.1)) (fun vs s₃ h₃ => ?_) iz
  obtain ⟨⟨kvs, hc, hk⟩, h₃⟩ := h₃
  exact ⟨⟨(x, z) :: kvs, ⟨strKind_is _ _ _ _, rfl, hc⟩, by rw [List.map_cons, hk]⟩, h₃⟩
theorem EvT.dict {keys : List (Option Expr)} {vals : List Expr} {ns : List Str} {pos : Pos} (h : jq G k C σ keys vals ns) (hall : autoParam (keys.all (·.isSome) = true) tcR) (hl : autoParam (keys.length = vals.length) tcR) (h0 : keys ≠ [] := by exact fun h => nomatch h) (hlen : keys.length ≤ 15 := by exact Nat.le_of_ble_eq_true rfl) :
  EvT G k C σ (.Dict keys vals pos) e9 := by
 intro A X Y τ s hA hS
 obtain ⟨F, m, w⟩ := hS
 have h₁ : FS G ⟨C, σ, (s.heap.objs.size, ⟨fun _ o => o.IsDictOf (sk G) [], fun _ x => x⟩) :: X, Y⟩ τ ⟨s.heap.push { cls := .type "dict", data := .dict #[] }, s.gens, s.drawn, s.toks, s.os⟩ :=
  ⟨F, m, w.newX (fun b o e => Heap.get?_push_of_some _ e) (by rw [Heap.size_push]; exact Z22) (Nat.le_refl _) (Heap.get?_push_size _ rfl) ⟨#[], 0, ⟨rfl, rfl, rfl⟩, rfl, (fun _ he => by simp at he), .nil, List.nodup_nil⟩⟩
 refine wpAny_Dict_walk (knd := sk G) hall hl h0 hlen (wpAny_mono (h.ev hA h₁) (fun vs s₂ h₂ => ?_) iz)
 obtain ⟨⟨kvs, hc, hk⟩, F₂, m₂, w₂⟩ := h₂
 obtain ⟨⟨o, ho, hd⟩, _⟩ := w₂.own _ (.head _)
 refine ⟨kvs, hc, Heap.dictOf_iff.mpr ⟨o, ho, hd⟩, fun h' hd' hs' => ?_⟩
 exact ⟨F₂, m₂, { w₂.iG (h' := h') (tk := s₂.toks + vs.length) (fun b o hb e => (hs'.2 b hb).trans e) (by rw [hs'.1]; exact Nat.le_refl _) with tmp := ⟨w₂.tmp, trivial⟩ }⟩
theorem EvT.ir {pos : Pos} : EvT G k C σ (.Dict [] [] pos) e9 := by
 intro A X Y τ s hA hS
 exact wpAny_Dict_empty ((hS.grow (h' := s.heap.push { cls := .type "dict", data := .dict #[] }) (fun b o e => Heap.get?_push_of_some _ e) (by rw [Heap.size_push]; exact Z22)).wk fun F z => ⟨z, trivial⟩)
inductive uR (G : Gd) (k : Nat) (C : Cx) (σ : Sto) (t elt : Expr) (u : VP) (l l' : List VP) : Prop where
 | mk (σ' : Sto) (wv : VP) (ha : dN G k C σ t u σ') (hw : Wk σ' σ) (he : EvT G k C σ' elt wv) (e : l' = l ++ [wv])
inductive uG (G : Gd) (k : Nat) (C : Cx) (σ : Sto) (t t2 iter2 elt : Expr) (v : VP) (l l' : List VP) : Prop where
 | mk (σ' : Sto) (l2 : List VP) (W2 : Nat → List VP) (ha : dN G k C σ t v σ') (hw : Wk σ' σ) (hi : dk G k k t2 C σ' iter2 (· = l2)) (e0 : W2 0 = l) (en : W2 l2.length = l') (hz : ∀ j, (W2 j).length ≤ 100000) (hf : ∀ x, foldedSetIterable iter2 C.env x = pure x) (turn : ∀ j u, l2[j]? = some u → uR G k C σ' t2 elt u (W2 j) (W2 (j + 1)))
inductive pP (G : Gd) (k : Nat) (C : Cx) (scope : Scope) (cl : List (Str × Addr)) (σc : Sto) (t t2 iter2 elt : Expr) (l res : List VP) : Prop where
 | mk (Wl : Nat → List VP) (w0 : Wl 0 = []) (wn : Wl l.length = res) (turn : ∀ C', lC C scope cl C' → ∀ i v, l[i]? = some v → uG G k C' σc t t2 iter2 elt v (Wl i) (Wl (i + 1)))
noncomputable def jJ (e iter2 : Expr) (D : Addr) (env : Env) : Sem Unit := do
 let x ← eval iter2 env
 standAt iter2.pos
 let x ← foldedSetIterable iter2 env x
 let _ ← runOwn (.compStart e 1 (← holding [x] (pyIter x)) (.ref D) env) env
theorem iw {elt t iter t2 iter2 : Expr} {scope : Scope} {pos : Pos} {it : Value} {D : Addr} {env : Env} :
  compTurn (.ListComp elt [⟨t, iter, [], 0⟩, ⟨t2, iter2, [], 0⟩] scope pos) 0 it (.ref D) env = fY iter t [] (jJ (.ListComp elt [⟨t, iter, [], 0⟩, ⟨t2, iter2, [], 0⟩] scope pos) iter2 D env) (.ListComp elt [⟨t, iter, [], 0⟩, ⟨t2, iter2, [], 0⟩] scope pos) 0 it (.ref D) env := by
 unfold compTurn fY jJ
 simp only [bind_assoc, pure_bind]
 rfl
theorem gL {elt t iter t2 iter2 : Expr} {scope : Scope} {pos : Pos} {it : Value} {D : Addr} {env : Env} :
  compTurn (.ListComp elt [⟨t, iter, [], 0⟩, ⟨t2, iter2, [], 0⟩] scope pos) 1 it (.ref D) env = fY iter2 t2 [] (do let _ ← call (.builtin "list.append") [.ref D, ← eval elt env]) (.ListComp elt [⟨t, iter, [], 0⟩, ⟨t2, iter2, [], 0⟩] scope pos) 1 it (.ref D) env := rfl
theorem gZ {elt t iter t2 iter2 : Expr} {scope : Scope} {pos : Pos} {cl : List (Str × Addr)} {Sp : List VP → Prop} {res : List VP} (hit : dk G k k t C σ iter Sp) (hs : jP C σ scope cl σc)
  (step : ∀ l, Sp l → pP G k C scope cl σc t t2 iter2 elt l res) (hA : AOk k A) (h : FS G ⟨C, σ, X, Y⟩ τ s) {use : Option (Value → Sem Unit)} {Q : Value → Shared → Prop}
  (hQ : ∀ L D s', FS G ⟨C, σ, (L, cP) :: X, Y⟩ (τ.and ((ae res).at (.ref D))) s' → compPost G.M A ff use Q (.ref D) L (.ok .next) s') (pp : Pos) (hfs : ∀ x, foldedSetIterable iter C.env x = pure x := by intro _; rfl) :
  wpAny G.M A (comprehension (.ListComp elt [⟨t, iter, [], 0⟩, ⟨t2, iter2, [], 0⟩] scope pos) scope C.env pp (newList []) false (eval iter C.env) use) Q ff s := by
 refine wpAny_comprehension_free rfl hfs hs.clos hs.kind (gj hs.names) (wpAny_mono (hit A X Y τ s hA h) (fun x s₁ h₁ => ?_) iz)
 refine wpAny_mono h₁ (fun it s₂ h₂ => ?_) iz
 obtain ⟨Sr, l, hl, W, Xf, Yf, hS, F, m, w⟩ := h₂
 obtain ⟨Wl, w0, wn, turn⟩ := step l hl
 refine wpAny_newObj_type ?_
 have h₃ : FSS G Sr 0 C σ ((s₂.heap.objs.size, aC (Wl 0)) :: X) Y τ ⟨s₂.heap.push { cls := .type "list", data := .seq ([] : List Value).toArray }, s₂.gens, s₂.drawn, s₂.toks, s₂.os⟩ := by
  have := w.newX (P := aC (Wl 0)) (tk := s₂.toks) (fun b o e => Heap.get?_push_of_some _ e) (by rw [Heap.size_push]; exact Z22) (Nat.le_refl _) (Heap.get?_push_size s₂.heap (o := { cls := .type "list", data := .seq ([] : List Value).toArray }) rfl) (by rw [w0]; exact ⟨[], 0, rfl, .nil⟩)
  exact ⟨Xf, Yf, hS, FS.perm ⟨F, m, this⟩ List.perm_middle⟩
 have hpriv : C.s₀.heap.objs.size ≤ s₂.heap.objs.size := w.kept.size
 refine gW (C := C) (σ := σ) (Y := Y) (Xs := fun i => (s₂.heap.objs.size, aC (Wl i)) :: X) (QL := fun L r s' => compPost G.M A ff use Q (.ref s₂.heap.objs.size) L r s') (t := t) (iter := iter) (ifs := []) (l := l) (Sr := Sr) hs.kind hs.names hs.nd hs.cells hs.see rfl (fun _ _ => rfl) (fun _ => rfl) (fun _ _ => rfl) (fun _ => rfl)
  (inner := jJ (.ListComp elt [⟨t, iter, [], 0⟩, ⟨t2, iter2, [], 0⟩] scope pos) iter2 s₂.heap.objs.size) (fun n => iw) W hA (fun C' e hloc i v hv => ?_) h₃ fun L s' h' => ?_
 ·obtain ⟨σ', l2, W2, t1, t2', t3, t4, t5, t6, t7, t8⟩ := turn C' ⟨e, hloc⟩ i v hv
  refine ⟨σ', true, t1, .nil, t2', fun _ Xf Yf s h => ?_, fun hb => nomatch hb⟩
  have hC' : C'.holds G [] := bb
  unfold jJ
  refine wpAny_bind (wpAny_mono (t3 A _ _ MP.tt s hA h) (fun y s₄ h₄ => ?_) iz)
  refine wpAny_bind (wpAny_standAt ?_)
  rw [t7]
  refine wpAny_bind (wpAny_pure (wpAny_bind (wpAny_holding (wpAny_mono h₄ (fun it2 s₅ h₅ => ?_) iz))))
  obtain ⟨Sr2, l2', rfl, W', h₅⟩ := h₅
  rw [← t4] at h₅
  have key : ∀ s, FSS G Sr2 0 C' σ' (Xf ++ (s₂.heap.objs.size, aC (W2 0)) :: X) (Yf ++ Y) MP.tt s → codeAny G.M (A.mark none) (.compLoop (.ListComp elt [⟨t, iter, [], 0⟩, ⟨t2, iter2, [], 0⟩] scope pos) 1 it2 (.ref s₂.heap.objs.size) C'.env) (fun r s' => r = .ok .next ∧ FS G ⟨C', σ', Xf ++ (s₂.heap.objs.size, aC (W2 l2'.length)) :: X, Yf ++ Y⟩ MP.tt s') s := fun s₆ h₆ => by
   refine fm (Xs := fun j => Xf ++ (s₂.heap.objs.size, aC (W2 j)) :: X) W' hC' hA.mark (by rfl) (by rfl) gL (fun j u hu => ?_) h₆
   obtain ⟨σ'', wv, u1, u2, u3, u4⟩ := t8 j u hu
   refine ⟨σ'', true, u1, .nil, u2, fun _ Xg Yg s h => ?_, fun hb => nomatch hb⟩
   refine wpAny_bind (wpAny_mono (u3 (A.mark none) _ _ MP.tt s hA.mark h) (fun y s₇ h₇ => ?_) iz)
   have h₇' : FS G ⟨C', σ'', (Xg ++ Xf) ++ (s₂.heap.objs.size, aC (W2 j)) :: X, Yg ++ (Yf ++ Y)⟩ (MP.tt.and (wv.at y)) s₇ := by rw [List.append_assoc]; exact h₇
   refine wpAny_bind (wpAny_mono ((dt.append (k := k) (l := W2 j) (v := wv) (t6 j)).call C' σ'' (Xg ++ Xf) X _ _ (A.mark none) s₇ s₂.heap.objs.size y hA.mark h₇' fun F z => z.2) (fun _ s₈ h₈ => ?_) iz)
   refine wpAny_pure ?_
   rw [u4]
   rw [List.append_assoc] at h₈
   exact h₈.wk fun _ _ => trivial
  refine wpAny_bind (wpAny_runOwn (codeAny_mono (eN (t := t2) W' hC' hA.mark (by rfl) (by rfl) rfl h₅ key) fun r s₆ h₆ => ?_))
  obtain ⟨rfl, h₆⟩ := h₆
  refine wpAny_pure ?_
  rw [← t5]
  exact h₆
 ·refine hQ L _ s' ?_
  obtain ⟨F', m', w'⟩ := h'
  rw [wn] at w'
  refine gK (FSB.freeze (X₁ := [(L, cP)]) w' hpriv) fun o F'' ho hF'' le w'' => ?_
  obtain ⟨ys, n, rfl, r⟩ := ho
  exact ⟨F'', m', { w'' with tmp := ⟨w''.tmp, _, ys, n, rfl, hF'', r.mono le⟩ }⟩
theorem ExT.kA {elt t iter t2 iter2 : Expr} {scope : Scope} {pos p q : Pos} {cl : List (Str × Addr)} {Sp : List VP → Prop} {res : List VP} {x : Str} {rest : List Stmt} (hit : dk G k k t C σ iter Sp) (hs : jP C σ scope cl σc)
  (step : ∀ l, Sp l → pP G k C scope cl σc t t2 iter2 elt l res) (hx : C.st x) (hu : Upd σ x (ae res) σ') (hr : ExT G k C σ' X Y rest Ψ)
  (hsw : autoParam (swapsWith (.ListComp elt [⟨t, iter, [], 0⟩, ⟨t2, iter2, [], 0⟩] scope pos) (some (.Name x q)) p.line C.env = pure true) tcR) (hfs : ∀ x, foldedSetIterable iter C.env x = pure x := by intro _; rfl) :
  ExT G k C σ X Y (.Assign [.Name x q] (.ListComp elt [⟨t, iter, [], 0⟩, ⟨t2, iter2, [], 0⟩] scope pos) p :: rest) Ψ := by
 intro A s hA h
 refine wpAny_execs_cons ?_
 rw [exec_Assign_Name_used _ _ _ _ hsw]
 refine wpAny_bind (wpAny_standAt (wpAny_bind ?_))
 show wpAny _ A (do let _ ← comprehension (.ListComp elt [⟨t, iter, [], 0⟩, ⟨t2, iter2, [], 0⟩] scope pos) scope C.env _ (PySem.newList []) false (eval iter C.env) (some (PySem.assign (Expr.Name x q) C.env))) _ _ s
 refine wpAny_bind (gZ hit hs step hA h (fun L D s' h' => ?_) _ hfs)
 refine wpAny_mono (dN.name (k := k) hx hu A _ Y _ s' (.ref D) hA h' fun F z => z.2) (fun _ s₂ h₂ => ?_) iz
 obtain ⟨F, m, w⟩ := h₂
 obtain ⟨⟨o, ho, m₂, hm₂⟩, _⟩ := w.own (L, cP) (.head _)
 refine ⟨m₂, hm₂ _ _ ho, fun h'' hs'' => wpAny_pure (wpAny_pure ?_)⟩
 refine hr A _ hA ⟨F, m, { w.iG hs''.extBut (by rw [hs''.1]; exact Nat.le_refl _) with tmp := trivial }⟩
theorem cN.qj {l1 l2 : List VP} (hz : l1.length + l2.length ≤ 1000) : cN G k .Add (aQ l1) (aQ l2) (aQ (l1 ++ l2)) := by
 intro I A τ s a b hA hs hab
 have h := hs
 obtain ⟨F, m, w⟩ := h
 obtain ⟨⟨t, ys, rfl, e1, r1⟩, b, zs, rfl, e2, r2⟩ := hab F w.tmp
 have g1 := (w.fz _ _ e1).1
 have g2 := (w.fz _ _ e2).1
 have n1 := r1.length
 have n2 := r2.length
 by_cases hv : ys = []
 ·subst hv
  cases r1
  refine concat_meets ⟨_, g1, rfl⟩ ⟨_, g2, rfl⟩ noFill_tuple_add seq_tuple_add PySem.F.slot_tuple_add PySem.F.entry_tuple_add (PySem.F.args_tuple_add_2 _ _) (tuple_addW0 t b [].toArray zs.toArray 0 0 none none #[] #[] rfl) ⟨g1, g2, ?_⟩
  exact ⟨F, m, { w with tmp := ⟨w.tmp, b, zs, rfl, e2, r2⟩ }⟩
 ·by_cases hw : zs = []
  ·subst hw
   cases r2
   refine concat_meets ⟨_, g1, rfl⟩ ⟨_, g2, rfl⟩ noFill_tuple_add seq_tuple_add PySem.F.slot_tuple_add PySem.F.entry_tuple_add (PySem.F.args_tuple_add_2 _ _) (tuple_addW1 t b ys.toArray [].toArray 0 0 none none #[] #[] (by simpa using hv) rfl) ⟨g1, g2, ?_⟩
   rw [List.append_nil]
   exact ⟨F, m, { w with tmp := ⟨w.tmp, t, ys, rfl, e1, r1⟩ }⟩
  ·refine concat_meets ⟨_, g1, rfl⟩ ⟨_, g2, rfl⟩ noFill_tuple_add seq_tuple_add PySem.F.slot_tuple_add PySem.F.entry_tuple_add (PySem.F.args_tuple_add_2 _ _) (tuple_addW2 t b ys.toArray zs.toArray 0 0 none none #[] #[] (by simpa using hv) (by simpa using hw) (by rw [List.size_toArray, List.size_toArray, sizeLine_eq]; omega)) ⟨g1, g2, ?_⟩
   have h2 : FS G I (τ.and (rl (l1 ++ l2) (ys ++ zs))) s := ⟨F, m, { w with tmp := ⟨w.tmp, r1.append r2⟩ }⟩
   refine h2.made (fun b o e => Heap.get?_push_of_some _ e) (by rw [Heap.size_push]; exact Z22) fun F F' z hle _ hn => ⟨z.1, _, ys ++ zs, rfl, hn _ _ ?_ (Nat.le_refl _), z.2⟩
   have := Heap.get?_push_size s.heap (o := { cls := .type "tuple", data := .seq (ys.toArray ++ zs.toArray) }) rfl
   rw [this]
   unfold eK
   rw [List.append_toArray]
theorem df {α β : Type} {f g : α → β} : ∀ {l : List α}, l.map f = l.map g → ∀ p ∈ l, f p = g p
 | [], _, _, h => nomatch h
 | a :: l, e, p, h => by
  rw [List.map_cons, List.map_cons, List.cons.injEq] at e
  rcases List.mem_cons.mp h with rfl | h
  ·exact e.1
  ·exact df e.2 p h
theorem lookup_mem {α : Type} {x : Str} {a : α} : ∀ {l : List (Str × α)}, l.lookup x = some a → (x, a) ∈ l
 | [], h => nomatch h
 | (y, b) :: l, h => by
  rw [List.lookup_cons] at h
  cases q : (x == y) with
  | true =>
   rw [q] at h
   cases h
   rw [eq_of_beq q]; exact .head _
  | false => rw [q] at h; exact .tail _ (lookup_mem h)
noncomputable def c7 (o : Option NameKind) : Bool := match o with | some .cell => true | some .free => true | _ => false
theorem dI {o : Option NameKind} (h : c7 o = true) : o = some .cell ∨ o = some .free := by
 unfold c7 at h
 split at h
 ·exact .inl rfl
 ·exact .inr rfl
 ·cases h
theorem j1 {cn : List Str} {cv : List VP} {x : Str} {v : VP} (h : (x, v) ∈ cn.zip cv) : ∃ i : Nat, cn[i]? = some x ∧ cv[i]? = some v := by
 obtain ⟨i, hi, e⟩ := List.mem_iff_getElem.mp h
 rw [List.getElem_zip] at e
 rw [List.length_zip] at hi
 refine ⟨i, ?_, ?_⟩
 ·rw [List.getElem?_eq_getElem (by omega)]; exact congrArg (fun p => some p.1) e
 ·rw [List.getElem?_eq_getElem (by omega)]; exact congrArg (fun p => some p.2) e
theorem jP.of {scope : Scope} {cl : List (Str × Addr)} (locs cn : List Str) (cv : List VP) (hσ : σc = locs.map (fun x => (x, none)) ++ (cn.zip cv).map (fun q => (q.1, some q.2)) := by rfl) (hl : autoParam (cn.length = cv.length) tcR)
  (hmem : autoParam (cn.map (fun x => σ.lookup x) = cv.map (fun v => some (some v))) tcR)
  (hnd : autoParam ((locs ++ cn).Nodup) tcD) (hclos : autoParam (closureFor scope C.env = pure cl) tcR) (hkind : autoParam (scope.kind = .function) tcR) (hn : autoParam ((scope.names.map (·.1)).Nodup) tcD)
  (hcl : autoParam (cl.map (fun p => C.env.cells.lookup p.1) = cl.map (fun p => some p.2)) tcR) (hin : ∀ n, cn.map (fun x => (bZ scope cl C.env n).cells.lookup x) = cn.map (fun x => C.env.cells.lookup x) := by intro _; rfl)
  (hs : autoParam (cn.all (fun x => (C.env.cells.lookup x).isSome) = true) tcR) (hk : autoParam (cn.all (fun x => c7 (C.env.kindOf x)) = true) tcR) (hk2 : ∀ n, cn.all (fun x => c7 ((bZ scope cl C.env n).kindOf x)) = true := by intro _; rfl) : jP C σ scope cl σc where
 clos := hclos
 kind := hkind
 names := hn
 nd := by
  subst hσ
  rw [List.map_append, List.map_map, List.map_map]
  have e1 : locs.map ((fun p : Str × Option VP => p.1) ∘ fun x => (x, none)) = locs := List.map_id _
  have e2 : (cn.zip cv).map ((fun p : Str × Option VP => p.1) ∘ fun q => (q.1, some q.2)) = cn := by
   show (cn.zip cv).map (fun q => q.1) = cn
   exact List.map_fst_zip Z99
  rw [e1, e2]; exact hnd
 cells := df hcl
 see := fun x v hx => by
  subst hσ
  rcases List.mem_append.mp hx with h | h
  ·refine ag (List.mem_map.mp h) fun y _ e => ?_; cases e
  ·refine ag (List.mem_map.mp h) fun nn0 hy e => ?_; obtain ⟨y, u⟩ := nn0
   obtain ⟨rfl, rfl⟩ : y = x ∧ u = v := ⟨congrArg Prod.fst e, Option.some.inj (congrArg Prod.snd e)⟩
   refine ag (j1 hy) fun i h1 h2 => ?_
   have hxm := List.mem_of_getElem? h1
   have e1 : σ.lookup y = some (some u) := by
    have := congrArg (fun l => l[i]?) hmem
    simp only [List.getElem?_map, h1, h2, Option.map_some, Option.some.injEq] at this
    exact this
   obtain ⟨c, hc⟩ := Option.isSome_iff_exists.mp (List.all_eq_true.mp hs y hxm)
   exact ⟨lookup_mem e1, c, hc, fun n => (df (hin n) y hxm).trans hc, dI (List.all_eq_true.mp hk y hxm), fun n => dI (List.all_eq_true.mp (hk2 n) y hxm)⟩
theorem EvT.d7 {es : List Expr} {vl : List VP} {ctx : Nat} {p : Pos} (ha : af G k C σ p es vl) (hz : vl.length ≤ 100 := by exact Nat.le_of_ble_eq_true rfl) : EvT G k C σ (.Tuple es ctx p) (aQ vl) := .tup ha hz
theorem EvT.nE {es : List Expr} {vl : List VP} {p : Pos} (ha : af G k C σ p es vl) (hz : vl.length ≤ 100 := by exact Nat.le_of_ble_eq_true rfl) : EvT G k C σ (.List es p) (ae vl) := .list ha hz
theorem qe.of {scope : Scope} {cl : List (Str × Addr)} (locs cn : List Str) (cv : List VP) (hσ : σc = locs.map (fun x => (x, none)) ++ (cn.zip cv).map (fun q => (q.1, some q.2))) (hcode : ∃ c P, C.env.code = .ref c ∧ (c, P) ∈ G.tabs) (hl : autoParam (cn.length = cv.length) tcR)
  (hmem : autoParam (cn.map (fun x => σ.lookup x) = cv.map (fun v => some (some v))) tcR)
  (hnd : autoParam ((locs ++ cn).Nodup) tcD) (hclos : autoParam (closureFor scope C.env = pure cl) tcR) (hkind : autoParam (scope.kind = .function) tcR) (hco : autoParam (scope.isCoroutine = false) tcR) (hn : autoParam ((scope.names.map (·.1)).Nodup) tcD) (hnc : autoParam (∀ y ∈ scope.names, y.2 ≠ .cell) tcD) (hdot : autoParam (scope.names.lookup (".0" : Str) = some NameKind.local) tcR)
  (hcl : autoParam (cl.map (fun p => C.env.cells.lookup p.1) = cl.map (fun p => some p.2)) tcR) (hcl2 : autoParam (cl.map (fun p => cl.lookup p.1) = cl.map (fun p => some p.2)) tcR) (hcr : autoParam (cl.map (·.1) = cn.reverse) tcR)
  (hk : autoParam (cn.all (fun x => c7 (C.env.kindOf x)) = true) tcR) (hk2 : autoParam (cn.all (fun x => match scope.names.lookup x with | some .free => true | _ => false) = true) tcR) : qe G C σ scope cl σc where
 clos := hclos
 kind := hkind
 co := hco
 names := hn
 nocell := hnc
 dot := hdot
 nd := by
  subst hσ
  rw [List.map_append, List.map_map, List.map_map]
  have e1 : locs.map ((fun p : Str × Option VP => p.1) ∘ fun x => (x, none)) = locs := List.map_id _
  have e2 : (cn.zip cv).map ((fun p : Str × Option VP => p.1) ∘ fun q => (q.1, some q.2)) = cn := by
   show (cn.zip cv).map (fun q => q.1) = cn
   exact List.map_fst_zip Z99
  rw [e1, e2]; exact hnd
 cells := fun p hp => by
  have hx : p.1 ∈ cn := List.mem_reverse.mp (hcr ▸ List.mem_map_of_mem hp)
  refine ⟨df hcl p hp, df hcl2 p hp, dI (List.all_eq_true.mp hk _ hx), ?_, ?_⟩
  ·have := List.all_eq_true.mp hk2 _ hx
   split at this
   ·assumption
   ·cases this
  ·obtain ⟨i, hi⟩ := List.getElem?_of_mem hx
   have hlt : i < cv.length := by have := (List.getElem?_eq_some_iff.mp hi).1; exact Z98
   refine ⟨cv[i], ?_⟩
   subst hσ
   refine List.mem_append_right _ (List.mem_map.mpr ⟨(p.1, cv[i]), List.mem_iff_getElem?.mpr ⟨i, ?_⟩, rfl⟩)
   rw [List.getElem?_zip_eq_some]
   exact ⟨hi, List.getElem?_eq_getElem hlt⟩
 see := fun x v hx => by
  subst hσ
  rcases List.mem_append.mp hx with h | h
  ·refine ag (List.mem_map.mp h) fun y _ e => ?_; cases e
  ·refine ag (List.mem_map.mp h) fun nn0 hy e => ?_; obtain ⟨y, u⟩ := nn0
   obtain ⟨rfl, rfl⟩ : y = x ∧ u = v := ⟨congrArg Prod.fst e, Option.some.inj (congrArg Prod.snd e)⟩
   refine ag (j1 hy) fun i h1 h2 => ?_
   have hxm := List.mem_of_getElem? h1
   have e1 : σ.lookup y = some (some u) := by
    have := congrArg (fun l => l[i]?) hmem
    simp only [List.getElem?_map, h1, h2, Option.map_some, Option.some.injEq] at this
    exact this
   refine ag (List.mem_map.mp (hcr ▸ List.mem_reverse.mpr hxm : y ∈ cl.map (·.1))) fun p hp e => ?_
   exact ⟨lookup_mem e1, p.2, by rw [← e]; exact hp⟩
 code := hcode
theorem cg {α : Type} {f : α → Bool} {xs : List α} {i : Nat} {x : α} (h : xs[i]? = some x) (hf : f x = true) : xs.any f = true := List.any_eq_true.mpr ⟨x, List.mem_of_getElem? h, hf⟩
theorem aV {α : Type} {f : α → Bool} {xs : List α} {i : Nat} {x : α} (h : xs[i]? = some x) (hp : (xs.take i).any f = false) (hf : f x = false) : (xs.take (i + 1)).any f = false := by
 rw [List.take_add_one, h, List.any_append, hp]; simp [hf]
theorem aF {f : Nat → Bool} {n i : Nat} (h : i < n) (hf : f i = true) : (List.range n).any f = true := List.any_eq_true.mpr ⟨i, List.mem_range.mpr h, hf⟩
theorem aA {f : Nat → Bool} {i : Nat} (hp : (List.range i).any f = false) (hf : f i = false) : (List.range (i + 1)).any f = false := by
 rw [List.range_succ, List.any_append, hp]; simp [hf]
theorem eV {n i : Nat} {f : Nat → VP} {v : VP} (h : ((List.range n).map f)[i]? = some v) : i < n ∧ v = f i := by
 rw [List.getElem?_map] at h
 refine ag (Option.map_eq_some_iff.mp h) fun j hj re0 => ?_; subst re0
 obtain ⟨h1, h2⟩ := List.getElem?_eq_some_iff.mp hj
 rw [List.getElem_range] at h2
 subst h2
 exact ⟨by simpa using h1, rfl⟩
theorem cZ {α : Type} {xs : List α} {f : α → VP} {i : Nat} {v : VP} (h : (xs.map f)[i]? = some v) : ∃ x, xs[i]? = some x ∧ v = f x := by
 rw [List.getElem?_map] at h
 refine ag (Option.map_eq_some_iff.mp h) fun j hj re0 => ?_; subst re0
 exact ⟨j, hj, rfl⟩
theorem ExT.aW {P : Prop} (hp : P) (hw : Wk σ σ₁) (es : σ₁ = σ') (hX : X = X') : ExT G k C σ X Y [] (LpT G C P σ' X' Y Ψ) := by
 subst es hX
 exact .next hp hw
theorem ExT.pO {P : Prop} (hp : P) (hw : Wk σ σ₁) (es : σ₁ = σ') (hX : X₁.Sublist X) (ex : X₁ = X') : ExT G k C σ X Y [] (LpT G C P σ' X' Y Ψ) := by
 subst es ex
 exact .pT hp hw hX
theorem aw.qu {l : List VP} (hz : l.length < 2 ^ 62) : aw G k (.builtin "len") [aQ l] [] [] (vInt l.length) := by
 intro I A τ s ys zs hA hS hr
 have h := hS
 obtain ⟨F, m, w⟩ := h
 obtain ⟨⟨y, rfl, a, its, rfl, e, r⟩, rfl⟩ := (⟨(hr F w.tmp).1.one, (hr F w.tmp).2.none⟩ : _ ∧ _)
 have hl := r.length
 refine P.len_tuple (items := its.toArray) (n := 0) (w.fz _ _ e).1 (by simp; omega) ?_
 exact hS.toks.wk fun F z => ⟨z, s.toks + 1, by simp [hl]⟩
theorem ExT.nList {x : Str} {p q r : Pos} {rest : List Stmt} {σn : Addr → Sto} (hx : C.st x) (hu : ∀ a, Upd σ x (vIs (.ref a)) (σn a)) (hr : ∀ a, ExT G k C (σn a) ((a, aC []) :: X) Y rest Ψ) : ExT G k C σ X Y (.Assign [.Name x q] (.List [] r) p :: rest) Ψ := by
 intro A s hA h
 refine wpAny_execs_cons (wpAny_Assign_Name (wpAny_List_spliced (wpAny_items_nil ⟨by simp, ?_⟩)) rfl)
 obtain ⟨F, m, w⟩ := h
 have h₁ : FS G ⟨C, σ, (s.heap.objs.size, aC []) :: X, Y⟩ MP.tt ⟨s.heap.push { cls := .type "list", data := .seq ([] : List Value).toArray }, s.gens, s.drawn, s.toks, s.os⟩ :=
  ⟨F, m, w.newX (fun b o e => Heap.get?_push_of_some _ e) (by rw [Heap.size_push]; exact Z22) (Nat.le_refl _) (Heap.get?_push_size _ rfl) ⟨[], 0, rfl, .nil⟩⟩
 exact bL h₁ hx (v := vIs (.ref s.heap.objs.size)) (fun _ _ => rfl) (hu _) fun s' h' => hr _ A s' hA (h'.wk fun _ _ => trivial)
theorem ExT.qv {x : Str} {p q r p2 : Pos} {rest : List Stmt} {σn : Addr → Sto} (hx : C.st x) (hs : EvT G k C σ (.Name "set" r) (vIs (.type "set"))) (hu : ∀ a, Upd σ x (vIs (.ref a)) (σn a)) (hr : ∀ a, ExT G k C (σn a) ((a, bt G fun _ => false) :: X) Y rest Ψ)
  (hplain : autoParam (((backTo p2 (starEach [] C.env)).any (·.1) || (backToKw p2 (keywordEach [] C.env)).any (·.1.isNone)) = false) tcR) : ExT G k C σ X Y (.Assign [.Name x q] (.Call (.Name "set" r) [] [] p2) p :: rest) Ψ := by
 intro A s hA h
 refine wpAny_execs_cons (wpAny_Assign_Name ?_ rfl)
 refine wpAny_Call_Name_kw (wpAny_mono (hs A X Y _ s hA h) (fun y s₁ h₁ => ?_) iz)
 obtain rfl : y = .type "set" := h₁.take fun F z => z.2
 refine bH (first := []) (pos := []) (kv := []) (kn := []) (fun ys zs s₂ h₂ => ?_) KpT.ty af.nil KwT.nil rfl rfl hplain (.inl ⟨rfl, rfl⟩) hA h₁
 obtain rfl : ys = [] := h₂.take fun F z => z.1.2.none
 obtain rfl : zs = [] := h₂.take fun F z => z.2.none
 refine ip ?_
 obtain ⟨F, m, w⟩ := h₂
 have h₃ : FS G ⟨C, σ, (s₂.heap.objs.size, bt G fun _ => false) :: X, Y⟩ MP.tt ⟨s₂.heap.push (aD G.w), s₂.gens, s₂.drawn, s₂.toks, s₂.os⟩ :=
  ⟨F, m, { w.newX (fun b o e => Heap.get?_push_of_some _ e) (by rw [Heap.size_push]; exact Z22) (Nat.le_refl _) (Heap.get?_push_size _ rfl) bF with tmp := trivial }⟩
 exact bL h₃ hx (v := vIs (.ref s₂.heap.objs.size)) (fun _ _ => rfl) (hu _) fun s' h' => hr _ A s' hA (h'.wk fun _ _ => trivial)
theorem ExT.js {P : Prop} {p : Pos} {rest rest' : List Stmt} (hp : P) (hw : Wk σ σ₁) (es : σ₁ = σ') (hX : X₁.Sublist X) (ex : X₁ = X') : ExT G k C σ X Y (.Continue p :: rest) (Th G k C rest' (LpT G C P σ' X' Y Ψ)) := by
 subst es ex
 exact fun _ _ _ h => wpAny_execs_cons (wpAny_Continue (show LpT G C P σ₁ X₁ Y Ψ .cont _ from ⟨hp, h.less hw hX (List.Sublist.refl _)⟩))
theorem ExT.qN {a : Addr} {P : OP} {x : Str} {v : VP} {ss : List Stmt} (hX : X = X₁ ++ (a, P) :: X₂) (hxa : C.xa = []) (hx : (x, some (vIs (.ref a))) ∈ σ) (hu : Upd σ x v σ') (hv : ∀ (F : Fz) o, F a = some o → P.p F o → v.p F (.ref a)) (hr : ExT G k C σ' (X₁ ++ X₂) Y ss Ψ) : ExT G k C σ X Y ss Ψ := by
 subst hX
 exact .frz hxa hx hu hv hr
theorem lJ {a : Addr} {l l' : List VP} {f : Array Value → Array Value} (h : FS G ⟨C, σ, X₁ ++ (a, aC l) :: X, Y⟩ τ s) (hl : l.length ≤ 100000) (hl' : l'.length ≤ 100000) (hf : ∀ F ys, τ.p F → Rel2 F l ys → Rel2 F l' (f ys.toArray).toList) {Q : Unit → Shared → Prop}
  (hQ : ∀ s', FS G ⟨C, σ, X₁ ++ (a, aC l') :: X, Y⟩ τ s' → Q () s') : wpAny G.M A (updateSeq a f) Q ff s := by
 obtain ⟨F, m, w⟩ := h
 obtain ⟨⟨o, ho, ys, n, rfl, r⟩, _⟩ := w.own (a, aC l) (by simp)
 have r' := hf F ys w.tmp r
 have z1 := r.length
 have z2 := r'.length
 have hg := get?_update_seq (c := "list") ho f
 refine wpAny_updateSeq ho rfl (hQ _ ⟨F, m, FSB.iM (X₂ := X) (P' := aC l') w hg (Heap.SameBut.update ..) ⟨(f ys.toArray).toList, _, rfl, r'⟩⟩) (by simp; rw [sizeLine_eq]; exact Z19) (by rw [← Array.length_toList]; rw [sizeLine_eq]; exact Z19)
theorem pC {it res : Value} {Src : Src} {H : gM} {a : Addr} {p : Pos} {x : Str} {l : List VP} (W : aM G k (.Name x p) it Src H l) (hA : AOk (k + 1) A) (hC : C.holds G H) (hz : l.length ≤ 1000) : ∀ (n i : Nat) (s : Shared), l.length - i = n → i ≤ l.length → FSS G Src i C σ ((a, aC (l.take i)) :: X) Y τ s →
  codeAny G.M A (.builtin "list.extend.loop" ⟨[.ref a, it, res], []⟩) (fun r s' => r = .ok (.ret res) ∧ FS G ⟨C, σ, (a, aC l) :: X, Y⟩ τ s') s := by
 intro n
 induction n with
 | zero =>
  intro i s hd hi h
  refine codeAny_builtin PySem.F.entry_extend_loop ?_
  rw [Around.under_plainId PySem.F.plain_extend_loop _]
  show wpAny _ A.in1 (pyNext it >>= _) _ _ s
  obtain rfl : i = l.length := Z88
  refine wpAny_bind (up (wpAny_mono (W.done C σ _ Y τ A.in1 s hA.in1 hC h) (fun r s' h' => ?_) iz))
  obtain ⟨rfl, h'⟩ := h'
  rw [List.take_length] at h'
  exact wpAny_pure ⟨rfl, h'⟩
 | succ n ih =>
  intro i s hd hi h
  refine codeAny_builtin PySem.F.entry_extend_loop ?_
  rw [Around.under_plainId PySem.F.plain_extend_loop _]
  show wpAny _ A.in1 (pyNext it >>= _) _ _ s
  have hlt : i < l.length := Z89
  have hl : l[i]? = some l[i] := List.getElem?_eq_getElem hlt
  refine wpAny_bind (up (wpAny_mono (W.item C σ _ Y τ A.in1 s i _ hA.in1 hC hl h) (fun r s' h' => ?_) iz))
  obtain ⟨y, rfl, h'⟩ := h'
  refine fZ (up (wpAny_mono (show wpAny G.M A.in1 (pure () : Sem Unit) _ ff s' from h') (fun _ s' h' => ?_) iz))
  show wpAny _ A.in1 (updateSeq a (·.push y) >>= _) _ _ s'
  obtain ⟨Xf, Yf, hS, h'⟩ := h'
  have z1 : (l.take i).length ≤ 100000 := by rw [List.length_take]; exact Z67
  have z2 : (l.take (i + 1)).length ≤ 100000 := by rw [List.length_take]; exact Z67
  refine wpAny_bind (up (lJ (l' := l.take (i + 1)) h' z1 z2 (fun F ys z r => ?_) fun s'' h'' => ?_))
  ·rw [List.take_add_one, hl]
   simpa using r.append (.cons z.2 .nil)
  refine wpAny_pure ⟨plainId_quiet PySem.F.plain_extend_loop _, ?_⟩
  exact ih (i + 1) s'' Z87 Z29 ⟨Xf, Yf, hS, h''.wk fun F z => z.1⟩
theorem oO {b : Addr} {Q : Bool → Shared → Prop} (hT : s.TypeIs (.ref b) "set") (h : Q false s) : wpAny G.M A (Builtin.List.listLengthHint (.ref b)) Q ff s := by
 unfold Builtin.List.listLengthHint
 refine wpAny_bind (wpAny_specialOf hT PySem.F.slot_set_len.lookup ?_)
 generalize hid : ("set.__len__" : String) = id0
 wp_delta
 rw [show splitId id0 = some ("set", "__len__") from by subst hid; decide +kernel]
 subst hid
 refine wpAny_bind (wpAny_isInstance (T := "set") (b := true) hT (by rw [isSubtype_type]; kernel_rfl) ?_)
 refine wpAny_ite_split (fun hab => absurd hab (by decide)) (fun _ => ?_)
 refine wpAny_ite_split (fun _ => ?_) (fun hab => absurd (by decide +kernel) hab)
 refine wpAny_bind (wpAny_typeOf hT ?_)
 exact wpAny_pure h
theorem lV {S : Nat → Bool} {y : Value} {Q : List Value → Shared → Prop} (hA : AOk 5 A) (h : FS G ⟨C, σ, X, Y⟩ τ s) (hy : ∀ F, τ.p F → (ar G S).p F y)
  (hQ : ∀ ys s', (∃ p : List Nat, p.Perm (elems S) ∧ FS G ⟨C, σ, X, Y⟩ (τ.and (rl (p.map fun (n : Nat) => vInt n) ys)) s') → Q ys s') : wpAny G.M A (collect y) Q ff s := by
 have h₀ := h
 obtain ⟨F, m, w⟩ := h
 obtain ⟨b, o, rfl, hb, hs⟩ := hy F w.tmp
 unfold collect
 refine wpAny_bind (wpAny_runValue (codeAny_builtin PySem.F.entry_proto_collect ?_))
 rw [Around.under_plainId PySem.F.plain_proto_collect _]
 show wpAny _ A.in1 (newList [] >>= fun l => again (.builtin "list.__iadd__" ⟨[l, .ref b], []⟩)) _ _ s
 refine wpAny_bind (wpAny_newObj_type ?_)
 refine wpAny_pure ⟨plainId_quiet PySem.F.plain_list_iadd _, codeAny_builtin PySem.F.entry_list_iadd ?_⟩
 rw [Around.under_plainId PySem.F.plain_list_iadd _]
 have w1 : FSB G C σ ((s.heap.objs.size, aC []) :: X) Y τ ⟨s.heap.push { cls := .type "list", data := .seq ([] : List Value).toArray }, s.gens, s.drawn, s.toks, s.os⟩ F m :=
  w.newX (fun b o e => Heap.get?_push_of_some _ e) (by rw [Heap.size_push]; exact Z22) (Nat.le_refl _) (Heap.get?_push_size _ rfl) ⟨[], 0, rfl, .nil⟩
 have hT : Shared.TypeIs ⟨s.heap.push { cls := .type "list", data := .seq ([] : List Value).toArray }, s.gens, s.drawn, s.toks, s.os⟩ (.ref b) "set" := hs.typeIs (w1.fz _ _ hb).1
 have hne : b ≠ s.heap.objs.size := Nat.ne_of_lt (Heap.lt_size (w.fz _ _ hb).1)
 show wpAny _ A.in1 (Builtin.List.listExtendWith (.ref s.heap.objs.size) (.ref b) (.ref s.heap.objs.size)) _ _ _
 unfold Builtin.List.listExtendWith
 refine wpAny_bind (wpAny_typeOf hT ?_)
 have e1 : Builtin.List.listSameRef (.ref s.heap.objs.size) (.ref b) = false := by simp [Builtin.List.listSameRef, Ne.symm hne]
 have e2 : (Value.type "set" == Value.type "list") = false := by decide
 have e3 : (Value.type "set" == Value.type "tuple") = false := by decide
 simp only [e1, e2, e3, Bool.or_false, Bool.false_eq_true, if_false]
 refine wpAny_bind (up (wpAny_mono (dd.set (k := 2) (S := S) (t := .Name "x" ⟨0, 0, 0, 0⟩) C σ _ Y τ A.in1 _ (.ref b) (hA.in1.le (by decide)) ⟨F, m, w1⟩ fun F z => ?_) (fun it s₂ h₂ => ?_) iz))
 ·exact hy F z
 obtain ⟨Sr, l, ⟨p, hp, rfl⟩, W, Xf, Yf, hS, h₂⟩ := h₂
 have hT₂ : s₂.TypeIs (.ref b) "set" := by
  obtain ⟨F₂, m₂, w₂⟩ := h₂
  obtain ⟨b', o', e, hb', hs'⟩ := hy F₂ w₂.tmp
  cases e
  exact hs'.typeIs (w₂.fz _ _ hb').1
 have hpl : p.length ≤ 4 := by rw [hp.length_eq]; exact ax S
 have fin : ∀ s₃, FS G ⟨C, σ, Xf ++ (s.heap.objs.size, aC []) :: X, Yf ++ Y⟩ τ s₃ → codeAny G.M A (.builtin "list.extend.loop" ⟨[.ref s.heap.objs.size, it, .ref s.heap.objs.size], []⟩) (fun r s' => r = .ok (.ret (.ref s.heap.objs.size)) ∧ FS G ⟨C, σ, (s.heap.objs.size, aC (p.map fun (n : Nat) => vInt n)) :: X, Y⟩ τ s') s₃ := fun s₃ h₃ =>
  pC W (hA.le (by decide)) bb (by simp; exact Z1) _ 0 s₃ rfl (Nat.zero_le _) ⟨Xf, Yf, hS, h₃⟩
 have cont : ∀ s₃, FS G ⟨C, σ, (s.heap.objs.size, aC (p.map fun (n : Nat) => vInt n)) :: X, Y⟩ τ s₃ → wpAny G.M A (do
   let o ← load s.heap.objs.size
   match o.data with
   | .seq xs _ => pure xs.toList
   | _ => unsupported "internal:collect") Q ff s₃ := fun s₃ ⟨F₃, m₃, w₃⟩ => by
  obtain ⟨⟨o₃, ho₃, ys, n, rfl, r⟩, _⟩ := w₃.own _ (.head _)
  refine wpAny_bind (wpAny_load ho₃ ?_)
  refine wpAny_pure (hQ _ _ ⟨p, hp, F₃, m₃, ?_⟩)
  exact { w₃.weak (σ' := σ) w₃.names (fun x v e => ⟨v, e, iz⟩) (List.sublist_cons_self _ _) (List.Sublist.refl _) (fun F z => z) with tmp := ⟨w₃.tmp, r⟩ }
 refine wpAny_bind (wpAny_holding (up (oO hT₂ ?_)))
 refine wpAny_ite_split (fun _ => ?_) (fun _ => wpAny_pure ⟨plainId_quiet PySem.F.plain_extend_loop _, codeAny_mono (fin _ h₂) fun r s₃ h₃ => ?_⟩)
 ·refine wpAny_bind (wpAny_rule ?_)
  refine wpAny_bind ?_
  show wpAny _ _ (updateSeq s.heap.objs.size (·.push .none) >>= fun _ => updateSeq s.heap.objs.size (·.pop)) _ _ _
  refine wpAny_bind (up (lJ (l' := [vIs .none]) h₂ (by simp) (by simp) (fun F ys z r => ?_) fun s₃ h₃ => ?_))
  ·cases r
   exact .cons rfl .nil
  refine up (lJ (l' := []) h₃ (by simp) (by simp) (fun F ys z r => ?_) fun s₄ h₄ => ?_)
  ·refine ag (r.one) fun y re0 _ => ?_; subst re0
   exact .nil
  refine wpAny_pure ⟨plainId_quiet PySem.F.plain_extend_loop _, codeAny_mono (fin _ h₄) fun r s₅ h₅ => ?_⟩
  obtain ⟨rfl, h₅⟩ := h₅
  exact cont _ h₅
 ·obtain ⟨rfl, h₃⟩ := h₃
  exact cont _ h₃
theorem jV {F : Fz} : ∀ {p : List Nat} {ys : List Value}, Rel2 F (p.map fun (n : Nat) => vInt n) ys → IntsAre ys (p.map fun (n : Nat) => (n : Int))
 | [], ys, r => by cases r; exact .nil
 | n :: p, ys, r => by
  cases r with
  | cons a r =>
   obtain ⟨t, rfl⟩ := a
   exact .cons _ _ (jV r)
theorem kM {F : Fz} : ∀ {p : List Nat} {ys : List Value}, IntsAre ys (p.map fun (n : Nat) => (n : Int)) → Rel2 F (p.map fun (n : Nat) => vInt n) ys
 | [], ys, r => by cases r; exact .nil
 | n :: p, ys, r => by
  cases r with
  | cons _ t r => exact .cons ⟨t, rfl⟩ (kM r)
theorem ju (S : Nat → Bool) : ((elems S).map fun (n : Nat) => (n : Int)).Pairwise (· ≤ ·) := by
 unfold elems
 rw [List.pairwise_map]
 refine List.Pairwise.imp (R := (· < ·)) (fun h => by omega) (List.Pairwise.filter _ List.pairwise_lt_range)
theorem aw.i6 {S : Nat → Bool} : aw G 6 (.builtin "sorted") [ar G S] [] [] (ae ((elems S).map fun (n : Nat) => vInt n)) := by
 intro I A τ s ys zs hA hS hr
 have h := hS
 obtain ⟨F, m, w⟩ := h
 obtain ⟨⟨y, rfl, hy⟩, rfl⟩ := (⟨(hr F w.tmp).1.one, (hr F w.tmp).2.none⟩ : _ ∧ _)
 refine Calls.call_function_entry kind_sorted plain_sorted entry_sorted (args_sorted1 _) ?_
 unfold Builtin.«sorted»
 refine wpAny_bind (m := checkCount "sorted" 1 1 _) (wpAny_pure ?_)
 refine wpAny_bind (up (lV (S := S) (y := y) (C := I.C) (σ := I.σ) (X := I.X) (Y := I.Y) hA.in1 hS (fun F z => (hr F z).1.one.elim fun y' q => by cases q.1; exact q.2) fun vs s₂ h₂ => ?_))
 refine ag (h₂) fun p hp h₂ => ?_
 have hpl : p.length ≤ 4 := by rw [hp.length_eq]; exact ax S
 obtain ⟨hI, hl⟩ := h₂.take (P := IntsAre vs (p.map fun (n : Nat) => (n : Int)) ∧ vs.length ≤ 4) fun F z => ⟨jV z.2, by have := z.2.length; rw [List.length_map] at this; exact Z19⟩
 refine wpAny_bind (wpAny_newList ?_ (by rw [sizeLine_eq]; exact Z1))
 have hoL : (s₂.heap.push (seqObj "list" vs.toArray 0)).get? s₂.heap.objs.size = some (seqObj "list" vs.toArray 0) := Heap.get?_push_size _ rfl
 refine wpAny_bind (wpAny_holding (wpAny_call_entry (s := { s₂ with heap := s₂.heap.push (seqObj "list" vs.toArray 0) }) slot_list_sort ⟨_, hoL, rfl⟩ entry_list_sort (list_sort_tree hoL hI Z2 fun out ns' a1 a2 a3 => ⟨_, rfl, ?_⟩) (args_list_sort _)))
 refine wpAny_pure ⟨_, rfl, ?_⟩
 have e : ns' = (elems S).map fun (n : Nat) => (n : Int) := List.Perm.eq_of_pairwise (fun a b _ _ h1 h2 => Int.le_antisymm h1 h2) a3 (ju S) (a2.trans (hp.map _))
 subst e
 obtain ⟨ep, he⟩ := sortedHeap_at (vs := vs) (out := out) hoL
 refine (FS.fresh (v := ae ((elems S).map fun (n : Nat) => vInt n)) h₂ (h' := sortedHeap (s₂.heap.push (seqObj "list" vs.toArray 0)) s₂.heap.objs.size vs out) (tk := s₂.toks) (fun b o hb => ?_) ?_ he fun F hF => ⟨_, out.toList, ep, rfl, hF, kM a1⟩).wk fun F z => ⟨z.1.1, z.2⟩
 ·have hlt := Heap.lt_size hb
  rw [sortedHeap_old (Nat.ne_of_lt hlt) (by rw [size_push']; exact Nat.lt_succ_of_lt hlt)]
  exact Heap.get?_push_of_some _ hb
 ·exact Nat.le_of_lt (Heap.lt_size he)
noncomputable abbrev ik (G : Gd) : KeyKind PySem.Challenge.pw_jg0001_01 G.w Int := intKind PySem.Challenge.pw_jg0001_01 G.w
inductive nq (G : Gd) (kvs : List (Int × VP)) (F : Fz) (o : Obj) : Prop
 | mk (ys : List Value) (a : o.IsDictOf (ik G) ((kvs.map Prod.fst).zip ys)) (r : Rel2 F (kvs.map Prod.snd) ys) : nq G kvs F o
noncomputable def ba (G : Gd) (kvs : List (Int × VP)) : OP := ⟨nq G kvs, fun h ⟨ys, a, r⟩ => ⟨ys, a, r.mono h⟩⟩
inductive nF (G : Gd) (kvs : List (Int × VP)) (F : Fz) (y : Value) : Prop
 | mk (a : Addr) (o : Obj) (e : y = .ref a) (x : F a = some o) (n : (a == sysModules) = false) (r : (ba G kvs).p F o) : nF G kvs F y
noncomputable def eB (G : Gd) (kvs : List (Int × VP)) : VP := ⟨nF G kvs, fun h ⟨a, o, e, x, n, r⟩ => ⟨a, o, e, h _ _ x, n, (ba G kvs).mono h r⟩⟩
theorem Gd.lG (G : Gd) {a : Addr} (h : G.H0.objs.size ≤ a) : (a == sysModules) = false := by
 have h1 : cStatics < G.H0.objs.size := G.klow _ _ G.kst
 refine beq_eq_false_iff_ne.mpr fun e => ?_
 subst e
 exact absurd (Nat.lt_of_lt_of_le h1 h) (by decide)
theorem dw {K : Type} [DecidableEq K] : ∀ {kvs : List (K × Value)} {k : K} {y : Value}, (kvs.map (·.1)).Nodup → (k, y) ∈ kvs → valueAt kvs k = some y
 | [], _, _, _, h => nomatch h
 | (k', y') :: r, k, y, hn, h => by
  rw [List.map_cons, List.nodup_cons] at hn
  unfold valueAt
  rw [List.find?_cons]
  rcases List.mem_cons.mp h with e | h
  ·cases e; simp
  ·have hne : k' ≠ k := fun e => hn.1 (e ▸ List.mem_map_of_mem (f := (·.1)) h)
   simp only [hne, decide_false]
   exact dw hn.2 h
theorem cV {K : Type} [DecidableEq K] : ∀ {kvs : List (K × Value)} {k : K}, k ∉ kvs.map (·.1) → valueAt kvs k = none
 | [], _, _ => rfl
 | (k', y') :: r, k, h => by
  rw [List.map_cons, List.mem_cons, not_or] at h
  unfold valueAt
  rw [List.find?_cons]
  have hne : k' ≠ k := fun e => h.1 e.symm
  simp only [hne, decide_false]
  exact cV h.2
theorem jB {kvs : List (Int × VP)} {ys : List Value} (h : ys.length = kvs.length) : ((kvs.map (·.1)).zip ys).map (·.1) = kvs.map (·.1) := List.map_fst_zip (by simp; exact pZ)
theorem qs {a : Addr} {kvs : List (Int × VP)} {i : Int} {v : VP} {key y : Value} {Q : Unit → Shared → Prop} (h : FS G ⟨C, σ, X₁ ++ (a, ba G kvs) :: X, Y⟩ τ s) (hi : i ∉ kvs.map (·.1)) (hz : kvs.length ≤ 100000) (hk : ∀ F, τ.p F → (vInt i).p F key ∧ v.p F y)
  (hQ : ∀ s', FS G ⟨C, σ, X₁ ++ (a, ba G (kvs ++ [(i, v)])) :: X, Y⟩ τ s' → Q () s') : wpAny G.M A (dictSet a key y) Q ff s := by
 obtain ⟨F, m, w⟩ := h
 obtain ⟨⟨o, ho, ys, hd, r⟩, _⟩ := w.own (a, ba G kvs) (by simp)
 obtain ⟨⟨t, rfl⟩, hv⟩ := hk F w.tmp
 have hl : ys.length = kvs.length := by have := r.length; rwa [List.length_map] at this
 refine wpAny_dictSet_pairs (knd := ik G) (kvs := (kvs.map (·.1)).zip ys) (k := i) (intKind_is _ _ _ _) (Heap.dictOf_iff.mpr ⟨o, ho, hd⟩) (fun h' hd' hs' => ?_) (by rw [List.length_zip, List.length_map, sizeLine_eq]; exact Z68)
 rw [stored_absent (cV (by rw [jB hl]; exact hi))] at hd'
 refine ag (Heap.dictOf_iff.mp hd') fun o' ho' hd' => ?_
 refine hQ _ ⟨F, m, FSB.iM (X₂ := X) (P' := ba G (kvs ++ [(i, v)])) w ho' hs' ⟨ys ++ [y], ?_, ?_⟩⟩
 ·rw [List.map_append, List.zip_append (by simp [hl])]
  exact hd'
 ·rw [List.map_append]
  exact r.append (.cons hv .nil)
theorem iP.qV {value slice : Expr} {kvs : List (Int × VP)} {i : Int} {v : VP} (hv : (i, v) ∈ kvs) (hs : iF slice := by intro _ _ _; with_unfolding_all rfl) : iP G k value slice (eB G kvs) (vInt i) v := by
 intro I A τ s o z hA h hv'
 have h₂ := h
 obtain ⟨F, m, w⟩ := h₂
 obtain ⟨⟨a, ob, rfl, e, _, ys, hd, r⟩, t, rfl⟩ := hv' F w.tmp
 have hD : s.heap.DictOf (ik G) a ((kvs.map (·.1)).zip ys) := Heap.dictOf_iff.mpr ⟨ob, (w.fz _ _ e).1, hd⟩
 have hl : ys.length = kvs.length := by have := r.length; rwa [List.length_map] at this
 obtain ⟨j, hj⟩ := List.getElem?_of_mem hv
 refine ag (r.get (i := j) (v := v) (by rw [List.getElem?_map, hj]; rfl)) fun y hy vy => ?_
 have hm : (i, y) ∈ (kvs.map (·.1)).zip ys := by
  refine List.mem_iff_getElem?.mpr ⟨j, ?_⟩
  rw [List.getElem?_zip_eq_some]
  exact ⟨by rw [List.getElem?_map, hj]; rfl, hy⟩
 refine o7 (hd) fun es ep q1 q2 q3 q4 q5 => ?_
 refine fR hD.typeIs PySem.F.slot_dict_getitem.lookup (wpAny_getItem_of (knd := ik G) (k := i) (intKind_is _ _ _ _) hD.mapOf (dw q5 hm) ?_) (hs _ _ _)
 exact (show FS G I (τ.and (v.at y)) s from ⟨F, m, { w with tmp := ⟨w.tmp, vy⟩ }⟩).toks
noncomputable def jC (ke ve : Expr) (D : Addr) (env : Env) : Sem Unit := do
 let kv ← eval ke env
 let vv ← holding [kv] (eval ve env)
 standAt { ke.pos with endLine := ve.pos.endLine, endCol := ve.pos.endCol }
 holding [kv, vv] (dictSet D kv vv)
theorem ie {ke ve t iter : Expr} {scope : Scope} {pos : Pos} {it : Value} {D : Addr} {env : Env} :
  compTurn (.DictComp ke ve [⟨t, iter, [], 0⟩] scope pos) 0 it (.ref D) env = fY iter t [] (jC ke ve D env) (.DictComp ke ve [⟨t, iter, [], 0⟩] scope pos) 0 it (.ref D) env := by
 unfold compTurn fY jC
 simp only [bind_assoc, pure_bind]
 rfl
inductive uo (G : Gd) (k : Nat) (C : Cx) (σ : Sto) (t ke ve : Expr) (u a b : VP) : Prop where
 | mk (σ' : Sto) (ha : dN G k C σ t u σ') (hw : Wk σ' σ) (hk : EvT G k C σ' ke a) (hv : EvT G k C σ' ve b)
noncomputable def r9 (G : Gd) (k : Nat) (C : Cx) (scope : Scope) (cl : List (Str × Addr)) (σc : Sto) (t ke ve : Expr) {α : Type} (xs : List α) (kv : α → VP) (key : α → Int) (val : α → VP) : Prop :=
 xs.length ≤ 100000 ∧ (xs.map key).Nodup ∧ ∀ s0 F0 xa xg, (∀ x ∈ av scope, Cx.st ⟨bZ scope cl C.env s0.heap.objs.size, s0, F0, xa, xg⟩ x) → ∀ x ∈ xs, uo G k ⟨bZ scope cl C.env s0.heap.objs.size, s0, F0, xa, xg⟩ σc t ke ve (kv x) (vInt (key x)) (val x)
theorem iU {ke ve t iter : Expr} {scope : Scope} {pos : Pos} {cl : List (Str × Addr)} {α : Type} {xs : List α} {kv : α → VP} {key : α → Int} {val : α → VP} (hit : dk G k k t C σ iter (· = xs.map kv)) (hs : jP C σ scope cl σc)
  (step : r9 G k C scope cl σc t ke ve xs kv key val) (hA : AOk k A) (h : FS G ⟨C, σ, X, Y⟩ τ s) {use : Option (Value → Sem Unit)} {Q : Value → Shared → Prop}
  (hQ : ∀ L D s', FS G ⟨C, σ, (L, cP) :: X, Y⟩ (τ.and ((eB G (xs.map fun x => (key x, val x))).at (.ref D))) s' → compPost G.M A ff use Q (.ref D) L (.ok .next) s') (pp : Pos) (hfs : ∀ x, foldedSetIterable iter C.env x = pure x := by intro _; rfl) :
  wpAny G.M A (comprehension (.DictComp ke ve [⟨t, iter, [], 0⟩] scope pos) scope C.env pp newDict false (eval iter C.env) use) Q ff s := by
 refine wpAny_comprehension_free rfl hfs hs.clos hs.kind (gj hs.names) (wpAny_mono (hit A X Y τ s hA h) (fun x s₁ h₁ => ?_) iz)
 refine wpAny_mono h₁ (fun it s₂ h₂ => ?_) iz
 obtain ⟨Sr, l, rfl, W, Xf, Yf, hS, F, m, w⟩ := h₂
 refine bx (step) fun hz hnd turn => ?_
 refine wpAny_newObj_type ?_
 have h₃ : FSS G Sr 0 C σ ((s₂.heap.objs.size, ba G ((xs.take 0).map fun x => (key x, val x))) :: X) Y τ ⟨s₂.heap.push { cls := .type "dict", data := .dict #[] }, s₂.gens, s₂.drawn, s₂.toks, s₂.os⟩ := by
  have := w.newX (P := ba G []) (tk := s₂.toks) (fun b o e => Heap.get?_push_of_some _ e) (by rw [Heap.size_push]; exact Z22) (Nat.le_refl _) (Heap.get?_push_size s₂.heap (o := { cls := .type "dict", data := .dict #[] }) rfl) ⟨[], ⟨#[], 0, ⟨rfl, rfl, rfl⟩, rfl, (fun _ he => by simp at he), .nil, List.nodup_nil⟩, .nil⟩
  exact ⟨Xf, Yf, hS, FS.perm ⟨F, m, this⟩ List.perm_middle⟩
 have hpriv : C.s₀.heap.objs.size ≤ s₂.heap.objs.size := w.kept.size
 refine gW (C := C) (σ := σ) (Y := Y) (Xs := fun i => (s₂.heap.objs.size, ba G ((xs.take i).map fun x => (key x, val x))) :: X) (QL := fun L r s' => compPost G.M A ff use Q (.ref s₂.heap.objs.size) L r s') (t := t) (iter := iter) (ifs := []) (l := xs.map kv) (Sr := Sr) hs.kind hs.names hs.nd hs.cells hs.see rfl (fun _ _ => rfl) (fun _ => rfl) (fun _ _ => rfl) (fun _ => rfl)
  (inner := jC ke ve s₂.heap.objs.size) (fun n => ie) W hA (fun C' e hloc i v hv => ?_) h₃ fun L s' h' => ?_
 ·rw [List.getElem?_map] at hv
  refine ag (Option.map_eq_some_iff.mp hv) fun x hx re0 => ?_; subst re0
  obtain ⟨env, s0, F0, xa, xg⟩ := C'
  dsimp only at e
  subst e
  obtain ⟨σ', t1, t2, t3, t4⟩ := turn s0 F0 xa xg hloc x (List.mem_of_getElem? hx)
  refine ⟨σ', true, t1, .nil, t2, fun _ Xf Yf s h => ?_, fun hb => nomatch hb⟩
  unfold jC
  refine wpAny_bind (wpAny_mono (t3 A _ _ MP.tt s hA h) (fun y s₄ h₄ => ?_) iz)
  refine wpAny_bind (wpAny_holding (wpAny_mono (t4 A _ _ _ s₄ hA h₄) (fun z s₅ h₅ => ?_) iz))
  refine wpAny_bind (wpAny_standAt (wpAny_holding ?_))
  have hlt : i < xs.length := (List.getElem?_eq_some_iff.mp hx).1
  have e1 : (xs.take (i + 1)).map (fun x => (key x, val x)) = (xs.take i).map (fun x => (key x, val x)) ++ [(key x, val x)] := by
   rw [List.take_add_one, hx, List.map_append]; rfl
  refine qs (i := key x) (v := val x) h₅ ?_ (by rw [List.length_map, List.length_take]; exact Z67) (fun F z => ⟨z.1.2, z.2⟩) fun s₆ h₆ => ?_
  ·rw [List.map_map]
   intro hm
   refine ag (List.mem_map.mp hm) fun x' hx' e => ?_
   have e : key x' = key x := e
   obtain ⟨j, hj, ej⟩ := List.mem_iff_getElem.mp hx'
   have hj' : j < i := by rw [List.length_take] at hj; omega
   have a1 : (xs.map key)[j]'(by rw [List.length_map]; exact Z14) = (xs.map key)[i]'(by rw [List.length_map]; assumption) := by
    rw [List.getElem_map, List.getElem_map]
    rw [List.getElem_take] at ej
    rw [ej, (List.getElem?_eq_some_iff.mp hx).2, e]
   have := List.pairwise_iff_getElem.mp hnd j i (by rw [List.length_map]; exact Z14) (by rw [List.length_map]; assumption) hj'
   exact this a1
  ·rw [e1]
   exact h₆.wk fun _ _ => trivial
 ·refine hQ L _ s' ?_
  obtain ⟨F', m', w'⟩ := h'
  rw [List.length_map, List.take_length] at w'
  refine gK (FSB.freeze (X₁ := [(L, cP)]) w' hpriv) fun o F'' ho hF'' le w'' => ?_
  exact ⟨F'', m', { w'' with tmp := ⟨w''.tmp, _, o, rfl, hF'', G.lG (Nat.le_trans w.base hpriv), (ba G _).mono le ho⟩ }⟩
theorem ExT.iA {ke ve t iter : Expr} {scope : Scope} {pos p q : Pos} {cl : List (Str × Addr)} {α : Type} {xs : List α} {kv : α → VP} {key : α → Int} {val : α → VP} {x : Str} {rest : List Stmt} (hit : dk G k k t C σ iter (· = xs.map kv)) (hs : jP C σ scope cl σc)
  (step : r9 G k C scope cl σc t ke ve xs kv key val) (hx : C.st x) (hu : Upd σ x (eB G (xs.map fun x => (key x, val x))) σ') (hr : ExT G k C σ' X Y rest Ψ)
  (hsw : autoParam (swapsWith (.DictComp ke ve [⟨t, iter, [], 0⟩] scope pos) (some (.Name x q)) p.line C.env = pure true) tcR) (hfs : ∀ x, foldedSetIterable iter C.env x = pure x := by intro _; rfl) :
  ExT G k C σ X Y (.Assign [.Name x q] (.DictComp ke ve [⟨t, iter, [], 0⟩] scope pos) p :: rest) Ψ := by
 intro A s hA h
 refine wpAny_execs_cons ?_
 rw [exec_Assign_Name_used _ _ _ _ hsw]
 refine wpAny_bind (wpAny_standAt (wpAny_bind ?_))
 show wpAny _ A (do let _ ← comprehension (.DictComp ke ve [⟨t, iter, [], 0⟩] scope pos) scope C.env _ newDict false (eval iter C.env) (some (PySem.assign (Expr.Name x q) C.env))) _ _ s
 refine wpAny_bind (iU hit hs step hA h (fun L D s' h' => ?_) _ hfs)
 refine wpAny_mono (dN.name (k := k) hx hu A _ Y _ s' (.ref D) hA h' fun F z => z.2) (fun _ s₂ h₂ => ?_) iz
 obtain ⟨F, m, w⟩ := h₂
 obtain ⟨⟨o, ho, m₂, hm₂⟩, _⟩ := w.own (L, cP) (.head _)
 refine ⟨m₂, hm₂ _ _ ho, fun h'' hs'' => wpAny_pure (wpAny_pure ?_)⟩
 refine hr A _ hA ⟨F, m, { w.iG hs''.extBut (by rw [hs''.1]; exact Nat.le_refl _) with tmp := trivial }⟩
theorem Upd.new {σ σ' : Sto} {x : Str} {v : VP} (h : Upd σ x v σ') : (x, some v) ∈ σ' := by
 induction h with
 | here => exact .head _
 | there _ ih => exact .tail _ ih
theorem Upd.keep {σ σ' : Sto} {x : Str} {v : VP} (h : Upd σ x v σ') {z : Str} {o : Option VP} : (z, o) ∈ σ → z ≠ x → (z, o) ∈ σ' := by
 induction h with
 | here =>
  intro e n
  rcases List.mem_cons.mp e with e | e
  ·cases e; exact absurd rfl n
  ·exact .tail _ e
 | there _ ih =>
  intro e n
  rcases List.mem_cons.mp e with e | e
  ·subst e; exact .head _
  ·exact .tail _ (ih e n)
noncomputable def LpG (G : Gd) (C : Cx) {α : Type} (P : α → Prop) (σs : α → Sto) (Xs : α → List (Addr × OP)) (Xf : List (Addr × OP)) (Y : List (Nat × GP)) (Ψ : Flow → Shared → Prop) : Flow → Shared → Prop := fun f s => match f with
 | .next => ∃ a, P a ∧ FS G ⟨C, σs a, Xf ++ Xs a, Y⟩ MP.tt s
 | .cont => ∃ a, P a ∧ FS G ⟨C, σs a, Xf ++ Xs a, Y⟩ MP.tt s
 | .brk => False
 | .ret v => Ψ (.ret v) s
inductive uE (G : Gd) (k : Nat) (C : Cx) (t : Expr) (body : List Stmt) (Y : List (Nat × GP)) (Ψ : Flow → Shared → Prop) (σ : Sto) (v : VP) (X : List (Addr × OP)) {α : Type} (P : α → Prop) (σ₁ : α → Sto) (X₁ : α → List (Addr × OP)) : Prop where
 | mk (σ' : Sto) (ha : dN G k C σ t v σ') (hb : ∀ Xf Yf, ExT G k C σ' (Xf ++ X) (Yf ++ Y) body (LpG G C P σ₁ X₁ Xf (Yf ++ Y) Ψ))
theorem ExT.ur {α : Type} {t iter : Expr} {body rest : List Stmt} {l : List VP} {p : Pos} (hit : dk G k k t C σ iter (· = l)) (P : Nat → α → Prop) (σs : Nat → α → Sto) (Xs : Nat → α → List (Addr × OP)) (a₀ : α) (h0 : P 0 a₀) (w0 : Wk σ (σs 0 a₀)) (x0 : Xs 0 a₀ = X)
  (turn : ∀ i v a, l[i]? = some v → P i a → uE G k C t body Y Ψ (σs i a) v (Xs i a) (P (i + 1)) (σs (i + 1)) (Xs (i + 1)))
  (fin : ∀ a, P l.length a → ExT G k C (σs l.length a) (Xs l.length a) Y rest Ψ)
  (hs : ∀ x, foldedSetIterable iter C.env x = pure x := by intro _; rfl) : ExT G k C σ X Y (.For t iter body [] p :: rest) Ψ := by
 intro A s hA h
 refine wpAny_execs_cons (wpAny_For (wpAny_mono (hit A X Y _ s hA h) (fun y s₁ h₁ => ?_) iz) hs)
 refine wpAny_mono h₁ (fun it s₂ h₂ => ?_) iz
 obtain ⟨S, l, rfl, W, h₂⟩ := h₂
 refine cJ (fun n s => ∃ i a, n = l.length - i ∧ i ≤ l.length ∧ P i a ∧ FSS G S i C (σs i a) (Xs i a) Y MP.tt s) (fun n s₃ ⟨i, a, en, hi, hp, h₃⟩ => ?_) l.length
  ⟨0, a₀, rfl, Nat.zero_le _, h0, let ⟨a, b, c, d⟩ := h₂; ⟨a, b, c, x0 ▸ d.less w0 (List.Sublist.refl _) (List.Sublist.refl _)⟩⟩
 rcases Nat.lt_or_ge i l.length with lt | ge
 ·have hv : l[i]? = some l[i] := List.getElem?_eq_getElem lt
  obtain ⟨σ', ha, hb⟩ := turn i l[i] a hv hp
  refine wpAny_mono (W.item C (σs i a) (Xs i a) Y _ A s₃ i l[i] hA bb hv h₃) (fun r s₄ h₄ => ?_) iz
  obtain ⟨x, rfl, h₄⟩ := h₄
  refine wpAny_mono h₄ (fun _ s₅ h₅ => ?_) iz
  obtain ⟨Xf, Yf, hS, h₅⟩ := h₅
  refine wpAny_mono (ha A _ _ _ s₅ x hA h₅ fun F z => z.2) (fun _ s₆ h₆ => ?_) iz
  refine wpAny_mono (hb Xf Yf A s₆ hA (h₆.wk fun _ _ => trivial)) (fun f s₇ h₇ => ?_) iz
  cases f with
  | next => refine ag (h₇) fun a' h8 h9 => ?_; exact ⟨l.length - (i + 1), k8, i + 1, a', rfl, lt, h8, Xf, Yf, hS, h9⟩
  | cont => refine ag (h₇) fun a' h8 h9 => ?_; exact ⟨l.length - (i + 1), k8, i + 1, a', rfl, lt, h8, Xf, Yf, hS, h9⟩
  | brk => exact h₇.elim
  | ret v => exact h₇
 ·obtain rfl : i = l.length := Nat.le_antisymm hi ge
  refine wpAny_mono (W.done C _ _ Y _ A s₃ hA bb h₃) (fun r s₄ h₄ => ?_) iz
  obtain ⟨rfl, h₄⟩ := h₄
  exact wpAny_execs_nil (fin a hp A s₄ hA h₄)
theorem ExT.oz {α : Type} {P : α → Prop} {σs : α → Sto} {Xs : α → List (Addr × OP)} {Xf : List (Addr × OP)} (a : α) (hp : P a) (hw : Wk σ σ₁) (es : σ₁ = σs a) (hX : X.Perm (Xf ++ Xs a)) : ExT G k C σ X Y [] (LpG G C P σs Xs Xf Y Ψ) := by
 subst es
 exact .nil fun _ h => ⟨a, hp, (h.less hw (List.Sublist.refl _) (List.Sublist.refl _)).perm hX.symm⟩
noncomputable def e8 (y : Value) (v : VP) : VP := ⟨fun F z => z = y ∧ v.p F z, fun h x => ⟨x.1, v.mono h x.2⟩⟩
theorem EvT.fj {e : Expr} {y : Value} {v : VP} (h : EvT G k C σ e (e8 y v)) : EvT G k C σ e v := VP.sub h fun _ _ z => z.2
theorem ExT.pin {x : Str} {v : VP} {ss : List Stmt} {σn : Value → Sto} (hx : (x, some v) ∈ σ) (hu : ∀ y, Upd σ x (e8 y v) (σn y)) (h : ∀ y, ExT G k C (σn y) X Y ss Ψ) : ExT G k C σ X Y ss Ψ := by
 intro A s hA hS
 obtain ⟨F, m, w⟩ := hS
 refine ag (w.vars x v hx) fun y va vy => ?_
 refine h y A s hA ⟨F, m, { w with names := by rw [(hu y).names]; exact w.names, vars := fun z u e => ?_ }⟩
 rcases (hu y).mem w.names _ e with q | ⟨e, q⟩
 ·cases q; exact ⟨y, va, rfl, vy⟩
 ·exact w.vars z u e
noncomputable def VP.det (v : VP) : Prop := ∀ F F' y z, v.p F y → v.p F' z → y = z
noncomputable def VP.ind (v : VP) : Prop := ∀ F F' y, v.p F y → v.p F' y
theorem gT {y : Value} {v : VP} : (e8 y v).det := fun _ _ _ _ a b => a.1.trans b.1.symm
theorem qi {y : Value} : (vIs y).det := fun _ _ _ _ a b => a.trans b.symm
theorem jQ {i : Int} : (vInt i).ind := fun _ _ _ h => h
noncomputable def Sto.eI (σ : Sto) : Prop := ∀ x v, (x, some v) ∈ σ → v.det ∨ v.ind
theorem lI : Sto.eI [] := fun _ _ h => nomatch h
theorem dF {x : Str} (h : Sto.eI σ) : Sto.eI ((x, none) :: σ) := fun y v e => by
 rcases List.mem_cons.mp e with e | e
 ·cases e
 ·exact h y v e
theorem dg {x : Str} {v : VP} (hv : v.det) (h : Sto.eI σ) : Sto.eI ((x, some v) :: σ) := fun y u e => by
 rcases List.mem_cons.mp e with e | e
 ·cases e; exact .inl hv
 ·exact h y u e
theorem fx {x : Str} {v : VP} (hv : v.ind) (h : Sto.eI σ) : Sto.eI ((x, some v) :: σ) := fun y u e => by
 rcases List.mem_cons.mp e with e | e
 ·cases e; exact .inr hv
 ·exact h y u e
theorem ExT.qk {a : Addr} {P : OP} {x : Str} {vS : VP} {t : Expr} {body orelse rest : List Stmt} {p : Pos} {b : Bool} (hX : X = X₁ ++ (a, P) :: X₂) (hxa : C.xa = []) (hx : (x, some (vIs (.ref a))) ∈ σ) (hu : Upd σ x (e8 (.ref a) vS) σ') (hv : ∀ (F : Fz) o, F a = some o → P.p F o → vS.p F (.ref a)) (hst : σ.eI)
  (ht : ∀ s₁ F₁ xa xg, TsT G k ⟨C.env, s₁, F₁, xa, xg⟩ σ' t b) (h1 : b = true → ExT G k C σ X Y body (Th G k C rest Ψ)) (h2 : b = false → ExT G k C σ X Y orelse (Th G k C rest Ψ)) : ExT G k C σ X Y (.If t body orelse p :: rest) Ψ := by
 subst hX
 intro A s hA h
 have key : wpAny G.M A (isTrue t C.env (eval t C.env)) (fun b' s' => b' = b ∧ FS G ⟨C, σ, X₁ ++ (a, P) :: X₂, Y⟩ MP.tt s') ff s := by
  obtain ⟨F, m, w⟩ := h
  refine bY (w.own (a, P) (by simp)) fun nn0 hpa hFa haL => ?_; refine ag (nn0) fun oa hoa hPa => ?_
  have hp : C.s₀.heap.objs.size ≤ a := by
   rcases hpa with q | q
   ·exact q
   ·rw [hxa] at q; cases q
  refine gK (w.freeze hp) fun o F₁ hPo ho le w1 => ?_
  have w2 : FSB G C σ' [] [] MP.tt s F₁ m := { w1.weak w1.names (fun x v e => ⟨v, e, iz⟩) (List.nil_sublist _) (List.nil_sublist _) (fun _ _ => trivial) with
   names := by rw [hu.names]; exact w.names
   vars := fun z u e => by
    rcases hu.mem w.names _ e with q | ⟨e, q⟩
    ·cases q
     refine ag (w1.vars x _ hx) fun y va vy => ?_
     obtain rfl : y = .ref a := vy
     exact ⟨_, va, rfl, hv F₁ o ho (P.mono le hPo)⟩
    ·exact w1.vars z u e }
  refine wpAny_mono (ht s F₁ (C.L :: []) [] A [] [] MP.tt s hA ⟨F₁, m, w2.rebase⟩) (fun b' s' h' => ⟨h'.1, ?_⟩) iz
  obtain ⟨-, F₂, m₂, w4⟩ := h'
  have w5 : FSB G C σ' [] [] MP.tt s' F₂ m₂ := w2.nt w4
  let F₃ : Fz := fun c => if c = a then none else F₂ c
  have le3 : F.le F₃ := fun c oc e => by
   show (if c = a then none else F₂ c) = some oc
   by_cases q : c = a
   ·subst q; rw [hFa] at e; cases e
   ·rw [if_neg q]; exact w4.le _ _ (le _ _ e)
  have sub3 : ∀ c oc, F₃ c = some oc → F₂ c = some oc := fun c oc e => by
   have e' : (if c = a then none else F₂ c) = some oc := e
   by_cases q : c = a
   ·rw [if_pos q] at e'; cases e'
   ·rwa [if_neg q] at e'
  have none3 : ∀ c, F₂ c = none → F₃ c = none := fun c e => by
   show (if c = a then none else F₂ c) = none
   by_cases q : c = a
   ·rw [if_pos q]
   ·rw [if_neg q]; exact e
  refine ⟨F₃, m₂, {
   wd := w5.wd
   kept := w5.kept
   base := w5.base
   xab := w5.xab
   xgb := w5.xgb
   le := w.le.trans le3
   fz := fun c oc e => w5.fz c oc (sub3 c oc e)
   ns := w5.ns
   loc := ⟨none3 _ w5.loc.1, w5.loc.2⟩
   fun_ := w5.fun_
   glob := w5.glob
   names := w.names
   vars := fun z u e => ?_
   cells := fun z c e => let ⟨q1, q2, q3, q4⟩ := w5.cells z c e; ⟨q1, none3 _ q2, (w.cells z c e).2.2.1, q4⟩
   cellsInj := w5.cellsInj
   own := fun q hq => ?_
   nodup := w.nodup
   gown := fun q hq => ?_
   ynd := w.ynd
   tmp := trivial }⟩
  ·refine ag (w.vars z u e) fun y va vy => ?_
   by_cases hz : z = x
   ·subst hz
    have hu1 : u = vIs (.ref a) := ji w.names e hx
    subst hu1
    refine cx (w5.vars z _ hu.new) fun y' va' re0 _ => ?_; subst re0
    exact ⟨_, va', rfl⟩
   ·refine ag (w5.vars z u (hu.keep e hz)) fun y' va' vu => ?_
    rcases hst z u e with d | d
    ·obtain rfl := d F₂ F y' y vu vy
     exact ⟨_, va', u.mono le3 vy⟩
    ·exact ⟨y', va', d F₂ F₃ y' vu⟩
  ·refine bY (w.own q hq) fun nn0 e3 e4 e5 => ?_; refine ag (nn0) fun oq e1 e2 => ?_
   refine ⟨⟨oq, w4.kept.heap q.1 oq e1 (fun hm => e5 (List.mem_singleton.mp hm)) (w.eU e3), q.2.mono le3 e2⟩, e3, ?_, e5⟩
   by_cases qa : q.1 = a
   ·show (if q.1 = a then none else F₂ q.1) = none
    rw [if_pos qa]
   ·refine none3 _ ?_
    cases e6 : F₂ q.1 with
    | none => rfl
    | some o' =>
     rcases (w4.fz _ _ e6).2.2 with r | r
     ·have hmem : q ∈ X₁ ++ X₂ := by
       rcases List.mem_append.mp hq with h | h
       ·exact List.mem_append_left _ h
       ·rcases List.mem_cons.mp h with h | h
        ·subst h; exact absurd rfl qa
        ·exact List.mem_append_right _ h
      have := (w1.own q hmem).2.2.1
      have r' : F₁ q.1 = some o' := r
      rw [this] at r'; cases r'
     ·exact absurd (Heap.lt_size e1) (Nat.not_lt.mpr r)
  ·obtain ⟨⟨g, e1, e2⟩, e3⟩ := w.gown q hq
   exact ⟨⟨g, w4.kept.gens q.1 g e1 (by simp), q.2.mono le3 e2⟩, e3⟩
 refine wpAny_execs_cons (wpAny_If (wpAny_mono key (fun b' s₁ h₁ => ?_) iz))
 obtain ⟨rfl, h₁⟩ := h₁
 cases b' with
 | true => exact wpAny_mono (h1 rfl A s₁ hA h₁) (fun f s₂ h₂ => by cases f with | next => exact h₂ A hA | brk => exact h₂ | cont => exact h₂ | ret v => exact h₂) iz
 | false => exact wpAny_mono (h2 rfl A s₁ hA h₁) (fun f s₂ h₂ => by cases f with | next => exact h₂ A hA | brk => exact h₂ | cont => exact h₂ | ret v => exact h₂) iz
theorem iO : fillsInplaceSlot (.type "set") "or" false = pure true := by
 unfold fillsInplaceSlot
 show (typeLookup (.type "set") (dunderI "or") >>= fun fi => pure (fi.isSome && !isSeqSlot fi)) = pure true
 rw [PySem.F.slot_set_ior.lookup]
 show (pure _ : Sem Bool) = pure true
 refine congrArg pure ?_
 decide +kernel
theorem qm {a : Addr} {S T : Nat → Bool} {y : Value} {Q : Value → Shared → Prop} (h : FS G ⟨C, σ, X₁ ++ (a, bt G S) :: X₂, Y⟩ τ s) (hy : ∀ F, τ.p F → (ar G T).p F y)
  (hQ : ∀ s', FS G ⟨C, σ, X₁ ++ (a, bt G (unS S T)) :: X₂, Y⟩ τ s' → Q (.ref a) s') : wpAny G.M A (inplaceOp .BitOr (.ref a) y) Q ff s := by
 obtain ⟨F, m, w⟩ := h
 obtain ⟨b, ob, rfl, hb, hsb⟩ := hy F w.tmp
 refine bY (w.own (a, bt G S) (by simp)) fun nn0 _ hFa _ => ?_; refine ag (nn0) fun oa ha hsa => ?_
 have hb' := (w.fz _ _ hb).1
 have hne : b ≠ a := fun e => by subst e; rw [hFa] at hb; cases hb
 have hTa := hsa.typeIs ha
 have hTb := hsb.typeIs hb'
 unfold inplaceOp
 try with_reducible refine wpAny_holding ?_
 refine wpAny_bind (wpAny_typeOf hTa (wpAny_bind (wpAny_of_eq iO ?_)))
 show wpAny G.M A (if true = true then _ else _) Q ff s
 rw [if_pos rfl]
 refine wpAny_bind (wpAny_tryMethod_slot hTa PySem.F.slot_set_ior ?_)
 refine wpAny_call_entry PySem.F.slot_set_ior hTa PySem.F.entry_set_ior ?_ (PySem.F.args_set_ior_2 _ _)
 show wpAny _ A.in1 (Builtin.Frozenset.slot1 "__ior__" ⟨[.ref a, .ref b], []⟩ >>= _) _ _ s
 refine wpAny_bind (wpAny_of_eq (a := (Value.ref a, Value.ref b)) rfl ?_)
 show wpAny _ A.in1 (Builtin.Frozenset.isAnySet (.ref b) >>= _) _ _ s
 refine wpAny_bind (dW hTb ?_)
 show wpAny _ A.in1 (Builtin.Frozenset.addrOf (.ref a) >>= _) _ _ s
 refine wpAny_bind (wpAny_pure ?_)
 refine wpAny_bind (dG hne ha hsa hb' hsb fun h' o' hs hg hi => ?_)
 refine wpAny_pure ⟨_, rfl, by simp, ?_⟩
 exact wpAny_bind (wpAny_rule (wpAny_pure (hQ _ ⟨F, m, w.iM (P' := bt G (unS S T)) hg hs hi⟩)))
theorem ExT.ior {x : Str} {a : Addr} {S T : Nat → Bool} {e : Expr} {p q : Pos} {rest : List Stmt} (hX : X = X₁ ++ (a, bt G S) :: X₂) (hx : (x, some (vIs (.ref a))) ∈ σ) (he : EvT G k C σ e (ar G T)) (hst : C.st x) (hu : Upd σ x (vIs (.ref a)) σ') (hr : ExT G k C σ' (X₁ ++ (a, bt G (unS S T)) :: X₂) Y rest Ψ)
  (hn : autoParam ((x == ("__classdict__" : Str)) = false) tcD) : ExT G k C σ X Y (.AugAssign (.Name x q) .BitOr e p :: rest) Ψ := by
 subst hX
 intro A s hA h
 refine wpAny_execs_cons (wpAny_AugAssign_Name (wpAny_mono (gY hx h hn) (fun y s₁ h₁ => ?_) iz))
 obtain rfl : y = .ref a := h₁.take fun F z => z.2
 refine wpAny_mono (he A _ Y _ s₁ hA h₁) (fun z s₂ h₂ => ?_) iz
 refine qm h₂ (fun F z => z.2) fun s₃ h₃ => ?_
 exact bL h₃ hst (v := vIs (.ref a)) (fun _ _ => rfl) hu fun s' h' => hr A s' hA (h'.wk fun _ _ => trivial)
theorem ExT.tJ {x : Str} {p q r : Pos} {rest : List Stmt} {σn : Addr → Sto} (hx : C.st x) (hu : ∀ a, Upd σ x (vIs (.ref a)) (σn a)) (hr : ∀ a, ExT G k C (σn a) ((a, ba G []) :: X) Y rest Ψ) (hsw : autoParam (swapsWith (.Dict [] [] r) (some (.Name x q)) p.line C.env = pure false) tcR) : ExT G k C σ X Y (.Assign [.Name x q] (.Dict [] [] r) p :: rest) Ψ := by
 intro A s hA h
 refine wpAny_execs_cons (wpAny_Assign_Name (wpAny_Dict_empty ?_) hsw)
 obtain ⟨F, m, w⟩ := h
 have h₁ : FS G ⟨C, σ, (s.heap.objs.size, ba G []) :: X, Y⟩ MP.tt ⟨s.heap.push { cls := .type "dict", data := .dict #[] }, s.gens, s.drawn, s.toks, s.os⟩ :=
  ⟨F, m, w.newX (fun b o e => Heap.get?_push_of_some _ e) (by rw [Heap.size_push]; exact Z22) (Nat.le_refl _) (Heap.get?_push_size _ rfl) ⟨[], ⟨#[], 0, ⟨rfl, rfl, rfl⟩, rfl, (fun _ he => by simp at he), .nil, List.nodup_nil⟩, .nil⟩⟩
 exact bL h₁ hx (v := vIs (.ref s.heap.objs.size)) (fun _ _ => rfl) (hu _) fun s' h' => hr _ A s' hA (h'.wk fun _ _ => trivial)
theorem je {kvs : List (Int × VP)} {ys : List Value} {i : Int} (hl : ys.length = kvs.length) (hn : (((kvs.map Prod.fst).zip ys).map (·.1)).Nodup) : (valueAt ((kvs.map Prod.fst).zip ys) i).isSome = (kvs.map Prod.fst).contains i := by
 rw [Bool.eq_iff_iff, List.contains_iff_mem]
 constructor
 ·intro h
  rcases Classical.em (i ∈ kvs.map Prod.fst) with q | q
  ·exact q
  ·rw [cV (by rw [jB hl]; exact q)] at h; cases h
 ·intro h
  obtain ⟨j, hj⟩ := List.getElem?_of_mem h
  have hlt : j < ys.length := by have := (List.getElem?_eq_some_iff.mp hj).1; rw [List.length_map] at this; exact Z97
  have : (i, ys[j]) ∈ (kvs.map Prod.fst).zip ys := List.mem_iff_getElem?.mpr ⟨j, by rw [List.getElem?_zip_eq_some]; exact ⟨hj, List.getElem?_eq_getElem hlt⟩⟩
  rw [dw hn this]; rfl
theorem TsX.nG {e : Expr} {x : Str} {d : Addr} {kvs : List (Int × VP)} {i : Int} {p q : Pos} (he : EvT G k C σ e (vInt i)) (hx : (x, some (vIs (.ref d))) ∈ σ) (hR : (d, ba G kvs) ∈ R)
  (hd : autoParam ((x == ("__debug__" : Str)) = false) tcD) (hn : autoParam ((x == ("__classdict__" : Str)) = false) tcD) (hm : behindInMarks .NotIn (.Name x q) = false := by with_unfolding_all rfl) : TsX G k C σ R (.Compare e [.NotIn] [.Name x q] p) (!(kvs.map Prod.fst).contains i) := by
 intro A X Y τ s hA hRX h
 refine wpAny_isTrue_Compare1 (wpAny_mono (he A X Y τ s hA h) (fun y s₁ h₁ => ?_) iz) hm
 obtain ⟨t, rfl⟩ := h₁.take (P := ∃ t, y = .int i t) fun F z => z.2
 refine wpAny_mono (EvT.var (k := k) hx hd hn A X Y _ s₁ hA h₁) (fun o s₂ h₂ => ?_) iz
 obtain rfl : o = .ref d := h₂.take fun F z => z.2
 have h₃ := h₂
 obtain ⟨F, m, w⟩ := h₃
 refine bx (w.own _ (hRX _ hR)) fun nn0 hp _ => ?_; obtain ⟨o, ho, ys, hdic, r⟩ := nn0
 have hl : ys.length = kvs.length := by have := r.length; rwa [List.length_map] at this
 have hD : s₂.heap.DictOf (ik G) d ((kvs.map Prod.fst).zip ys) := Heap.dictOf_iff.mpr ⟨o, ho, hdic⟩
 refine o7 (hdic) fun es ep q1 q2 q3 q4 q5 => ?_
 refine wpAny_notIn_of (knd := ik G) (intKind_is _ _ _ _) (G.lG (w.dy hp)) hD.mapOf ?_
 rw [je hl q5]
 exact wpAny_truthy_bool ⟨rfl, (h₂.toks).wk fun F z => z.1.1⟩
theorem ExT.qO {x : Str} {d : Addr} {kvs : List (Int × VP)} {i : Int} {e : Expr} {p q r p2 p3 : Pos} {rest : List Stmt} (hX : X = X₁ ++ (d, ba G kvs) :: X₂) (hs : EvT G k C σ (.Name "set" r) (vIs (.type "set"))) (hx : (x, some (vIs (.ref d))) ∈ σ) (he : EvT G k C σ e (vInt i)) (hi : i ∉ kvs.map Prod.fst) (hz : kvs.length ≤ 100000)
  (hr : ∀ b, ExT G k C σ ((b, bt G fun _ => false) :: (X₁ ++ (d, ba G (kvs ++ [(i, vIs (.ref b))])) :: X₂)) Y rest Ψ)
  (hplain : autoParam (((backTo p2 (starEach [] C.env)).any (·.1) || (backToKw p2 (keywordEach [] C.env)).any (·.1.isNone)) = false) tcR) (hsw : autoParam (swapsWith (.Call (.Name "set" r) [] [] p2) (some (.Subscript (.Name x q) e p3)) p.line C.env = pure false) tcR)
  (hd : autoParam ((x == ("__debug__" : Str)) = false) tcD) (hn : autoParam ((x == ("__classdict__" : Str)) = false) tcD) : ExT G k C σ X Y (.Assign [.Subscript (.Name x q) e p3] (.Call (.Name "set" r) [] [] p2) p :: rest) Ψ := by
 subst hX
 intro A s hA h
 refine wpAny_execs_cons (wpAny_Assign_Subscript ?_ hsw)
 refine wpAny_Call_Name_kw (wpAny_mono (hs A _ Y _ s hA h) (fun y s₁ h₁ => ?_) iz)
 obtain rfl : y = .type "set" := h₁.take fun F z => z.2
 refine bH (first := []) (pos := []) (kv := []) (kn := []) (fun ys zs s₂ h₂ => ?_) KpT.ty af.nil KwT.nil rfl rfl hplain (.inl ⟨rfl, rfl⟩) hA h₁
 obtain rfl : ys = [] := h₂.take fun F z => z.1.2.none
 obtain rfl : zs = [] := h₂.take fun F z => z.2.none
 refine ip ?_
 obtain ⟨F, m, w⟩ := h₂
 have h₃ : FS G ⟨C, σ, ((s₂.heap.objs.size, bt G fun _ => false) :: X₁) ++ (d, ba G kvs) :: X₂, Y⟩ MP.tt ⟨s₂.heap.push (aD G.w), s₂.gens, s₂.drawn, s₂.toks, s₂.os⟩ :=
  ⟨F, m, { w.newX (fun b o e => Heap.get?_push_of_some _ e) (by rw [Heap.size_push]; exact Z22) (Nat.le_refl _) (Heap.get?_push_size _ rfl) bF with tmp := trivial }⟩
 refine wpAny_mono (EvT.var (k := k) hx hd hn A _ Y _ _ hA h₃) (fun o s₄ h₄ => ?_) iz
 obtain rfl : o = .ref d := h₄.take fun F z => z.2
 refine wpAny_mono (he A _ Y _ s₄ hA h₄) (fun kv s₅ h₅ => ?_) iz
 obtain ⟨t, rfl⟩ := h₅.take (P := ∃ t, kv = .int i t) fun F z => z.2
 obtain ⟨F₅, m₅, w₅⟩ := h₅
 obtain ⟨⟨o₅, ho, ys, hdic, rr⟩, _⟩ := w₅.own (d, ba G kvs) (by simp)
 have hl : ys.length = kvs.length := by have := rr.length; rwa [List.length_map] at this
 refine wpAny_setItem_pairs (knd := ik G) (kvs := (kvs.map Prod.fst).zip ys) (k := i) (intKind_is _ _ _ _) (Heap.dictOf_iff.mpr ⟨o₅, ho, hdic⟩) (fun h' hd' hs' => ?_) (by rw [List.length_zip, List.length_map, sizeLine_eq]; exact Z68)
 rw [stored_absent (cV (by rw [jB hl]; exact hi))] at hd'
 refine ag (Heap.dictOf_iff.mp hd') fun o' ho' hd' => ?_
 refine hr s₂.heap.objs.size A _ hA ⟨F₅, m₅, (FSB.iM (X₂ := X₂) (P' := ba G (kvs ++ [(i, vIs (.ref s₂.heap.objs.size))])) (tk := s₅.toks + 1) w₅ ho' hs' ⟨ys ++ [.ref s₂.heap.objs.size], ?_, ?_⟩).weak w₅.names (fun _ v e => ⟨v, e, iz⟩) (List.Sublist.refl _) (List.Sublist.refl _) fun _ _ => trivial⟩
 ·rw [List.map_append, List.zip_append (by simp [hl])]
  exact hd'
 ·rw [List.map_append]
  exact rr.append (.cons rfl .nil)
theorem EvX.pR {x : Str} {d : Addr} {kvs : List (Int × VP)} {i : Int} {v : VP} {e : Expr} {p q : Pos} (hx : (x, some (vIs (.ref d))) ∈ σ) (hR : (d, ba G kvs) ∈ R) (he : EvT G k C σ e (vInt i)) (hv : (i, v) ∈ kvs) (hs : iF e := by intro _ _ _; with_unfolding_all rfl)
  (hd : autoParam ((x == ("__debug__" : Str)) = false) tcD) (hn : autoParam ((x == ("__classdict__" : Str)) = false) tcD) : EvX G k C σ R (.Subscript (.Name x q) e p) v := by
 intro A X Y τ s hA hRX h
 refine Subscript_ (wpAny_mono (EvT.var (k := k) hx hd hn A X Y τ s hA h) (fun y s₁ h₁ => wpAny_mono (he A X Y _ s₁ hA h₁) (fun z s₂ h₂ => ?_) iz) iz)
 obtain rfl : y = .ref d := h₂.take fun F z => z.1.2
 obtain ⟨t, rfl⟩ := h₂.take (P := ∃ t, z = .int i t) fun F z => z.2
 have h₃ := h₂
 obtain ⟨F, m, w⟩ := h₃
 refine bx (w.own _ (hRX _ hR)) fun nn0 hp _ => ?_; obtain ⟨o, ho, ys, hdic, r⟩ := nn0
 have hl : ys.length = kvs.length := by have := r.length; rwa [List.length_map] at this
 have hD : s₂.heap.DictOf (ik G) d ((kvs.map Prod.fst).zip ys) := Heap.dictOf_iff.mpr ⟨o, ho, hdic⟩
 refine o7 (hdic) fun es ep q1 q2 q3 q4 q5 => ?_
 obtain ⟨j, hj⟩ := List.getElem?_of_mem hv
 refine ag (r.get (i := j) (v := v) (by rw [List.getElem?_map, hj]; rfl)) fun y hy vy => ?_
 have hm : (i, y) ∈ (kvs.map Prod.fst).zip ys := by
  refine List.mem_iff_getElem?.mpr ⟨j, ?_⟩
  rw [List.getElem?_zip_eq_some]
  exact ⟨by rw [List.getElem?_map, hj]; rfl, hy⟩
 refine fR hD.typeIs PySem.F.slot_dict_getitem.lookup (wpAny_getItem_of (knd := ik G) (k := i) (intKind_is _ _ _ _) hD.mapOf (dw q5 hm) ?_) (hs _ _ _)
 exact (show FS G ⟨C, σ, X, Y⟩ (τ.and (v.at y)) s₂ from ⟨F, m, { w with tmp := ⟨w.tmp.1.1, vy⟩ }⟩).toks
theorem ExT.pU {oe : Expr} {name : Str} {id : String} {P P' : OP} {va : VP} {a : Addr} {e : Expr} {ap p p2 : Pos} {rest : List Stmt} {pl : Sem Bool} (hX : X = X₁ ++ (a, P) :: X₂) (hM : dt G k name id P va P') (hx : EvX G k C σ X oe (vIs (.ref a))) (he : EvT G k C σ e va)
  (hr : ExT G k C σ (X₁ ++ (a, P') :: X₂) Y rest Ψ)
  (hev : eval (.Call (.Attribute oe name ap) [e] [] p) C.env = (do
   let ov ← eval oe C.env
   standAt ap.atName
   let (f, first) ← holding [ov] (getMethod ov name pl)
   callWith p f first (backTo p (starEach [e] C.env)) (backToKw p (keywordEach [] C.env))) := by rfl)
  (hst : ∃ x r, backTo p (starEach [e] C.env) = (false, x) :: r := by exact ⟨_, _, rfl⟩) (hstar : autoParam (starEach [e] C.env = (false, eval e C.env) :: starEach [] C.env) tcR)
  (hplain : autoParam (((backTo p (starEach [e] C.env)).any (·.1) || (backToKw p (keywordEach [] C.env)).any (·.1.isNone)) = false) tcR)
  (hi : autoParam (interactive C.env = false) tcR) (hs : autoParam (swapsWith (.Call (.Attribute oe name ap) [e] [] p) none p2.line C.env = pure false) tcR) :
  ExT G k C σ X Y (.Expr (.Call (.Attribute oe name ap) [e] [] p) p2 :: rest) Ψ := by
 intro A s hA h
 refine wpAny_execs_cons (wpAny_Expr_any ?_ hi hs)
 refine methodCall_KW (pl := pl) (wpAny_mono (hx A _ Y _ s hA (fun _ h => h) h) (fun o s₁ h₁ => ?_) iz) hev
 obtain rfl : o = .ref a := h₁.take fun F z => z.2
 subst hX
 have h₂ := h₁
 obtain ⟨F, m, w⟩ := h₂
 obtain ⟨⟨o, ho, hp⟩, _⟩ := w.own (a, P) (by simp)
 refine hM.met F o s₁ a pl hp ho _ _ ?_
 refine bH (first := [.ref a]) (kv := []) (kn := []) (fun ys zs s₂ h₂ => ?_) KpT.bi (af.cons he .nil hstar) KwT.nil rfl rfl hplain (.inr hst) hA h₁
 obtain ⟨y, rfl⟩ : ∃ y, ys = [y] := h₂.take fun F z => let ⟨y, e, _⟩ := z.1.2.one; ⟨y, e⟩
 obtain rfl : zs = [] := h₂.take fun F z => z.2.none
 refine wpAny_mono (hM.call C σ X₁ X₂ Y _ A s₂ a y hA h₂ fun F z => (by refine ag (z.1.2.one) fun y' e q => ?_; cases e; exact q)) (fun r s₃ h₃ => ?_) iz
 exact hr A s₃ hA (h₃.wk fun _ _ => trivial)
theorem iW.qI {kvs : List (Int × VP)} : iW G (eB G kvs) "get" (.builtin "dict.get") := by
 intro I A τ s pl o h ho
 have h2 := h
 obtain ⟨F, m, w⟩ := h2
 obtain ⟨a, oa, rfl, ha, _, ys, hd, _⟩ := ho F w.tmp
 have hD : s.heap.DictOf (ik G) a ((kvs.map Prod.fst).zip ys) := Heap.dictOf_iff.mpr ⟨oa, (w.fz _ _ ha).1, hd⟩
 exact getMethod_builtin hD.typeIs PySem.F.plainAttrs_dict PySem.F.slot_dict_get PySem.F.type_dict_get hD.mapOf.noDict ⟨rfl, h⟩
theorem FSB.iu {pre : List (Addr × OP)} : ∀ (us : List (Int × Addr × (Nat → Bool))) {F : Fz}, FSB G C σ (pre ++ (us.map fun p => (p.2.1, bt G p.2.2)) ++ X) Y τ s F m → C.xa = [] →
  ∃ F', F.le F' ∧ (∀ p ∈ us, ∃ o, F' p.2.1 = some o ∧ isSet G.led p.2.2 o) ∧ FSB G C σ (pre ++ X) Y τ s F' m
 | [], F, w, _ => ⟨F, Fz.le.refl F, (fun _ h => nomatch h), by simpa using w⟩
 | p :: us, F, w, hxa => by
  have w' : FSB G C σ (pre ++ (p.2.1, bt G p.2.2) :: ((us.map fun p => (p.2.1, bt G p.2.2)) ++ X)) Y τ s F m := by simpa using w
  refine bx (w'.own (p.2.1, bt G p.2.2) (by simp)) fun _ hpa _ => ?_
  have hp : C.s₀.heap.objs.size ≤ p.2.1 := by
   rcases hpa with q | q
   ·exact q
   ·rw [hxa] at q; cases q
  refine gK (w'.freeze hp) fun o F₁ hPo ho le w1 => ?_
  refine cx (FSB.iu (pre := pre) us (F := F₁) (by simpa using w1) hxa) fun F₂ le2 hall w2 => ?_
  refine ⟨F₂, le.trans le2, fun q hq => ?_, w2⟩
  rcases List.mem_cons.mp hq with rfl | hq
  ·exact ⟨o, le2 _ _ ho, hPo⟩
  ·exact hall q hq
theorem nB {us : List (Int × Addr × (Nat → Bool))} (hall : ∀ p ∈ us, ∃ o, F p.2.1 = some o ∧ isSet G.led p.2.2 o) : ∀ {ys : List Value}, Rel2 F (us.map fun p => vIs (.ref p.2.1)) ys → Rel2 F (us.map fun p => ar G p.2.2) ys := by
 induction us with
 | nil => intro ys r; cases r; exact .nil
 | cons p us ih =>
  intro ys r
  cases r with
  | cons a r =>
   obtain rfl := (a : _ = Value.ref p.2.1)
   refine ag (hall p (.head _)) fun o ho hs => ?_
   exact .cons ⟨_, o, rfl, ho, hs⟩ (ih (fun q hq => hall q (.tail _ hq)) r)
noncomputable def gi (us : List (Int × Addr × (Nat → Bool))) : List (Int × VP) := us.map fun p => (p.1, vIs (.ref p.2.1))
noncomputable def fF (G : Gd) (us : List (Int × Addr × (Nat → Bool))) : List (Int × VP) := us.map fun p => (p.1, ar G p.2.2)
noncomputable def rk (G : Gd) (d : Addr) (kvs : List (Int × VP)) : OP := ⟨fun F o => (d == sysModules) = false ∧ (ba G kvs).p F o, fun h x => ⟨x.1, (ba G kvs).mono h x.2⟩⟩
theorem ExT.qB {d : Addr} {us : List (Int × Addr × (Nat → Bool))} {x : Str} {ss : List Stmt} (hX : X.Perm ((d, ba G (gi us)) :: ((us.map fun p => (p.2.1, bt G p.2.2)) ++ X'))) (hxa : C.xa = []) (hx : (x, some (vIs (.ref d))) ∈ σ) (hu : Upd σ x (eB G (fF G us)) σ')
  (hr : ExT G k C σ' X' Y ss Ψ) : ExT G k C σ X Y ss Ψ := by
 intro A s hA h
 have h := h.perm hX.symm
 obtain ⟨F, m, w⟩ := h
 refine cx (FSB.iu (pre := [(d, ba G (gi us))]) (X := X') us (by simpa using w) hxa) fun F₁ le hall w1 => ?_
 have w2 : FSB G C σ ((d, rk G d (fF G us)) :: X') Y MP.tt s F₁ m := { w1 with
  cells := fun z c e => by
   refine bY (w1.cells z c e) fun q1 q2 q3 q4 => ?_
   exact ⟨q1, q2, by simpa using q3, q4⟩
  own := fun q hq => by
   rcases List.mem_cons.mp hq with rfl | hq
   ·refine bx (w1.own _ (.head _)) fun nn0 b c => ?_; obtain ⟨o, ho, ys, hd, r⟩ := nn0
    refine ⟨⟨o, ho, G.lG (w1.dy b), ys, ?_, ?_⟩, b, c⟩
    ·unfold gi at hd
     unfold fF
     rw [List.map_map] at hd ⊢; exact hd
    ·unfold gi at r
     unfold fF
     rw [List.map_map] at r ⊢
     exact nB hall r
   ·exact w1.own q (.tail _ hq)
  nodup := by simpa using w1.nodup }
 exact hr A s hA (FS.frz (X₁ := []) ⟨F₁, m, w2⟩ hxa hx hu fun F o e r => ⟨d, o, rfl, e, r.1, r.2⟩)
theorem aw.oV {kvs : List (Int × VP)} {i : Int} {v v0 : VP} (hv : ∀ w, (i, w) ∈ kvs → w = v) (h0 : i ∉ kvs.map Prod.fst → v0 = v) : aw G k (.builtin "dict.get") [eB G kvs, vInt i, v0] [] [] v := by
 intro I A τ s ys zs hA hS hr
 have h := hS
 obtain ⟨F, m, w⟩ := h
 obtain ⟨hr1, hr2⟩ := hr F w.tmp
 obtain rfl := hr2.none
 obtain ⟨y1, y2, y3, rfl, h1, h2, h3⟩ : ∃ y1 y2 y3, ys = [y1, y2, y3] ∧ (eB G kvs).p F y1 ∧ (vInt i).p F y2 ∧ v0.p F y3 := by
  cases hr1 with
  | cons h1 hr1 => cases hr1 with
   | cons h2 hr1 => cases hr1 with
    | cons h3 hr1 => cases hr1; exact ⟨_, _, _, rfl, h1, h2, h3⟩
 obtain ⟨a, oa, rfl, ha, hne, ws, hd, r⟩ := h1
 obtain ⟨t, rfl⟩ := h2
 have hD : s.heap.DictOf (ik G) a ((kvs.map Prod.fst).zip ws) := Heap.dictOf_iff.mpr ⟨oa, (w.fz _ _ ha).1, hd⟩
 refine call_meetsIn PySem.F.slot_dict_get hD.typeIs PySem.F.entry_dict_get (PySem.F.args_dict_get_3 _ _ _) (meets_dict_get_default (ik G) a (k := i) (intKind_is _ _ _ _) hne y3) ⟨_, hD.mapOf, ?_⟩
 have fin : ∀ z, v.p F z → FS G I (τ.and (v.at z)) { s with toks := s.toks + 1 } := fun z hz => (show FS G I (τ.and (v.at z)) s from ⟨F, m, { w with tmp := ⟨w.tmp, hz⟩ }⟩).toks
 have hl : ws.length = kvs.length := by have := r.length; rwa [List.length_map] at this
 refine o7 (hd) fun es ep q1 q2 q3 q4 q5 => ?_
 have hk := je (i := i) hl q5
 cases q : valueAt ((kvs.map Prod.fst).zip ws) i with
 | none =>
  rw [q] at hk
  refine fin _ (h0 (fun hm => ?_) ▸ h3)
  have := List.contains_iff_mem.mpr hm
  rw [this] at hk; cases hk
 | some z =>
  refine fin z ?_
  unfold valueAt at q
  refine ag (Option.map_eq_some_iff.mp q) fun kv hkv re0 => ?_; subst re0
  have hk : kv.1 = i := by simpa using List.find?_some hkv
  obtain ⟨j, hj⟩ := List.getElem?_of_mem (List.mem_of_find?_eq_some hkv)
  obtain ⟨kk, zz⟩ := kv
  rw [List.getElem?_zip_eq_some] at hj
  obtain ⟨hj1, hj2⟩ := hj
  rw [List.getElem?_map] at hj1
  refine ag (Option.map_eq_some_iff.mp hj1) fun nn0 hj3 e => ?_; obtain ⟨k', w'⟩ := nn0
  refine ag (r.get (i := j) (v := w') (by rw [List.getElem?_map, hj3]; rfl)) fun y hy vy => ?_
  rw [hj2] at hy
  cases hy
  have e' : k' = kk := e
  have hk' : kk = i := hk
  subst e' hk'
  rw [← hv w' (List.mem_of_getElem? hj3)]
  exact vy
theorem iS {F : Fz} : ∀ {p : List Int} {ys : List Value}, Rel2 F (p.map vInt) ys → IntsAre ys p
 | [], ys, r => by cases r; exact .nil
 | n :: p, ys, r => by
  cases r with
  | cons a r =>
   obtain ⟨t, rfl⟩ := a
   exact .cons _ _ (iS r)
theorem aY.inI {p : List Int} {i : Int} : aY G k .In (vInt i) (ae (p.map vInt)) (vBool (p.any (· == i))) := by
 intro I A τ s a b hA hS hab
 have h := hS
 obtain ⟨F, m, w⟩ := h
 obtain ⟨⟨t, rfl⟩, a, ys, n, rfl, e, r⟩ := hab F w.tmp
 exact in_list_ints ⟨_, (w.fz _ _ e).1, rfl, _, rfl⟩ (iS r) (hS.wk fun _ x => ⟨x, rfl⟩)
theorem aY.qF {p : List Int} {i : Int} : aY G k .NotIn (vInt i) (ae (p.map vInt)) (vBool (!p.any (· == i))) := by
 intro I A τ s a b hA hS hab
 have h := hS
 obtain ⟨F, m, w⟩ := h
 obtain ⟨⟨t, rfl⟩, a, ys, n, rfl, e, r⟩ := hab F w.tmp
 exact notin_list_ints ⟨_, (w.fz _ _ e).1, rfl, _, rfl⟩ (iS r) (hS.wk fun _ x => ⟨x, rfl⟩)
theorem aY.eqI {p q : List Int} : aY G k .Eq (ae (p.map vInt)) (ae (q.map vInt)) (vBool (decide (p = q))) := by
 intro I A τ s a b hA hS hab
 have h := hS
 obtain ⟨F, m, w⟩ := h
 obtain ⟨⟨a, ys, n, rfl, e, r⟩, b, zs, n', rfl, e', r'⟩ := hab F w.tmp
 have hu := hA.2.2.2
 exact ke_eq_ints ⟨_, (w.fz _ _ e).1, rfl, _, rfl⟩ ⟨_, (w.fz _ _ e').1, rfl, _, rfl⟩ (iS r) (iS r') (by omega) (hS.wk fun _ x => ⟨x, rfl⟩)
theorem aY.neI {p q : List Int} : aY G k .NotEq (ae (p.map vInt)) (ae (q.map vInt)) (vBool (!decide (p = q))) := by
 intro I A τ s a b hA hS hab
 have h := hS
 obtain ⟨F, m, w⟩ := h
 obtain ⟨⟨a, ys, n, rfl, e, r⟩, b, zs, n', rfl, e', r'⟩ := hab F w.tmp
 have hu := hA.2.2.2
 exact ke_ne_ints ⟨_, (w.fz _ _ e).1, rfl, _, rfl⟩ ⟨_, (w.fz _ _ e').1, rfl, _, rfl⟩ (iS r) (iS r') (by omega) (hS.wk fun _ x => ⟨x, rfl⟩)
theorem aw.sy {p : List Int} : aw G k (.builtin "sum") [ae (p.map vInt)] [] [] (vInt p.sum) := by
 intro I A τ s ys zs hA hS hr
 have h := hS
 obtain ⟨F, m, w⟩ := h
 obtain ⟨⟨y, rfl, a, its, n, rfl, e, r⟩, rfl⟩ := (⟨(hr F w.tmp).1.one, (hr F w.tmp).2.none⟩ : _ ∧ _)
 have hi := iS r
 obtain ⟨xs, hx⟩ := hi.allInts.items
 have hl' : s.heap.IsList a (intItems xs) := hx ▸ (⟨_, (w.fz _ _ e).1, rfl, _, rfl⟩ : s.heap.IsList a its.toArray)
 refine dR (sum_intListG hA.1 hl' fun h' tk t' hk hz => ?_)
 have e1 : p = xs.toList.map (·.1) := by
  rw [← nums_intItems, ← hx]
  exact (show numsOf its.toArray.toList = p from hi.numsOf).symm
 have e2 : preSum (numAt xs) xs.size = p.sum := by
  rw [preSum_eq, List.take_of_length_le (by simp), e1]
 rw [e2]
 exact (hS.grow hk hz).wk fun F z => ⟨z, t', rfl⟩
theorem aw.uJ {p : List Int} {M : Int} (h1 : M ∈ p) (h2 : ∀ a ∈ p, a ≤ M) : aw G k (.builtin "max") [ae (p.map vInt)] [] [] (vInt M) := by
 intro I A τ s ys zs hA hS hr
 have h := hS
 obtain ⟨F, m, w⟩ := h
 obtain ⟨⟨y, rfl, a, its, n, rfl, e, r⟩, rfl⟩ := (⟨(hr F w.tmp).1.one, (hr F w.tmp).2.none⟩ : _ ∧ _)
 have hi := iS r
 obtain ⟨xs, hx⟩ := hi.allInts.items
 have hl' : s.heap.IsList a (intItems xs) := hx ▸ (⟨_, (w.fz _ _ e).1, rfl, _, rfl⟩ : s.heap.IsList a its.toArray)
 have hns : p = xs.toList.map (·.1) := by rw [← hi.numsOf, ← nums_intItems, ← hx]
 have hsz : 0 < xs.size := by
  have h3 := List.length_pos_of_mem h1; rw [hns, List.length_map, Array.length_toList] at h3; exact h3
 refine dR (max_intList hA.1 hl' hsz fun v h' tk hv hk hz => ?_)
 obtain ⟨t, rfl⟩ := intItems_at hv
 obtain ⟨g1, g2⟩ := argBest_gt (numAt xs) (xs.size - 1)
 have m1 : numAt xs (argBest (fun i j => decide (numAt xs i > numAt xs j)) (xs.size - 1)) ∈ p := by
  rw [hns, numAt_eq]; exact getD_mem (by rw [List.length_map, Array.length_toList]; omega)
 have m2 : ∀ a ∈ p, a ≤ numAt xs (argBest (fun i j => decide (numAt xs i > numAt xs j)) (xs.size - 1)) := fun a ha => by
  rw [hns] at ha
  refine ag (mem_getD ha) fun j hj re0 => ?_; subst re0
  rw [List.length_map, Array.length_toList] at hj
  rw [← numAt_eq]; exact g2 j (by omega)
 have e2 := Int.le_antisymm (h2 _ m1) (m2 _ h1)
 rw [e2]
 exact (hS.grow hk hz).wk fun F z => ⟨z, t, rfl⟩
theorem aw.uk {p : List Int} {M : Int} (h1 : M ∈ p) (h2 : ∀ a ∈ p, M ≤ a) : aw G k (.builtin "min") [ae (p.map vInt)] [] [] (vInt M) := by
 intro I A τ s ys zs hA hS hr
 have h := hS
 obtain ⟨F, m, w⟩ := h
 obtain ⟨⟨y, rfl, a, its, n, rfl, e, r⟩, rfl⟩ := (⟨(hr F w.tmp).1.one, (hr F w.tmp).2.none⟩ : _ ∧ _)
 have hi := iS r
 obtain ⟨xs, hx⟩ := hi.allInts.items
 have hl' : s.heap.IsList a (intItems xs) := hx ▸ (⟨_, (w.fz _ _ e).1, rfl, _, rfl⟩ : s.heap.IsList a its.toArray)
 have hns : p = xs.toList.map (·.1) := by rw [← hi.numsOf, ← nums_intItems, ← hx]
 have hsz : 0 < xs.size := by
  have h3 := List.length_pos_of_mem h1; rw [hns, List.length_map, Array.length_toList] at h3; exact h3
 refine dR (min_intList hA.1 hl' hsz fun v h' tk hv hk hz => ?_)
 obtain ⟨t, rfl⟩ := intItems_at hv
 obtain ⟨g1, g2⟩ := argBest_lt (numAt xs) (xs.size - 1)
 have m1 : numAt xs (argBest (fun i j => decide (numAt xs i < numAt xs j)) (xs.size - 1)) ∈ p := by
  rw [hns, numAt_eq]; exact getD_mem (by rw [List.length_map, Array.length_toList]; omega)
 have m2 : ∀ a ∈ p, numAt xs (argBest (fun i j => decide (numAt xs i < numAt xs j)) (xs.size - 1)) ≤ a := fun a ha => by
  rw [hns] at ha
  refine ag (mem_getD ha) fun j hj re0 => ?_; subst re0
  rw [List.length_map, Array.length_toList] at hj
  rw [← numAt_eq]; exact g2 j (by omega)
 have e2 := Int.le_antisymm (m2 _ h1) (h2 _ m1)
 rw [e2]
 exact (hS.grow hk hz).wk fun F z => ⟨z, t, rfl⟩
theorem aw.min2 {i j : Int} : aw G k (.builtin "min") [vInt i, vInt j] [] [] (vInt (min i j)) := by
 intro I A τ s ys zs hA hS hr
 have h := hS
 obtain ⟨F, m, w⟩ := h
 obtain ⟨⟨y, z, rfl, ⟨t, rfl⟩, u, rfl⟩, rfl⟩ := (⟨(hr F w.tmp).1.two, (hr F w.tmp).2.none⟩ : _ ∧ _)
 refine dR (min_two_ints hA.1 fun h' tk hk hz => ?_)
 by_cases q : j < i
 ·have e : min i j = j := by rw [Int.min_def, if_neg (by omega)]
  rw [e]
  simp only [if_pos q, decide_true]
  exact (hS.grow hk hz).wk fun F z => ⟨z, u, rfl⟩
 ·have e : min i j = i := by rw [Int.min_def, if_pos (by omega)]
  rw [e]
  simp only [if_neg q, decide_false]
  exact (hS.grow hk hz).wk fun F z => ⟨z, t, rfl⟩
theorem mR (items : Array Value) (b : Nat) : slicePick items none (some b) none = (items.toList.take b).toArray := by
 rcases Nat.lt_or_ge items.size b with h | h
 ·have e : sliceBounds none (some (b : Int)) none items.size = sliceBounds none (some (items.size : Int)) none items.size := by
   simp only [sliceBounds, Option.getD_none]
   have h1 : ¬ ((b : Int) < 0) := by omega
   have h2 : ¬ ((items.size : Int) < 0) := by omega
   simp only [h1, h2, if_false]
   have : min (b : Int) items.size = min (items.size : Int) items.size := sj
   rw [this]
   simp
  have : slicePick items none (some b) none = slicePick items none (some items.size) none := by
   unfold slicePick
   rw [e]
  rw [this, slicePick_upto items items.size (Nat.le_refl _), List.take_of_length_le (by simp), List.take_of_length_le (by simp; exact Z26)]
 ·exact slicePick_upto items b h
theorem mG (items : Array Value) (a : Nat) : slicePick items (some a) none none = (items.toList.drop a).toArray := by
 rcases Nat.lt_or_ge items.size a with h | h
 ·have e : sliceBounds (some (a : Int)) none none items.size = sliceBounds (some (items.size : Int)) none none items.size := by
   simp only [sliceBounds, Option.getD_none]
   have h1 : ¬ ((a : Int) < 0) := by omega
   have h2 : ¬ ((items.size : Int) < 0) := by omega
   simp only [h1, h2, if_false]
   have : min (a : Int) items.size = min (items.size : Int) items.size := sj
   rw [this]
   simp
  have : slicePick items (some a) none none = slicePick items (some items.size) none none := by
   unfold slicePick
   rw [e]
  rw [this, slicePick_from items items.size (Nat.le_refl _), List.drop_eq_nil_of_le (by simp), List.drop_eq_nil_of_le (by simp; exact Z26)]
 ·exact slicePick_from items a h
theorem Rel2.take {l : List VP} {ys : List Value} (r : Rel2 F l ys) : ∀ n, Rel2 F (l.take n) (ys.take n) := by
 induction r with
 | nil => intro n; simp; exact .nil
 | cons a _ ih =>
  intro n
  cases n with
  | zero => exact .nil
  | succ n => exact .cons a (ih n)
theorem Rel2.drop {l : List VP} {ys : List Value} (r : Rel2 F l ys) : ∀ n, Rel2 F (l.drop n) (ys.drop n) := by
 induction r with
 | nil => intro n; simp; exact .nil
 | cons a r ih =>
  intro n
  cases n with
  | zero => exact .cons a r
  | succ n => exact ih n
theorem EvT.slice {value : Expr} {lower upper : Option Expr} {lo hi : Option Int} {l l' : List VP} {p pos : Pos} (hv : EvT G k C σ value (ae l)) (hl : ∀ A X Y τ s, AOk k A → FS G ⟨C, σ, X, Y⟩ τ s → wpAny G.M A (evalPart lower C.env) (fun v s' => IsPart v lo ∧ FS G ⟨C, σ, X, Y⟩ τ s') ff s) (hu : ∀ A X Y τ s, AOk k A → FS G ⟨C, σ, X, Y⟩ τ s → wpAny G.M A (evalPart upper C.env) (fun v s' => IsPart v hi ∧ FS G ⟨C, σ, X, Y⟩ τ s') ff s)
  (hz : l.length ≤ 1000) (hp : ∀ (F : Fz) (ys : List Value), Rel2 F l ys → Rel2 F l' (slicePick ys.toArray lo hi none).toList) (ht : ∀ o r, letTemporaryGo value o r = pure () := by intro _ _; rfl) : EvT G k C σ (.Subscript value (.Slice lower upper none p) pos) (ae l') := by
 intro A X Y τ s hA h
 refine wpAny_Subscript_Slice (T := "list") slot_list_getitem.lookup (wpAny_mono (hv A X Y τ s hA h) (fun o s₁ h₁ => ?_) iz) ht
 refine wpAny_Slice (wpAny_mono (hl A X Y _ s₁ hA h₁) (fun vl s₂ h₂ => ?_) iz)
 refine wpAny_mono (hu A X Y _ s₂ hA h₂.2) (fun vu s₃ h₃ => ?_) iz
 refine wpAny_of_eq (evalPart_none _) ?_
 obtain ⟨pu, h₃⟩ := h₃
 have pl := h₂.1
 have h₄ := h₃
 obtain ⟨F, m, w⟩ := h₄
 obtain ⟨a, ys, n, rfl, e, r⟩ := w.tmp.2
 have hL : s₃.heap.IsList a ys.toArray := ⟨_, (w.fz _ _ e).1, rfl, _, rfl⟩
 have hlen := r.length
 have hL2 : (s₃.heap.push { cls := .type "slice", data := .fields #[vl, vu, .none] }).IsList a ys.toArray := hL.push _
 refine ⟨hL2.typeIs, wpAny_getItem_list_slice hL2 (Heap.IsSliceOf.new ..) pl pu .none (by simp) ?_ (by simp; rw [sizeLine_eq]; exact Z19)⟩
 have h5 : FS G ⟨C, σ, X, Y⟩ (τ.and (rl l' (slicePick ys.toArray lo hi none).toList)) s₃ := ⟨F, m, { w with tmp := ⟨w.tmp.1, hp F ys r⟩ }⟩
 refine h5.made (fun b o e => Heap.get?_push_of_some _ (Heap.get?_push_of_some _ e)) (by rw [Heap.size_push, Heap.size_push]; exact Z23) fun F F' z hle _ hn => ⟨z.1, _, (slicePick ys.toArray lo hi none).toList, 0, rfl, hn _ _ (Heap.get?_push_size _ rfl) ?_, z.2⟩
 show s₃.heap.objs.size ≤ (s₃.heap.push _).objs.size
 rw [Heap.size_push]; exact Z22
theorem EvT.take {value e : Expr} {l : List VP} {b : Nat} {p pos : Pos} (hv : EvT G k C σ value (ae l)) (he : EvT G k C σ e (vInt b)) (hz : l.length ≤ 1000) (ht : ∀ o r, letTemporaryGo value o r = pure () := by intro _ _; rfl) : EvT G k C σ (.Subscript value (.Slice none (some e) none p) pos) (ae (l.take b)) := by
 refine .slice (lo := none) (hi := some (b : Int)) hv (fun A X Y τ s hA h => wpAny_of_eq (evalPart_none _) ⟨.none, h⟩) (fun A X Y τ s hA h => ?_) hz (fun F ys r => by rw [mR]; simpa using r.take b) ht
 rw [evalPart_some]
 refine wpAny_mono (he A X Y τ s hA h) (fun y s' h' => ?_) iz
 obtain ⟨t, rfl⟩ := h'.take (P := ∃ t, y = .int b t) fun F z => z.2
 exact ⟨.int _ _, h'.wk fun F z => z.1⟩
theorem EvT.drop {value e : Expr} {l : List VP} {a : Nat} {p pos : Pos} (hv : EvT G k C σ value (ae l)) (he : EvT G k C σ e (vInt a)) (hz : l.length ≤ 1000) (ht : ∀ o r, letTemporaryGo value o r = pure () := by intro _ _; rfl) : EvT G k C σ (.Subscript value (.Slice (some e) none none p) pos) (ae (l.drop a)) := by
 refine .slice (lo := some (a : Int)) (hi := none) hv (fun A X Y τ s hA h => ?_) (fun A X Y τ s hA h => wpAny_of_eq (evalPart_none _) ⟨.none, h⟩) hz (fun F ys r => by rw [mG]; simpa using r.drop a) ht
 rw [evalPart_some]
 refine wpAny_mono (he A X Y τ s hA h) (fun y s' h' => ?_) iz
 obtain ⟨t, rfl⟩ := h'.take (P := ∃ t, y = .int a t) fun F z => z.2
 exact ⟨.int _ _, h'.wk fun F z => z.1⟩
theorem EvX.last {x : Str} {a : Addr} {l : List VP} {v : VP} {e : Expr} {p q : Pos} (hx : (x, some (vIs (.ref a))) ∈ σ) (hR : (a, aC (l ++ [v])) ∈ R) (he : EvT G k C σ e (vInt (-1))) (hz : l.length ≤ 1000) (hs : iF e := by intro _ _ _; with_unfolding_all rfl)
  (hd : autoParam ((x == ("__debug__" : Str)) = false) tcD) (hn : autoParam ((x == ("__classdict__" : Str)) = false) tcD) : EvX G k C σ R (.Subscript (.Name x q) e p) v := by
 intro A X Y τ s hA hRX h
 refine Subscript_ (wpAny_mono (EvT.var (k := k) hx hd hn A X Y τ s hA h) (fun y s₁ h₁ => wpAny_mono (he A X Y _ s₁ hA h₁) (fun z s₂ h₂ => ?_) iz) iz)
 obtain rfl : y = .ref a := h₂.take fun F z => z.1.2
 obtain ⟨t, rfl⟩ := h₂.take (P := ∃ t, z = .int (-1) t) fun F z => z.2
 obtain ⟨F, m, w⟩ := h₂
 refine bx (w.own _ (hRX _ hR)) fun nn0 hp _ => ?_; obtain ⟨o, ho, ys, n, rfl, r⟩ := nn0
 refine ag (r.get (i := l.length) (v := v) (by simp)) fun y hy vy => ?_
 have hlen := r.length
 rw [List.length_append, List.length_singleton] at hlen
 have hL : s₂.heap.IsList a ys.toArray := ⟨_, ho, rfl, _, rfl⟩
 have hj : ((-1 : Int) + (ys.toArray.size : Int)).toNat = l.length := by rw [List.size_toArray]; exact uO
 refine fR hL.typeIs slot_list_getitem.lookup (wpAny_getItem_list_neg hL Z59 (by rw [List.size_toArray]; omega) Z59 (x := y) (by rw [hj]; simpa using hy) ?_) (hs _ _ _)
 exact ⟨F, m, { w with tmp := ⟨w.tmp.1.1, vy⟩ }⟩
theorem TsT.sJ {a b c : Expr} {p : Pos} {x y z : Bool} (ha : TsT G k C σ a x) (hb : x = true → TsT G k C σ b y) (hc : x = true → y = true → TsT G k C σ c z) : TsT G k C σ (.BoolOp .And [a, b, c] p) (x && (y && z)) := by
 intro A X Y τ s hA h
 refine wpAny_isTrue_BoolOp (wpAny_allTrue_And_cons (wpAny_mono (ha A X Y τ s hA h) (fun b' s₁ h₁ => ?_) iz))
 obtain ⟨rfl, h₁⟩ := h₁
 cases b' with
 | false => exact ⟨rfl, h₁⟩
 | true =>
  show wpAny _ _ _ _ _ _
  refine wpAny_allTrue_And_cons (wpAny_mono (hb rfl A X Y τ s₁ hA h₁) (fun b' s₂ h₂ => ?_) iz)
  obtain ⟨rfl, h₂⟩ := h₂
  cases b' with
  | false => exact ⟨rfl, h₂⟩
  | true =>
   show wpAny _ _ _ _ _ _
   refine wpAny_allTrue_And_cons (wpAny_mono (hc rfl rfl A X Y τ s₂ hA h₂) (fun b' s₃ h₃ => ?_) iz)
   obtain ⟨rfl, h₃⟩ := h₃
   cases b' with
   | false => exact ⟨rfl, h₃⟩
   | true => exact wpAny_allTrue_And_nil ⟨rfl, h₃⟩
theorem ExT.uy {a : Addr} {P : OP} {x : Str} {v0 v : VP} {ss : List Stmt} (hX : X = X₁ ++ (a, P) :: X₂) (hxa : C.xa = []) (hx : (x, some v0) ∈ σ) (hu : Upd σ x v σ') (hv : ∀ (F : Fz) o y, F a = some o → P.p F o → v0.p F y → v.p F y) (hr : ExT G k C σ' (X₁ ++ X₂) Y ss Ψ) : ExT G k C σ X Y ss Ψ := by
 subst hX
 intro A s hA h
 refine hr A s hA ?_
 obtain ⟨F, m, w⟩ := h
 have pr := (w.own (a, P) (by simp)).2.1
 have hp : C.s₀.heap.objs.size ≤ a := by
  rcases pr with p | p
  ·exact p
  ·rw [hxa] at p; cases p
 refine gK (w.freeze hp) fun o F' hP hF' le w' => ?_
 refine ⟨F', m, { w' with names := by rw [hu.names]; exact w'.names, vars := fun z u e => ?_ }⟩
 rcases hu.mem w'.names _ e with q | ⟨e, q⟩
 ·cases q
  refine ag (w'.vars _ _ hx) fun y va e => ?_
  exact ⟨_, va, hv F' o y hF' (P.mono le hP) e⟩
 ·exact w'.vars z u e
theorem ExT.mJ {x : Str} {e : Expr} {P : OP} {v : Addr → VP} {σn : Addr → Sto} {p q : Pos} {rest : List Stmt} (he : ∀ A s, AOk k A → FS G ⟨C, σ, X, Y⟩ MP.tt s → wpAny G.M A (eval e C.env) (fun y s' => ∃ b, FS G ⟨C, σ, (b, P) :: X, Y⟩ ((v b).at y) s') ff s) (hx : C.st x) (hu : ∀ b, Upd σ x (v b) (σn b)) (hr : ∀ b, ExT G k C (σn b) ((b, P) :: X) Y rest Ψ)
  (hs : autoParam (swapsWith e (some (.Name x q)) p.line C.env = pure false) tcR) : ExT G k C σ X Y (.Assign [.Name x q] e p :: rest) Ψ := by
 intro A s hA h
 refine wpAny_execs_cons (wpAny_Assign_Name (wpAny_mono (he A s hA h) (fun y s₁ h₁ => ?_) iz) hs)
 obtain ⟨b, h₁⟩ := h₁
 exact bL h₁ hx (fun F z => z) (hu b) fun s' h' => hr b A s' hA (h'.wk fun _ _ => trivial)
noncomputable def kN (G : Gd) (k : Nat) (C : Cx) (σ : Sto) (R : List (Addr × OP)) (pos : Pos) (es : List Expr) (vl : List VP) : Prop :=
 ∀ A X Y τ s, AOk k A → (∀ p ∈ R, p ∈ X) → FS G ⟨C, σ, X, Y⟩ τ s → wpAny G.M A (spliced (backTo pos (starEach es C.env))) (fun ys s' => FS G ⟨C, σ, X, Y⟩ (τ.and (rl vl ys)) s') ff s
theorem kN.nil {pos : Pos} : kN G k C σ R pos [] [] := fun _ _ _ _ _ _ _ h => wpAny_items_nil (h.wk fun _ x => ⟨x, .nil⟩)
theorem kN.cons {pos : Pos} {e : Expr} {es : List Expr} {v : VP} {vl : List VP} (he : EvX G k C σ R e v) (hr : kN G k C σ R pos es vl) (hs : autoParam (starEach (e :: es) C.env = (false, eval e C.env) :: starEach es C.env) tcR) : kN G k C σ R pos (e :: es) (v :: vl) := by
 intro A X Y τ s hA hR h
 refine wpAny_items_cons (wpAny_mono (he A X Y τ s hA hR h) (fun y s₁ h₁ => ?_) iz) hs
 exact wpAny_mono (hr A X Y _ s₁ hA hR h₁) (fun ys s₂ h₂ => h₂.wk fun F z => ⟨z.1.1, .cons z.1.2 z.2⟩) iz
theorem fg {f : Value} {first : List Value} {pos kv : List VP} {kn : List Str} {p : Pos} {args : List Expr} {kws : List Keyword} {Q : Value → Shared → Prop}
  (hcall : ∀ ys zs s₂, FS G ⟨C, σ, X, Y⟩ ((τ.and (rl pos ys)).and (rl kv zs)) s₂ → wpAny G.M A (PySem.call f (first ++ ys) (kn.zip zs)) Q ff s₂) (hkp : KpT G f)
  (ha : kN G k C σ R p args pos) (hRX : ∀ p ∈ R, p ∈ X) (hk : KwT G k C σ p kws kv) (hkn : (backToKw p (keywordEach kws C.env)).filterMap (·.1) = kn) (hall : (backToKw p (keywordEach kws C.env)).all (·.1.isSome) = true)
  (hplain : ((backTo p (starEach args C.env)).any (·.1) || (backToKw p (keywordEach kws C.env)).any (·.1.isNone)) = false) (hst : (args = [] ∧ pos = []) ∨ ∃ x r, backTo p (starEach args C.env) = (false, x) :: r)
  (hA : AOk k A) (h : FS G ⟨C, σ, X, Y⟩ τ s) :
  wpAny G.M A (callWith p f first (backTo p (starEach args C.env)) (backToKw p (keywordEach kws C.env))) Q ff s := by
 have tail : ∀ (ys : List Value) (s₁ : Shared), FS G ⟨C, σ, X, Y⟩ (τ.and (rl pos ys)) s₁ → wpAny G.M A (evalAll ((backToKw p (keywordEach kws C.env)).map (·.2)))
   (fun ks s₂ => G.K.In s₂.heap ∧ wpAny G.M A (PySem.call f (first ++ ys) (((backToKw p (keywordEach kws C.env)).filterMap (·.1)).zip ks)) Q ff s₂) ff s₁ := fun ys s₁ h₁ =>
  wpAny_mono (hk A X Y _ s₁ hA h₁) (fun zs s₂ h₂ => ⟨h₂.wd.K, by rw [hkn]; exact hcall ys zs s₂ h₂⟩) iz
 refine callWith_of (P := G.K.In) hplain hkp ?_
 rcases hst with ⟨e, e'⟩ | ⟨x, r, e⟩
 ·subst e e'
  refine evalArgs_kw_nil hall ?_
  exact tail [] s (h.wk fun F z => ⟨z, .nil⟩)
 ·have a1 := ha A X Y τ s hA hRX h
  rw [e] at a1 ⊢
  exact evalArgs_kw hall (wpAny_mono a1 (fun ys s₁ h₁ => tail ys s₁ h₁) iz)
theorem EvX.call {x : Str} {f : Value} {pos : List VP} {kn : List Str} {kv : List VP} {v : VP} {q p : Pos} {args : List Expr} {kws : List Keyword} (hx : EvT G k C σ (.Name x q) (vIs f)) (hf : aw G k f pos kn kv v) (hkp : KpT G f)
  (ha : kN G k C σ R p args pos) (hk : KwT G k C σ p kws kv) (hkn : autoParam ((backToKw p (keywordEach kws C.env)).filterMap (·.1) = kn) tcR) (hall : autoParam ((backToKw p (keywordEach kws C.env)).all (·.1.isSome) = true) tcR)
  (hplain : autoParam (((backTo p (starEach args C.env)).any (·.1) || (backToKw p (keywordEach kws C.env)).any (·.1.isNone)) = false) tcR) (hst : (args = [] ∧ pos = []) ∨ ∃ x r, backTo p (starEach args C.env) = (false, x) :: r := by first | exact .inr ⟨_, _, rfl⟩ | exact .inl ⟨rfl, rfl⟩) :
  EvX G k C σ R (.Call (.Name x q) args kws p) v := by
 intro A X Y τ s hA hR h
 refine wpAny_Call_Name_kw (wpAny_mono (hx A X Y τ s hA h) (fun y s₁ h₁ => ?_) iz)
 obtain rfl : y = f := h₁.take fun F z => z.2
 refine fg (first := []) (fun ys zs s₂ h₂ => ?_) hkp ha hR hk hkn hall hplain hst hA h₁
 exact wpAny_mono (hf _ A _ s₂ ys zs hA h₂ fun F z => ⟨z.1.2, z.2⟩) (fun r s₃ h₃ => h₃.wk fun F z => ⟨z.1.1.1.1, z.2⟩) iz
theorem EvX.sub {value slice : Expr} {vo vi v : VP} {p : Pos} (ho : EvX G k C σ R value vo) (hi : EvT G k C σ slice vi) (hs : iP G k value slice vo vi v) : EvX G k C σ R (.Subscript value slice p) v := by
 intro A X Y τ s hA hR h
 refine Subscript_ (wpAny_mono (ho A X Y τ s hA hR h) (fun y s₁ h₁ => wpAny_mono (hi A X Y _ s₁ hA h₁) (fun z s₂ h₂ => ?_) iz) iz)
 exact wpAny_mono (hs _ A _ s₂ y z hA h₂ fun F z => ⟨z.1.2, z.2⟩) (fun r s₃ h₃ => h₃.wk fun F z => ⟨z.1.1.1, z.2⟩) iz
theorem ExT.qC {oe : Expr} {name : Str} {vo : VP} {f : Value} {pos : List VP} {ap p p2 : Pos} {args : List Expr} {rest : List Stmt} {pl : Sem Bool} (ho : EvT G k C σ oe vo) (hm : iW G vo name f) (hkp : KpT G f) (ha : kN G k C σ X p args pos)
  (hcall : ∀ A s o ys τ, AOk k A → FS G ⟨C, σ, X, Y⟩ τ s → (∀ F, τ.p F → vo.p F o ∧ Rel2 F pos ys) → wpAny G.M A (PySem.call f (o :: ys)) (fun _ s' => FS G ⟨C, σ, X', Y⟩ MP.tt s') ff s)
  (hr : ExT G k C σ X' Y rest Ψ)
  (he : eval (.Call (.Attribute oe name ap) args [] p) C.env = (do
   let ov ← eval oe C.env
   standAt ap.atName
   let (f, first) ← holding [ov] (getMethod ov name pl)
   callWith p f first (backTo p (starEach args C.env)) (backToKw p (keywordEach [] C.env))) := by rfl)
  (hplain : autoParam (((backTo p (starEach args C.env)).any (·.1) || (backToKw p (keywordEach [] C.env)).any (·.1.isNone)) = false) tcR) (hst : (args = [] ∧ pos = []) ∨ ∃ x r, backTo p (starEach args C.env) = (false, x) :: r := by first | exact .inr ⟨_, _, rfl⟩ | exact .inl ⟨rfl, rfl⟩)
  (hi : autoParam (interactive C.env = false) tcR) (hs : autoParam (swapsWith (.Call (.Attribute oe name ap) args [] p) none p2.line C.env = pure false) tcR) :
  ExT G k C σ X Y (.Expr (.Call (.Attribute oe name ap) args [] p) p2 :: rest) Ψ := by
 intro A s hA h
 refine wpAny_execs_cons (wpAny_Expr_any ?_ hi hs)
 refine methodCall_KW (pl := pl) (wpAny_mono (ho A _ Y _ s hA h) (fun o s₁ h₁ => ?_) iz) he
 refine wpAny_mono (hm _ A _ s₁ pl o h₁ fun F z => z.2) (fun r s₂ h₂ => ?_) iz
 obtain ⟨rfl, h₂⟩ := h₂
 refine fg (first := [o]) (kv := []) (kn := []) (fun ys zs s₃ h₃ => ?_) hkp ha (fun _ h => h) KwT.nil rfl rfl hplain hst hA h₂
 obtain rfl : zs = [] := h₃.take fun F z => z.2.none
 exact wpAny_mono (hcall A s₃ o ys _ hA h₃ fun F z => ⟨z.1.1.2, z.1.2⟩) (fun r s₄ h₄ => hr A s₄ hA h₄) iz
structure Gd.Main (G : Gd) : Prop where
 K : G.K = KK G.w.params
 tabs : ∀ p ∈ ([(29, 25), (385, 381), (296, 292), (309, 307), (322, 320)] : List (Addr × Addr)), p ∈ G.tabs
theorem aw.le {f : Value} {pos kv : List VP} {kn : List Str} {v : VP} (h : aw G j f pos kn kv v) (l : j ≤ k) : aw G k f pos kn kv v := fun I A τ s ys zs hA hs hr => h I A τ s ys zs (hA.le l) hs hr
theorem EvT.le {e : Expr} {v : VP} (h : EvT G j C σ e v) (l : j ≤ k) : EvT G k C σ e v := fun A X Y τ s hA hs => h A X Y τ s (hA.le l) hs
theorem TsT.le {e : Expr} {b : Bool} (h : TsT G j C σ e b) (l : j ≤ k) : TsT G k C σ e b := fun A X Y τ s hA hs => h A X Y τ s (hA.le l) hs
theorem cz {x : Str} {v : VP} : ∀ {l : List (Str × VP)}, l.lookup x = some v → (x, v) ∈ l
 | (y, u) :: r, h => by
  rw [List.lookup_cons] at h
  split at h
  ·rename_i e
   cases h
   rw [eq_of_beq e]; exact .head _
  ·exact .tail _ (cz h)
theorem FnT.fn {a : Addr} {oc : Value} {od : Option Addr} {osl : Array (Option Value)} {fd : FuncData} {stmts : List Stmt} {pos kv bv : List VP} {kn pn : List Str} {v : VP} {σ0 : Sto} (hG : G.Main)
  (hK : (KK G.w.params).lookup a = some ⟨oc, od, .func fd, osl⟩) (hcd : codeIn (KK G.w.params) fd.code fd.qualname = true) (hσ0 : σ0 = (av fd.scope).map fun n => (n, (pn.zip bv).lookup n)) (hbody : fd.body = .stmts stmts)
  (hc : fd.globals = mainGlobals ∧ fd.builtins = builtinsNs ∧ fd.closure = [] ∧ fd.scope.kind = .function ∧ fd.scope.isCoroutine = false ∧ fd.scope.isGenerator = false)
  (hbind : ∀ (ys zs : List Value) (s : Shared), ys.length = pos.length → zs.length = kv.length → Wd G s → ∃ bs : List Value, BindsTo s fd ⟨ys, kn.zip zs⟩ (pn.zip bs) ∧ bs.length = pn.length ∧ ∀ F, Rel2 F pos ys → Rel2 F kv zs → Rel2 F bv bs)
  (hnd : (fd.scope.names.map (·.1)).Nodup ∧ pn.Nodup ∧ ∀ x ∈ pn, x ∈ av fd.scope)
  (body : ∀ (s₀ : Shared) (F₀ : Fz), (∀ x ∈ σ0.map (·.1), Cx.st ⟨callEnvC fd s₀.heap.objs.size a, s₀, F₀, [], []⟩ x) → ExT G k ⟨callEnvC fd s₀.heap.objs.size a, s₀, F₀, [], []⟩ σ0 [] [] stmts (j2 G ⟨callEnvC fd s₀.heap.objs.size a, s₀, F₀, [], []⟩ v)) :
  FnT G (k + 1) (.ref a) pos kn kv v := by
 refine rp (hc) fun c1 c2 c3 c4 c5 c6 => ?_
 refine bx (hnd) fun n1 n2 n3 => ?_
 refine FnT.of_body (by rw [hG.K]; exact hK) (by rw [hG.K]; exact hcd) hbody ⟨c1, c2⟩ c3 c4 c5 c6 hbind n1 n2 n3 ?_ ?_ body
 ·rw [hσ0, List.map_map]
  exact List.map_id _
 ·intro x u h
  rw [hσ0] at h
  refine ag (List.mem_map.mp h) fun n _ e => ?_
  have e1 : n = x := congrArg Prod.fst e
  have e2 : (pn.zip bv).lookup n = some u := congrArg Prod.snd e
  subst e1
  exact cz e2
theorem Rel2.app {F : Fz} {l l' : List VP} {ys zs : List Value} (a : Rel2 F l ys) (b : Rel2 F l' zs) : Rel2 F (l ++ l') (ys ++ zs) := by
 induction a with
 | nil => exact b
 | cons x _ ih => exact .cons x ih
theorem r0 (F : Fz) : Rel2 F [] [] := .nil
theorem r1n (F : Fz) : Rel2 F [cT] [.none] := .cons rfl .nil
theorem bindG {fd : FuncData} {G : Gd} {pos kv v1 v2 : List VP} {kn pn : List Str} {d1 d2 : List Value} (h1 : ∀ F, Rel2 F v1 d1) (h2 : ∀ F, Rel2 F v2 d2)
  (h : ∀ ys zs, ys.length = pos.length → zs.length = kv.length → ∀ s, Wd G s → BindsTo s fd ⟨ys, kn.zip zs⟩ (pn.zip (ys ++ (d1 ++ (zs ++ d2))))) (hl : pn.length = pos.length + (d1.length + (kv.length + d2.length)))
  (ys zs : List Value) (s : Shared) (e1 : ys.length = pos.length) (e2 : zs.length = kv.length) (w : Wd G s) :
  ∃ bs : List Value, BindsTo s fd ⟨ys, kn.zip zs⟩ (pn.zip bs) ∧ bs.length = pn.length ∧ ∀ F, Rel2 F pos ys → Rel2 F kv zs → Rel2 F (pos ++ (v1 ++ (kv ++ v2))) bs :=
 ⟨_, h ys zs e1 e2 s w, by rw [hl, List.length_append, List.length_append, List.length_append, e1, e2], fun F a b => a.app ((h1 F).app (b.app (h2 F)))⟩
noncomputable def km : Nat → (List Value → Prop) → Prop
 | 0, P => P []
 | n + 1, P => ∀ a, km n fun l => P (a :: l)
theorem km.all : ∀ {n : Nat} {P : List Value → Prop}, km n P → ∀ l, l.length = n → P l
 | 0, _, h, l, e => List.length_eq_zero_iff.mp e ▸ h
 | _ + 1, _, _, [], e => nomatch e
 | _ + 1, _, h, a :: l, e => (h a).all l (Nat.succ.inj e)
theorem lD {P : List Value → List Value → Prop} {m n : Nat} (h : km m fun ys => km n (P ys)) (ys zs : List Value) (e : ys.length = m) (e' : zs.length = n) : P ys zs := (h.all ys e).all zs e'
theorem pY {P : List Value → List Value → Prop} (h : ∀ a b, P [a] [b]) : ∀ ys zs, ys.length = 1 → zs.length = 1 → P ys zs := lD (m := 1) (n := 1) h
theorem sL {P : List Value → List Value → Prop} (h : ∀ a, P [a] []) : ∀ ys zs, ys.length = 1 → zs.length = 0 → P ys zs := lD (m := 1) (n := 0) h
theorem mD {P : List Value → List Value → Prop} (h : ∀ a b c, P [a, b] [c]) : ∀ ys zs, ys.length = 2 → zs.length = 1 → P ys zs := lD (m := 2) (n := 1) h
theorem mB {P : List Value → List Value → Prop} (h : ∀ a b c d, P [a, b] [c, d]) : ∀ ys zs, ys.length = 2 → zs.length = 2 → P ys zs := lD (m := 2) (n := 2) h
theorem sD {P : List Value → List Value → Prop} (h : ∀ a b c d, P [a, b, c] [d]) : ∀ ys zs, ys.length = 3 → zs.length = 1 → P ys zs := lD (m := 3) (n := 1) h
theorem i9 {P : List Value → List Value → Prop} (h : ∀ a b c d e, P [a, b, c] [d, e]) : ∀ ys zs, ys.length = 3 → zs.length = 2 → P ys zs := lD (m := 3) (n := 2) h
theorem rR {P : List Value → List Value → Prop} (h : ∀ a b c d e f, P [a, b, c, d, e, f] []) : ∀ ys zs, ys.length = 6 → zs.length = 0 → P ys zs := lD (m := 6) (n := 0) h
theorem ln1 {ys : List Value} (h : ys.length = 1) : ∃ y, ys = [y] := km.all (n := 1) (P := fun ys => ∃ y, ys = [y]) (fun y => ⟨y, rfl⟩) ys h
theorem ln2 {ys : List Value} (h : ys.length = 2) : ∃ y z, ys = [y, z] := km.all (n := 2) (P := fun ys => ∃ y z, ys = [y, z]) (fun y z => ⟨y, z, rfl⟩) ys h
theorem ln3 {ys : List Value} (h : ys.length = 3) : ∃ y z u, ys = [y, z, u] := km.all (n := 3) (P := fun ys => ∃ y z u, ys = [y, z, u]) (fun y z u => ⟨y, z, u, rfl⟩) ys h
theorem bind1 {fd : FuncData} {x1 : Str} {v1 : VP} {G : Gd} (h : ∀ y s, Wd G s → BindsTo s fd ⟨[y], []⟩ [(x1, y)]) (ys zs : List Value) (s : Shared) (h1 : ys.length = [v1].length) (h2 : zs.length = ([] : List VP).length) (w : Wd G s) :
  ∃ bs : List Value, BindsTo s fd ⟨ys, ([] : List Str).zip zs⟩ ([x1].zip bs) ∧ bs.length = [x1].length ∧ ∀ F, Rel2 F [v1] ys → Rel2 F [] zs → Rel2 F [v1] bs := by
 obtain ⟨y, rfl⟩ := List.length_eq_one_iff.mp h1
 exact ⟨[y], h y s w, rfl, fun F a b => a⟩
theorem ja {fd : FuncData} {x1 x2 : Str} {v1 v2 : VP} {G : Gd} (h : ∀ y z s, Wd G s → BindsTo s fd ⟨[y, z], []⟩ [(x1, y), (x2, z)]) (ys zs : List Value) (s : Shared) (h1 : ys.length = [v1, v2].length) (h2 : zs.length = ([] : List VP).length) (w : Wd G s) :
  ∃ bs : List Value, BindsTo s fd ⟨ys, ([] : List Str).zip zs⟩ ([x1, x2].zip bs) ∧ bs.length = [x1, x2].length ∧ ∀ F, Rel2 F [v1, v2] ys → Rel2 F [] zs → Rel2 F [v1, v2] bs := by
 refine kT (ln2 h1) fun y z re0 => ?_; subst re0
 exact ⟨[y, z], h y z s w, rfl, fun F a b => a⟩
theorem ig {fd : FuncData} {x1 x2 x3 : Str} {v1 v2 v3 : VP} {G : Gd} (h : ∀ y z u s, Wd G s → BindsTo s fd ⟨[y, z, u], []⟩ [(x1, y), (x2, z), (x3, u)]) (ys zs : List Value) (s : Shared) (h1 : ys.length = [v1, v2, v3].length) (h2 : zs.length = ([] : List VP).length) (w : Wd G s) :
  ∃ bs : List Value, BindsTo s fd ⟨ys, ([] : List Str).zip zs⟩ ([x1, x2, x3].zip bs) ∧ bs.length = [x1, x2, x3].length ∧ ∀ F, Rel2 F [v1, v2, v3] ys → Rel2 F [] zs → Rel2 F [v1, v2, v3] bs := by
 refine uV (ln3 h1) fun y z u re0 => ?_; subst re0
 exact ⟨[y, z, u], h y z u s w, rfl, fun F a b => a⟩
noncomputable def gO (K : Frag) (D : Addr) (name : Str) : Bool := plainGet K D name && (hasDictIn K D && match findIn K (.ref D) name with | some none => true | _ => false)
theorem EvT.fld {o : Expr} {D : Addr} {fs : List (Str × VP)} {name : Str} {v : VP} {p : Pos} (hG : G.Main) (ho : EvT G k C σ o (aL D fs)) (hl : fs.lookup name = some v) (hk : gO (KK G.w.params) D name = true := by kernel_rfl)
  (hb : autoParam (attributeBase o name C.env (eval o C.env) = eval o C.env) tcR) : EvT G k C σ (.Attribute o name p) v := by
 unfold gO at hk
 rw [Bool.and_eq_true, Bool.and_eq_true] at hk
 refine bx (hk) fun h1 h2 h3 => ?_
 refine .attr (attr := none) ho hl (by rw [hG.K]; exact h1) (by rw [hG.K]; exact h2) ?_ rfl hb
 rw [hG.K]
 split at h3
 ·assumption
 ·cases h3
theorem EvT.b {x : Str} {v : Value} {p : Pos} (hG : G.Main) (hk : autoParam (C.env.kindOf x = some .globalImplicit) tcR) (hx : nsIn (KK G.w.params) mainGlobals x = some none := by kernel_rfl) (hv : bootBuiltins x = some v := by kernel_rfl) (hn : autoParam (x ≠ ("__name__" : Str)) tcD) (hd : autoParam ((x == ("__debug__" : Str)) = false) tcD) : EvT G k C σ (.Name x p) (vIs v) :=
 .bi hk (by rw [hG.K]; exact hx) hv hn hd
theorem EvT.g {x : Str} {v : Value} {p : Pos} (hG : G.Main) (hk : autoParam (C.env.kindOf x = some .globalImplicit) tcR) (hx : nsIn (KK G.w.params) mainGlobals x = some (some v) := by kernel_rfl) (hd : autoParam ((x == ("__debug__" : Str)) = false) tcD) : EvT G k C σ (.Name x p) (vIs v) :=
 .glob hk (by rw [hG.K]; exact hx) hd
theorem Gd.Main.kp {f : Value} (hG : G.Main) (h : keepIn (KK G.w.params) f = true := by kernel_rfl) : KpT G f := KpT.of (by rw [hG.K]; exact h)
theorem k7 (hG : G.Main) {fs : List (Str × VP)} {l : List VP} (hl : fs.lookup ("candidates" : Str) = some (ae l)) (hn : l.length < 2 ^ 62) : FnT G (k + 1) (.ref 343) [aL 445 fs] [] [] (vInt l.length) := by
 refine FnT.fn hG (pn := ["self"]) (bv := [aL 445 fs]) (σ0 := [("self", some (aL 445 fs))]) rfl (by kernel_rfl) rfl rfl ⟨rfl, rfl, rfl, rfl, rfl, rfl⟩ (bind1 fun y s w => BindsTo.of_eq rfl) (by decide) ?_
 intro s₀ F₀ _
 exact .ret (.call (.b hG) (.aN hn) .bi (af.cons (.fld hG (.var (.head _)) hl) .nil) .nil) (fun y s h => .of h)
theorem TsT.as {e : Expr} {b b' : Bool} (h : TsT G k C σ e b) (q : b = b') : TsT G k C σ e b' := q ▸ h
theorem EvT.as {e : Expr} {b b' : VP} (h : EvT G k C σ e b) (q : b = b') : EvT G k C σ e b' := q ▸ h
theorem dS (n : Nat) : pass (fun _ => true) n = List.range n := by unfold pass; exact List.filter_eq_self.mpr fun _ _ => rfl
theorem kO {α β γ : Type} (l : List α) (f : α → β) (c : γ) (n : Nat) (h : l.length = n) : (l.map f).map (fun _ => c) = (List.range n).map fun _ => c := by
 apply List.ext_getElem <;> simp [h]
noncomputable def ki : Option Nat → VP
 | none => cT
 | some n => vInt n
structure cO (G : Gd) (v : VP) (S : Nat → Bool) (nc : Nat) (Sp : List VP → Prop) : Prop where
 yl : ∀ k t, dd G k t v Sp
 set : ∀ k, aw G (k + 3) (.type "set") [v] [] [] (ar G S)
 len : ∀ k, aw G k (.builtin "len") [v] [] [] (vInt (elems S).length)
 sp : ∀ l, Sp l → ∃ ns : List Nat, l = ns.map (fun (n : Nat) => vInt n) ∧ ∀ n ∈ ns, n < nc
theorem cE (hG : G.Main) {v : VP} {S : Nat → Bool} {nc : Nat} {Sp : List VP → Prop} (hc : cO G v S nc Sp) {o : Option Nat} (ho : o = none ∨ o = some nc) {kn : List Str} {kv : List VP} (hk : (kn = [("num_cand" : Str)] ∧ kv = [ki o]) ∨ (kn = [] ∧ kv = [] ∧ o = none)) :
  FnT G 20 (.ref 30) [v] kn kv (ar G S) := by
 refine FnT.fn hG (pn := ["candidates", "num_cand"]) (bv := [v, ki o]) (σ0 := [("candidates", some v), ("num_cand", some (ki o)), ("approved", none), ("cand", none)]) rfl (by kernel_rfl) rfl rfl ⟨rfl, rfl, rfl, rfl, rfl, rfl⟩ ?_ (by decide) ?_
 ·rcases hk with ⟨rfl, rfl⟩ | ⟨rfl, rfl, rfl⟩
  ·exact bindG r0 r0 (pY fun _ _ s w => binds_K (hG.K ▸ w.K) rfl rfl rfl rfl rfl) rfl
  ·exact bindG r0 r1n (sL fun _ s w => binds_K (hG.K ▸ w.K) rfl rfl rfl rfl rfl) rfl
 intro s₀ F₀ st
 refine .assign (.call (.b hG) (hc.set 16) .ty (af.cons (.var (.head _)) .nil) .nil) (.inl rfl) U2 ?_
 refine .ifF (.as (.cmp (.call (.b hG) (hc.len _) .bi (af.cons (.var (.head _)) .nil) .nil) (.call (.b hG) .cQ .bi (af.cons (.var M2) .nil) .nil) .ne .bool) (by simp)) ?_
 refine .th ?_
 refine .cH (.of (.var (.head _)) (hc.yl _ _) (Nat.le_refl _)) fun l hl => ?_
 refine ag (hc.sp l hl) fun ns re0 hns => ?_; subst re0
 refine ⟨fun _ => True, fun _ => [("candidates", some v), ("num_cand", some (ki o)), ("approved", some (ar G S)), ("cand", none)], fun _ => [], trivial, .refl _, rfl, ?_, ?_⟩
 ·intro i u hu _
  rw [List.getElem?_map] at hu
  refine ag (Option.map_eq_some_iff.mp hu) fun n hn re0 => ?_; subst re0
  refine ⟨_, .name (.inl rfl) U3, fun Xf Yf => ?_⟩
  refine .ifF (.as (.iQ (.val (.call (.b hG) (.ly (b := true) (c := .type "int") ?_) .bi (af.cons (.var M3) (af.cons (.b hG) .nil)) .nil) .bool)) (by simp)) ?_
  ·rw [hG.K]; kernel_rfl
  exact .th (.next trivial (K3 (.drop .nil)))
 intro _
 refine .ifF (.as (.iQ (.val (.du (f := .builtin "all") (v := vBool true) (j := 16) (Sp := Sp) (lo := fun l => l.map fun _ => vBool true) (endr := .ok .next) (.b hG) .bi ?_ ?_) .bool)) (by simp)) ?_
 ·intro A X Y τ s hA h
  refine dB (k := 15) (σg := [("cand", none)]) (cl := []) (.of (.var (.head _)) (hc.yl _ _) (by decide)) ⟨rfl, rfl, rfl, by decide, by decide, rfl, by decide, (fun _ h => nomatch h), (fun x u h => by simp at h), ⟨29, 25, rfl, hG.tabs _ (by simp)⟩⟩ ?_ (fun _ => rfl) (hA.le (by decide)) h
  intro l hl
  refine ag (hc.sp l hl) fun ns re0 hns => ?_; subst re0
  refine ⟨fun _ => true, fun _ => vBool true, by rw [dS]; exact kO _ _ _ _ (by simp), fun L code => ?_⟩
  intro C hC hst j u hu
  obtain ⟨env, s0, F0, xa, xg⟩ := C
  dsimp only at hC
  subst hC
  rw [List.getElem?_map] at hu
  refine ag (Option.map_eq_some_iff.mp hu) fun n hn re0 => ?_; subst re0
  refine ⟨_, .name (.inl rfl) .here, .nil, .drop .nil, fun _ => ?_⟩
  exact .as (.cmp (.var (.head _)) .int .ge) (by simp)
 ·intro A X Y τ s l y hA hl hr
  refine ag (hc.sp l hl) fun ns re0 hns => ?_; subst re0
  have := o9 hr (bs := ns.map fun _ => true) (by simp) hA
  rwa [show (ns.map fun _ => true).all id = true by simp] at this
 refine .th ?_
 refine .ifF ?_ (.th (.ret (.var M2) fun y s h => .of h))
 ·rcases ho with rfl | rfl
  ·exact .as (.j3 (.cmp (.var M1) .none_ .oh .bool) (y := false) (fun h => nomatch h)) rfl
  ·refine .as (.j3 (x := true) (y := false) (.cmp (.var M1) .none_ (.rO hW) .bool) fun _ => ?_) rfl
   refine .val (.du (f := .builtin "any") (v := vBool false) (j := 16) (Sp := Sp) (lo := fun l => l.map fun _ => vBool false) (endr := .ok .next) (.b hG) .bi ?_ ?_) .bool
   ·intro A X Y τ s hA h
    refine dB (k := 15) (σg := [("cand", none), ("num_cand", some (vInt nc))]) (cl := [("num_cand", s₀.heap.objs.size + 1)]) (.of (.var (.head _)) (hc.yl _ _) (by decide)) ⟨rfl, rfl, rfl, by decide, by decide, rfl, (show (["cand", "num_cand"] : List Str).Nodup by decide), (fun p h => ?_), (fun x u h => ?_), ⟨29, 25, rfl, hG.tabs _ (by simp)⟩⟩ ?_ (fun _ => rfl) (hA.le (by decide)) h
    ·rw [List.mem_singleton.mp h]
     exact ⟨rfl, rfl, .inl rfl, rfl, _, .tail _ (.head _)⟩
    ·rcases List.mem_cons.mp h with h | h
     ·cases h
     ·cases List.mem_singleton.mp h
      exact ⟨.tail _ (.head _), _, .head _⟩
    intro l hl
    refine ag (hc.sp l hl) fun ns re0 hns => ?_; subst re0
    refine ⟨fun _ => true, fun _ => vBool false, by rw [dS]; exact kO _ _ _ _ (by simp), fun L code => ?_⟩
    intro C hC hst j u hu
    obtain ⟨env, s0, F0, xa, xg⟩ := C
    dsimp only at hC
    subst hC
    rw [List.getElem?_map] at hu
    refine ag (Option.map_eq_some_iff.mp hu) fun n hn re0 => ?_; subst re0
    refine ⟨_, .name (.inl rfl) .here, .nil, .drop (.keep .nil), fun _ => ?_⟩
    exact .as (.cmp (.var (.head _)) (.var M1) .ge) (congrArg vBool (decide_eq_false (by have := hns n (List.mem_of_getElem? hn); omega)))
   ·intro A X Y τ s l y hA hl hr
    refine ag (hc.sp l hl) fun ns re0 hns => ?_; subst re0
    have := callAny hr (bs := ns.map fun _ => false) (by simp) hA
    rwa [show (ns.map fun _ => false).any id = false by simp] at this
theorem aU (hG : G.Main) {v : VP} {S : Nat → Bool} {nc : Nat} {Sp : List VP → Prop} (hc : cO G v S nc Sp) {o : Option Nat} (ho : o = none ∨ o = some nc) :
  FnT G 20 (.ref 30) [v] ["num_cand"] [ki o] (ar G S) := cE hG hc ho (.inl ⟨rfl, rfl⟩)
theorem cO.list {S : Nat → Bool} {nc : Nat} (hn : nc ≤ 4) {ns : List Nat} (h1 : ∀ n ∈ ns, n < nc) (h2 : ∀ j, j < 4 → ns.contains j = S j) (h3 : ns.length = (elems S).length) : cO G (ae (ns.map fun (n : Nat) => vInt n)) S nc (· = ns.map fun (n : Nat) => vInt n) where
 yl := fun _ _ => .list
 set := fun k => .setOf .list .list (by rw [isSubtype_type]; kernel_rfl) (by rw [isSubtype_type]; kernel_rfl) (by decide) fun l e => ⟨ns, e, fun n h => Nat.lt_of_lt_of_le (h1 n h) hn, h2⟩
 len := fun k => by
  have := aw.aN (G := G) (k := k) (l := ns.map fun (n : Nat) => vInt n) (by rw [List.length_map, h3]; exact Nat.lt_of_le_of_lt (ax S) (by decide))
  rwa [List.length_map, h3] at this
 sp := fun l e => ⟨ns, e, h1⟩
theorem cO.q7 {S : Nat → Bool} {nc : Nat} (h1 : ∀ n ∈ elems S, n < nc) : cO G (ar G S) S nc (fun l => ∃ p : List Nat, p.Perm (elems S) ∧ l = p.map fun (n : Nat) => vInt n) where
 yl := fun _ _ => .set
 set := fun k => .nQ
 len := fun k => .cQ
 sp := fun l ⟨p, hp, e⟩ => ⟨p, e, fun n hn => h1 n (hp.mem_iff.mp hn)⟩
noncomputable def mE (K : Frag) (D : Addr) (name : Str) : Bool := (match findIn K (.ref D) "__setattr__" with | some (some (.builtin s)) => s == "object.__setattr__" | _ => false) && (plainOver K D && ((match takerIn K D name with | some none => true | _ => false) && hasDictIn K D))
theorem ExT.put {self name : Str} {D x d : Addr} {fs : List (Str × VP)} {e : Expr} {v : VP} {p q r : Pos} {rest : List Stmt} (hG : G.Main) (hv : (self, some (dh D x d)) ∈ σ) (he : EvT G k C σ e v) (hh : ∀ F y, v.p F y → handedIn y = true)
  (hr : ExT G k C σ (X₁ ++ (d, bJ (jM name v fs)) :: X₂) Y rest Ψ) (hk : mE (KK G.w.params) D name = true := by kernel_rfl) (hz : fs.length ≤ 900 := by exact Nat.le_of_ble_eq_true rfl) (hw : autoParam (swapsWith e (some (.Attribute (.Name self r) name q)) p.line C.env = pure false) tcR)
  (hb : autoParam ((self == ("__debug__" : Str)) = false) tcD) (hn : autoParam ((self == ("__classdict__" : Str)) = false) tcD) :
  ExT G k C σ (X₁ ++ (d, bJ fs) :: X₂) Y (.Assign [.Attribute (.Name self r) name q] e p :: rest) Ψ := by
 unfold mE at hk
 rw [Bool.and_eq_true, Bool.and_eq_true, Bool.and_eq_true] at hk
 refine bY (hk) fun h1 h2 h3 h4 => ?_
 refine .setattr hv he hh ?_ (by rw [hG.K]; exact h2) ?_ (by rw [hG.K]; exact h4) hz hr hw hb hn
 ·rw [hG.K]
  split at h1
  ·rename_i e; rw [e, eq_of_beq h1]
  ·cases h1
 ·rw [hG.K]
  split at h3
  ·assumption
  ·cases h3
theorem EvX.qf {self : Str} {D x d : Addr} {fs : List (Str × VP)} {name : Str} {v : VP} {p q : Pos} (hG : G.Main) (hv : (self, some (dh D x d)) ∈ σ) (hR : (d, bJ fs) ∈ R) (hl : fs.lookup name = some v) (hk : gO (KK G.w.params) D name = true := by kernel_rfl)
  (hb : autoParam (attributeBase (.Name self q) name C.env (eval (.Name self q) C.env) = eval (.Name self q) C.env) tcR) (hd : autoParam ((self == ("__debug__" : Str)) = false) tcD) (hnn : autoParam ((self == ("__classdict__" : Str)) = false) tcD) : EvX G k C σ R (.Attribute (.Name self q) name p) v := by
 unfold gO at hk
 rw [Bool.and_eq_true, Bool.and_eq_true] at hk
 refine bx (hk) fun h1 h2 h3 => ?_
 refine .field (attr := none) hv hR hl (by rw [hG.K]; exact h1) (by rw [hG.K]; exact h2) ?_ rfl hb hd hnn
 rw [hG.K]
 split at h3
 ·assumption
 ·cases h3
theorem pe {S : Nat → Bool} : ∀ F y, (ar G S).p F y → handedIn y = true := fun F y ⟨a, o, e, _, _⟩ => by subst e; rfl
theorem gR {i : Int} : ∀ F y, (vInt i).p F y → handedIn y = true := fun F y ⟨t, e⟩ => by subst e; rfl
theorem j5 {l : List VP} : ∀ F y, (ae l).p F y → handedIn y = true := fun F y ⟨a, ys, n, e, _, _⟩ => by subst e; rfl
noncomputable def eR (G : Gd) (S : Nat → Bool) (w : Int) : List (Str × VP) := [("approved", ar G S), ("weight", vInt w)]
noncomputable def bu (G : Gd) (S : Nat → Bool) (w : Int) : VP := aL 482 (eR G S w)
theorem j0 (hG : G.Main) {v : VP} {S : Nat → Bool} {nc : Nat} {Sp : List VP → Prop} (hc : cO G v S nc Sp) {o : Option Nat} (ho : o = none ∨ o = some nc) {w : Int} (hw : 0 < w) {kn : List Str} {kv : List VP}
  (hk : (kn = [("weight" : Str)] ∧ kv = [vInt w] ∧ o = none) ∨ (kn = [("weight" : Str), "num_cand"] ∧ kv = [vInt w, ki o]) ) :
  FnT G 30 (.ref 482) [v] kn kv (bu G S w) := by
 refine FnT.cls (fI := 464) (pn := ["self", "approved", "weight", "num_cand"]) (bv := [v, vInt w, ki o]) (σ0 := fun x d => [("self", some (dh 482 x d)), ("approved", some v), ("weight", some (vInt w)), ("num_cand", some (ki o))])
  (by rw [hG.K]; kernel_rfl) (by rw [hG.K]; kernel_rfl) (by rw [hG.K]; kernel_rfl) (by rw [hG.K]; rfl) (by rw [hG.K]; kernel_rfl) rfl ⟨rfl, rfl⟩ rfl rfl rfl rfl ?_ (by decide) (by decide) (by decide) (fun _ _ => rfl) (fun x d n u h => by simpa using h) ?_
 ·intro x ys zs s h1 h2 wd
  ·obtain ⟨y, rfl⟩ := ln1 h1
   rcases hk with ⟨rfl, rfl, rfl⟩ | ⟨rfl, rfl⟩
   ·obtain ⟨z, rfl⟩ := ln1 h2
    exact ⟨[y, z, .none], binds_K (hG.K ▸ wd.K) rfl rfl rfl rfl rfl, rfl, fun F a b => by cases a with | cons a _ => cases b with | cons b _ => exact .cons a (.cons b (.cons rfl .nil))⟩
   ·refine kT (ln2 h2) fun z z' re0 => ?_; subst re0
    exact ⟨[y, z, z'], binds_K (hG.K ▸ wd.K) rfl rfl rfl rfl rfl, rfl, fun F a b => by cases a with | cons a _ => exact .cons a b⟩
 intro s₀ F₀ x d st
 refine ExT.put (X₁ := []) hG (.head _) (.call (.g hG) ((aU hG hc ho).aq.le (by decide)) hG.kp (af.cons (.var M1) .nil) (.cons (.var M3) .nil)) pe ?_
 refine ExT.put (X₁ := []) hG (.head _) (.var M2) gR ?_
 refine .sU (.as (.cmp (.qf hG (.head _) (.head _) rfl) (EvT.toX .int) .le .bool) (by simp; assumption)) (.th (.nil fun s h => ?_))
 exact ⟨.inl rfl, _, [], [], _, h⟩
noncomputable def cG (n d : Int) : List (Str × VP) := [("numerator", vInt n), ("denominator", vInt d)]
noncomputable def cp (n d : Int) : VP := aL 202 (cG n d)
inductive Num where
 | int (i : Int)
 | frac (n d : Int)
noncomputable def Num.vp : Num → VP
 | .int i => vInt i
 | .frac n d => cp n d
noncomputable def Num.n : Num → Int
 | .int i => i
 | .frac n _ => n
noncomputable def Num.d : Num → Int
 | .int _ => 1
 | .frac _ d => d
noncomputable def Num.isF : Num → Bool
 | .int _ => false
 | .frac _ _ => true
theorem Num.isi (hG : G.Main) (a : Num) : aw G k (.builtin "isinstance") [a.vp, vIs (.ref 202)] [] [] (vBool a.isF) := by
 cases a with
 | int i => exact .ly (by rw [hG.K]; kernel_rfl)
 | frac n d => exact .jt (by rw [hG.K]; kernel_rfl) (by rw [hG.K]; kernel_rfl) (by rw [hG.K]; kernel_rfl) (by rw [hG.K]; kernel_rfl) (by rw [hG.K]; kernel_rfl) (by rw [hG.K]; kernel_rfl) (by rw [hG.K]; kernel_rfl)
theorem Num.sT (hG : G.Main) (a : Num) : aw G k (.builtin "isinstance") [a.vp, aQ [vIs (.type "int"), vIs (.ref 202)]] [] [] (vBool true) := by
 cases a with
 | int i => exact .pB (cs := [.type "int", .ref 202]) (by rw [hG.K]; kernel_rfl)
 | frac n d => exact .n6 (cs := [.type "int", .ref 202]) (by rw [hG.K]; kernel_rfl) (by rw [hG.K]; kernel_rfl) (by rw [hG.K]; kernel_rfl) (by rw [hG.K]; kernel_rfl) (by rw [hG.K]; kernel_rfl) (by rw [hG.K]; kernel_rfl) (by rw [hG.K]; kernel_rfl)
theorem jU (d r : Int) (hr : 0 < r) : Int.gcd r (d.fmod r) = Int.gcd d r := by
 rw [Int.fmod_eq_emod_of_nonneg _ (Int.le_of_lt hr), Int.emod_def, Int.mul_comm, Int.gcd_sub_mul_right_right, Int.gcd_comm]
noncomputable def rN (u l : Int) : Int := u.fdiv (Int.gcd u l)
noncomputable def rD (u l : Int) : Int := l.fdiv (Int.gcd u l)
noncomputable def small (i : Int) : Prop := i.natAbs < 1073741824
theorem bT (hG : G.Main) (a b : Num) {u l : Int} (hu : u = a.n * b.d) (hl : l = b.n * a.d) (hpos : 0 < l) (m1 : IntMulOk a.n b.d) (m2 : IntMulOk b.n a.d) (sm : small u ∧ small l) {ps : List VP} (hp : ps = [a.vp, b.vp] ∨ (ps = [a.vp] ∧ b = .int 1)) :
  FnT G 30 (.ref 202) ps [] [] (cp (rN u l) (rD u l)) := by
 refine FnT.cls (fI := 73) (pn := ["self", "numerator", "denominator"]) (bv := [a.vp, b.vp]) (σ0 := fun x d => [("self", some (dh 202 x d)), ("numerator", some a.vp), ("denominator", some b.vp), ("upper", none), ("lower", none), ("divisor", none), ("rest", none)])
  (by rw [hG.K]; kernel_rfl) (by rw [hG.K]; kernel_rfl) (by rw [hG.K]; kernel_rfl) (by rw [hG.K]; rfl) (by rw [hG.K]; kernel_rfl) rfl ⟨rfl, rfl⟩ rfl rfl rfl rfl ?_ (by decide) (by decide) (by decide) (fun _ _ => rfl) (fun x d n u h => by simpa using h) ?_
 ·intro x ys zs s h1 h2 wd
  rcases hp with rfl | ⟨rfl, rfl⟩
  ·refine kT (ln2 h1) fun y z re0 => ?_; subst re0
   exact ⟨[y, z], binds_K (hG.K ▸ wd.K) rfl rfl rfl rfl rfl, rfl, fun F a b => a⟩
  ·obtain ⟨y, rfl⟩ := ln1 h1
   exact ⟨[y, .int 1 257], binds_K (hG.K ▸ wd.K) rfl rfl rfl rfl rfl, rfl, fun F a b => by cases a with | cons a _ => exact .cons a (.cons ⟨_, rfl⟩ .nil)⟩
 intro s₀ F₀ x d st
 refine .ifF (.as (.iQ (.val (.call (.b hG) (a.sT hG) .bi (af.cons (.var M1) (af.cons (.tup (.cons (.b hG) (.cons (.g hG) .nil))) .nil)) .nil) .bool)) rfl) (.th ?_)
 refine .ifF (.as (.iQ (.val (.call (.b hG) (b.sT hG) .bi (af.cons (.var M2) (af.cons (.tup (.cons (.b hG) (.cons (.g hG) .nil))) .nil)) .nil) .bool)) rfl) (.th ?_)
 refine .assign (.var M1) (.inl rfl) U3 ?_
 refine .assign (.var M2) (.inl rfl) U4 ?_
 refine .ifJ [("self", some (dh 202 x d)), ("numerator", some a.vp), ("denominator", some b.vp), ("upper", some (vInt a.n)), ("lower", some b.vp), ("divisor", none), ("rest", none)] (.val (.call (.b hG) (a.isi hG) .bi (af.cons (.var M1) (af.cons (.g hG) .nil)) .nil) .bool) (fun e => ?_) (fun e => ?_) ?_
 ·cases a with
  | int i => cases e
  | frac n d => exact .assign (.fld hG (D := 202) (fs := cG n d) (.var M1) rfl) (.inl rfl) U3 (.jn (.refl _))
 ·cases a with
  | int i => exact .jn (.refl _)
  | frac n d => cases e
 refine .ifJ [("self", some (dh 202 x d)), ("numerator", some a.vp), ("denominator", some b.vp), ("upper", some (vInt u)), ("lower", some (vInt b.n)), ("divisor", none), ("rest", none)] (.val (.call (.b hG) (b.isi hG) .bi (af.cons (.var M2) (af.cons (.g hG) .nil)) .nil) .bool) (fun e => ?_) (fun e => ?_) ?_
 ·cases b with
  | int i => cases e
  | frac n d =>
   refine .assign (.bin (.var M3) (.fld hG (D := 202) (fs := cG n d) (.var M2) rfl) (.mul m1)) (.inl rfl) U3 ?_
   refine .assign (.fld hG (D := 202) (fs := cG n d) (.var M2) rfl) (.inl rfl) U4 ?_
   subst hu
   exact .jn (.refl _)
 ·cases b with
  | int i =>
   have : u = a.n := by rw [hu]; exact Int.mul_one _
   subst this
   exact .jn (.refl _)
  | frac n d => cases e
 refine .ifJ [("self", some (dh 202 x d)), ("numerator", some a.vp), ("denominator", some b.vp), ("upper", some (vInt u)), ("lower", some (vInt l)), ("divisor", none), ("rest", none)] (.val (.call (.b hG) (a.isi hG) .bi (af.cons (.var M1) (af.cons (.g hG) .nil)) .nil) .bool) (fun e => ?_) (fun e => ?_) ?_
 ·cases a with
  | int i => cases e
  | frac n d =>
   refine .assign (.bin (.var M4) (.fld hG (D := 202) (fs := cG n d) (.var M1) rfl) (.mul m2)) (.inl rfl) U4 ?_
   subst hl
   exact .jn (.refl _)
 ·cases a with
  | int i =>
   have : l = b.n := by rw [hl]; exact Int.mul_one _
   subst this
   exact .jn (.refl _)
  | frac n d => cases e
 refine .ifF (.as (.cmp (.var M4) .int .eq .bool) (by simp; exact iT)) (.th ?_)
 refine .ifF (.as (.cmp (.var M4) .int .lt .bool) (by simp; exact Z58)) (.th ?_)
 refine .assign (.var M4) (.inl rfl) U5 ?_
 refine .assign (.bin (.var M3) (.var M4) (.mod iT)) (.inl rfl) U6 ?_
 refine .qz (α := Int × Int) (fun p => 0 < p.1 ∧ 0 ≤ p.2 ∧ Int.gcd p.1 p.2 = Int.gcd u l) (fun p => p.2.toNat) (fun p => [("self", some (dh 202 x d)), ("numerator", some a.vp), ("denominator", some b.vp), ("upper", some (vInt u)), ("lower", some (vInt l)), ("divisor", some (vInt p.1)), ("rest", some (vInt p.2))]) (fun p => p.2 != 0) (l, u.fmod l)
  ⟨hpos, Int.fmod_nonneg_of_pos _ hpos, jU _ _ hpos⟩ rfl (fun p hp => .val (.var M6) .int) ?_ ?_
 ·intro p hp hb
  refine bx (hp) fun p1 p2 p3 => ?_
  have h2 : 0 < p.2 := by
   have : p.2 ≠ 0 := by simpa using hb
   omega
  refine ⟨(p.2, p.1.fmod p.2), ⟨h2, Int.fmod_nonneg_of_pos _ h2, by rw [← p3]; exact jU _ _ h2⟩, ?_, ?_⟩
  ·have := Int.fmod_lt_of_pos p.1 h2
   have := Int.fmod_nonneg_of_pos p.1 h2
   show (p.1.fmod p.2).toNat < p.2.toNat
   omega
  ·exact .nX (.tup (.cons (.var M6) (.cons (.bin (.var M5) (.var M6) (.mod iT)) .nil)) (Nat.le_of_ble_eq_true rfl))
    (.inl rfl) (.inl rfl) U6 U5 (.next trivial (.refl _))
 ·intro p hp hb
  refine bx (hp) fun p1 p2 p3 => ?_
  have h2 : p.2 = 0 := by simpa using hb
  rw [h2, Int.gcd_zero_right] at p3
  have e : p.1 = (Int.gcd u l : Int) := by rw [← p3]; omega
  rw [e]
  rw [e] at p1
  have gs : (Int.gcd u l : Int) ≠ 0 := iT
  have np : ∀ x y : Int, y.natAbs < 1073741824 → Builtin.divisionGoesByPylong x y = false := fun x y h => PyProof.noPylong_small h
  have gl : ((Int.gcd u l : Int)).natAbs < 1073741824 := by
   have : Int.gcd u l ≤ l.natAbs := Int.gcd_le_natAbs_right _ iT
   have := sm.2
   unfold small at this
   omega
  refine ExT.put (X₁ := []) hG (.head _) (.bin (.var M3) (.var M5) (.div gs (np _ _ gl))) gR ?_
  refine ExT.put (X₁ := []) hG (.head _) (.bin (.var M4) (.var M5) (.div gs (np _ _ gl))) gR ?_
  exact .nil fun s h => ⟨.inl rfl, _, [], [], _, h⟩
theorem j8 (hG : G.Main) {n d : Int} (hd : d ≠ 0) (hs : d.natAbs < 1073741824) : FnT G 20 (.ref 87) [cp n d] [] [] (vInt (n.fdiv d)) := by
 refine FnT.fn hG (pn := ["self"]) (bv := [cp n d]) (σ0 := [("self", some (cp n d))]) rfl (by kernel_rfl) rfl rfl ⟨rfl, rfl, rfl, rfl, rfl, rfl⟩ (bind1 fun y s w => BindsTo.of_eq rfl) (by decide) ?_
 intro s₀ F₀ _
 exact .ret (.bin (.fld hG (D := 202) (fs := cG n d) (.var (.head _)) rfl) (.fld hG (D := 202) (fs := cG n d) (.var (.head _)) rfl) (.div hd (PyProof.noPylong_small hs))) (fun y s h => .of h)
theorem pA (hG : G.Main) {n d : Int} (hd : d ≠ 0) (hs : d.natAbs < 1073741824) : FnT G 20 (.ref 94) [cp n d] [] [] (vInt (-((-n).fdiv d))) := by
 refine FnT.fn hG (pn := ["self"]) (bv := [cp n d]) (σ0 := [("self", some (cp n d))]) rfl (by kernel_rfl) rfl rfl ⟨rfl, rfl, rfl, rfl, rfl, rfl⟩ (bind1 fun y s w => BindsTo.of_eq rfl) (by decide) ?_
 intro s₀ F₀ _
 exact .ret (.un (.bin (.un (.fld hG (D := 202) (fs := cG n d) (.var (.head _)) rfl) .neg) (.fld hG (D := 202) (fs := cG n d) (.var (.head _)) rfl) (.div hd (PyProof.noPylong_small hs))) .neg) (fun y s h => .of h)
theorem Num.me (hG : G.Main) (a : Num) : aw G k (.builtin "isinstance") [a.vp, vIs (.type "int")] [] [] (vBool (!a.isF)) := by
 cases a with
 | int i => exact .ly (by rw [hG.K]; kernel_rfl)
 | frac n d => exact .jt (by rw [hG.K]; kernel_rfl) (by rw [hG.K]; kernel_rfl) (by rw [hG.K]; kernel_rfl) (by rw [hG.K]; kernel_rfl) (by rw [hG.K]; kernel_rfl) (by rw [hG.K]; kernel_rfl) (by rw [hG.K]; kernel_rfl)
theorem qt (hG : G.Main) {n d i : Int} (hd : 0 < d) (m1 : IntMulOk n i) (sm : small (n * i) ∧ small d) : FnT G 40 (.ref 143) [cp n d, vInt i] [] [] (cp (rN (n * i) d) (rD (n * i) d)) := by
 refine FnT.fn hG (pn := ["self", "other"]) (bv := [cp n d, vInt i]) (σ0 := [("self", some (cp n d)), ("other", some (vInt i))]) rfl (by kernel_rfl) rfl rfl ⟨rfl, rfl, rfl, rfl, rfl, rfl⟩ (ja fun y z s w => BindsTo.of_eq rfl) (by decide) ?_
 intro s₀ F₀ _
 refine .ifT (.val (.call (.b hG) ((Num.int i).me hG) .bi (af.cons (.var M1) (af.cons (.b hG) .nil)) .nil) .bool) ?_
 refine .ret (.call (.g hG) (((bT hG (.int (n * i)) (.int d) (u := n * i) (l := d) (by simp [Num.n, Num.d]) (by simp [Num.n, Num.d]) hd ?_ ?_ sm (.inl rfl)).aq).le (by decide)) hG.kp (af.cons (.bin (.fld hG (D := 202) (fs := cG n d) (.var (.head _)) rfl) (.var M1) (.mul m1)) (af.cons (.fld hG (D := 202) (fs := cG n d) (.var (.head _)) rfl) .nil)) .nil) (fun y s h => .of h)
 ·exact IntMulOk.of_right (show Builtin.Int.intBits 1 ≤ 64 by decide)
 ·exact IntMulOk.of_right (show Builtin.Int.intBits 1 ≤ 64 by decide)
theorem sG (hG : G.Main) {n d i : Int} (m1 : IntMulOk i d) : FnT G 40 (.ref 185) [cp n d, vInt i] [] [] (vBool (decide (n ≤ i * d))) := by
 refine FnT.fn hG (pn := ["self", "other"]) (bv := [cp n d, vInt i]) (σ0 := [("self", some (cp n d)), ("other", some (vInt i))]) rfl (by kernel_rfl) rfl rfl ⟨rfl, rfl, rfl, rfl, rfl, rfl⟩ (ja fun y z s w => BindsTo.of_eq rfl) (by decide) ?_
 intro s₀ F₀ _
 refine .ifT (.val (.call (.b hG) ((Num.int i).me hG) .bi (af.cons (.var M1) (af.cons (.b hG) .nil)) .nil) .bool) ?_
 exact .ret (.cmp (.fld hG (D := 202) (fs := cG n d) (.var (.head _)) rfl) (.bin (.var M1) (.fld hG (D := 202) (fs := cG n d) (.var (.head _)) rfl) (.mul m1)) .le) (fun y s h => .of h)
theorem aM.lvl {t : Expr} {it : Value} {Sr : Src} {H : gM} {l : List VP} (h : aM G j t it Sr H l) (e : j ≤ k) : aM G k t it Sr H l where
 item := fun C σ X Y τ A s i v hA => h.item C σ X Y τ A s i v (hA.le e)
 done := fun C σ X Y τ A s hA => h.done C σ X Y τ A s (hA.le e)
 self := fun C σ X Y τ A s hA => h.self C σ X Y τ A s (hA.le e)
theorem dE (hG : G.Main) {ws : List Int} {endr : Result} {y : Value} {jj : Nat} (hk : k + 1 ≤ jj) (hA : AOk (jj + 1) A) (h : Ready G k C σ X Y τ (ws.map vInt) endr y s) : wpAny G.M A (PySem.call (.ref 213) [y]) (fun r s' => FS G ⟨C, σ, X, Y⟩ (τ.and ((vInt ws.sum).at r)) s') ff s := by
 refine lr (j := jj) (x := "values") (σ0 := fun y => [("values", some (vIs y)), ("result", none), ("value", none)]) (by rw [hG.K]; rfl) (by rw [hG.K]; kernel_rfl) rfl ⟨rfl, rfl⟩ rfl rfl rfl rfl (fun y s w => BindsTo.of_eq rfl) (by decide) rfl (fun _ => rfl) (fun y z u e => by simpa using e) ?_ hA h
 intro s₀ F₀ xa xg it Sr H X₁ Y₁ W hS hH
 refine .assign .int (.inl rfl) U1 ?_
 rw [← List.append_nil X₁, ← List.append_nil Y₁]
 refine .qL (.head _) ((W _).lvl hk) hH hS ?_
 refine ⟨fun _ => True, fun i => [("values", some (vIs it)), ("result", some (vInt (ws.take i).sum)), ("value", none)], fun _ => [], trivial, .refl _, rfl, ?_, ?_⟩
 ·intro i v hv _
  rw [List.getElem?_map] at hv
  refine ag (Option.map_eq_some_iff.mp hv) fun w hw re0 => ?_; subst re0
  refine ⟨_, .name (.inl rfl) U2, fun Xf Yf => ?_⟩
  refine .assign (v := vInt ((ws.take i).sum + w)) (.ifx (c := false) (.val (.call (.b hG) ((Num.int w).isi hG) .bi (af.cons (.var M2) (af.cons (.g hG) .nil)) .nil) .bool) (fun e => nomatch e) fun _ => .bin (.var M1) (.var M2) .add) (.inl rfl) U1 ?_
  have e : (ws.take (i + 1)).sum = (ws.take i).sum + w := by
   rw [List.take_succ, hw, List.sum_append]; simp
  rw [← e]
  exact .next trivial (K2 (.drop .nil))
 ·intro _
  rw [List.length_map]
  skip
  rw [List.take_length]
  exact .ret (.var M1) (fun y s h => .of h)
theorem lT (hG : G.Main) {ws : List Int} {endr : Result} {y : Value} (hk : k + 1 ≤ 20) (hA : AOk 21 A) (h : Ready G k C σ X Y τ (ws.map vInt) endr y s) : wpAny G.M A (PySem.call (.ref 213) [y]) (fun r s' => FS G ⟨C, σ, X, Y⟩ (τ.and ((vInt ws.sum).at r)) s') ff s := dE hG hk hA h
noncomputable abbrev Row := (Nat → Bool) × Int
noncomputable def az (G : Gd) (rs : List Row) : List VP := rs.map fun r => bu G r.1 r.2
theorem eo (hG : G.Main) {fs : List (Str × VP)} {rs : List Row} (hl : fs.lookup ("_voters" : Str) = some (ae (az G rs))) : FnT G 30 (.ref 386) [aL 445 fs] [] [] (vInt (rs.map (·.2)).sum) := by
 refine FnT.fn hG (pn := ["self"]) (bv := [aL 445 fs]) (σ0 := [("self", some (aL 445 fs))]) rfl (by kernel_rfl) rfl rfl ⟨rfl, rfl, rfl, rfl, rfl, rfl⟩ (bind1 fun y s w => BindsTo.of_eq rfl) (by decide) ?_
 intro s₀ F₀ _
 refine .ret (.du (f := .ref 213) (v := vInt (rs.map (·.2)).sum) (j := 11) (Sp := (· = az G rs)) (lo := fun _ => (rs.map (·.2)).map vInt) (endr := .ok .next) (.g hG) hG.kp ?_ ?_) (fun y s h => .of h)
 ·intro A X Y τ s hA h
  refine dB (k := 10) (σg := [("voter", none)]) (cl := []) (.of (.fld hG (.var (.head _)) hl) .list (by decide)) ⟨rfl, rfl, rfl, by decide, by decide, rfl, by decide, (fun _ h => nomatch h), (fun x u h => by simp at h), ⟨385, 381, rfl, hG.tabs _ (by simp)⟩⟩ ?_ (fun _ => rfl) (hA.le (by decide)) h
  rintro l rfl
  refine ⟨fun _ => true, fun i => vInt ((rs[i]?.map (·.2)).getD 0), ?_, fun L code => ?_⟩
  ·rw [dS]
   apply List.ext_getElem
   ·simp [az]
   ·intro i h1 h2
    have h3 : i < rs.length := by simpa using h1
    simp [List.getElem?_eq_getElem h3]
  intro C hC hst j u hu
  obtain ⟨env, s0, F0, xa, xg⟩ := C
  dsimp only at hC
  subst hC
  unfold az at hu
  rw [List.getElem?_map] at hu
  refine ag (Option.map_eq_some_iff.mp hu) fun r hr re0 => ?_; subst re0
  refine ⟨_, .name (.inl rfl) .here, .nil, .drop .nil, fun _ => ?_⟩
  dsimp only
  rw [hr]
  exact .fld hG (D := 482) (fs := eR G r.1 r.2) (.var (.head _)) rfl
 ·intro A X Y τ s l y hA hl hr
  exact lT hG (by decide) (hA.le (by decide)) hr
theorem ExT.putN {self name : Str} {D x d : Addr} {fs : List (Str × VP)} {p q r r' : Pos} {rest : List Stmt} (hG : G.Main) (hv : (self, some (dh D x d)) ∈ σ)
  (hr : ∀ b, ExT G k C σ ((b, aC []) :: (X₁ ++ (d, bJ (jM name (vIs (.ref b)) fs)) :: X₂)) Y rest Ψ) (hk : mE (KK G.w.params) D name = true := by kernel_rfl) (hz : fs.length ≤ 900 := by exact Nat.le_of_ble_eq_true rfl) (hw : autoParam (swapsWith (.List [] r') (some (.Attribute (.Name self r) name q)) p.line C.env = pure false) tcR)
  (hb : autoParam ((self == ("__debug__" : Str)) = false) tcD) (hn : autoParam ((self == ("__classdict__" : Str)) = false) tcD) :
  ExT G k C σ (X₁ ++ (d, bJ fs) :: X₂) Y (.Assign [.Attribute (.Name self r) name q] (.List [] r') p :: rest) Ψ := by
 unfold mE at hk
 rw [Bool.and_eq_true, Bool.and_eq_true, Bool.and_eq_true] at hk
 refine bY (hk) fun h1 h2 h3 h4 => ?_
 refine .qo hv ?_ (by rw [hG.K]; exact h2) ?_ (by rw [hG.K]; exact h4) hz hr hw hb hn
 ·rw [hG.K]
  split at h1
  ·rename_i e; rw [e, eq_of_beq h1]
  ·cases h1
 ·rw [hG.K]
  split at h3
  ·assumption
  ·cases h3
noncomputable def names4 (n : Nat) : List VP := (List.range n).map fun (i : Nat) => vStr (toString (i : Int))
noncomputable def bg (n : Nat) (v : VP) : List (Str × VP) := [("candidates", ae (aG 0 n)), ("cand_names", ae (names4 n)), ("_voters", v)]
theorem dH (n : Nat) : aG 0 n = (List.range n).map fun (i : Nat) => vInt (i : Int) := by
 unfold aG; simp
theorem bA {n : Nat} (hn : n ≤ 1000) {t : Expr} : dd G k t (b6 0 n) (· = (List.range n).map fun (i : Nat) => vInt (i : Int)) := by
 have := dd.range (G := G) (k := k) (t := t) (a := 0) (b := n) (lR Z60 Z61)
 rwa [d8, show ((((n : Int) - 0).toNat : Int)).toNat = n by omega, dH] at this
theorem jR (hG : G.Main) {n : Nat} (h0 : 0 < n) (h4 : n ≤ 4) {ys : List Value} (hA : AOk 32 A) (h : FS G ⟨C, σ, X, Y⟩ τ s) (hrel : ∀ F, τ.p F → Rel2 F [vInt n] ys) :
  wpAny G.M A (PySem.call (.ref 445) ys) (fun r s' => ∃ b, FS G ⟨C, σ, (b, aC []) :: X, Y⟩ (τ.and ((aL 445 (bg n (vIs (.ref b)))).at r)) s') ff s := by
 refine uC (k := 30) (fI := 336) (pos := [vInt n]) (kv := []) (kn := []) (zs := []) (fs := fun b => bg n (vIs (.ref b))) (P := aC []) (pn := ["self", "num_cand", "cand_names"]) (bv := [vInt n, cT]) (σ0 := fun x d => [("self", some (dh 445 x d)), ("num_cand", some (vInt n)), ("cand_names", some cT)])
  (by rw [hG.K]; kernel_rfl) (by rw [hG.K]; kernel_rfl) (by rw [hG.K]; kernel_rfl) (by rw [hG.K]; rfl) (by rw [hG.K]; kernel_rfl) rfl ⟨rfl, rfl⟩ rfl rfl rfl rfl ?_ (by decide) (by decide) (by decide) (fun _ _ => rfl) (fun x d n u h => by simpa using h) ?_ hA h (fun F z => ⟨hrel F z, .nil⟩)
 ·intro x ys zs s h1 h2 wd
  obtain ⟨y, rfl⟩ := ln1 h1
  obtain rfl := List.length_eq_zero_iff.mp h2
  exact ⟨[y, .none], binds_K (hG.K ▸ wd.K) rfl rfl rfl rfl rfl, rfl, fun F a b => by cases a with | cons a _ => exact .cons a (.cons rfl .nil)⟩
 intro s₀ F₀ x d st
 refine .ifF (.as (.cmp (.var M1) .int .le .bool) (by simp; exact uM)) (.th ?_)
 refine ExT.put (X₁ := []) hG (.head _) (.call (.b hG) (.mW Z1) .ty (af.cons (.call (.b hG) .cf .ty (af.cons (.var M1) .nil) .nil) .nil) .nil) j5 ?_
 refine ExT.put (X₁ := []) hG (.head _) (v := ae (names4 n)) (.aJ (Sp := (· = (List.range n).map fun (i : Nat) => vInt (i : Int))) (cl := []) (σc := [("cand", none)]) (.of (.call (.b hG) .cf .ty (af.cons (.var M1) .nil) .nil) (bA Z1) (Nat.le_refl _)) ⟨rfl, rfl, by decide, by decide, (fun _ h => nomatch h), (fun x u h => by simp at h)⟩ ?_) j5 ?_
 ·rintro l rfl
  refine .all (by simp; exact Z1) fun s0 F0 xa xg st i hi => ⟨_, .name (.inl rfl) .here, .drop .nil, ?_⟩
  refine .call (.b hG) (.qx ?_) .ty (af.cons (.var (.head _)) .nil) .nil
  have hi4 : i < 4 := by have := List.mem_range.mp hi; exact Z12
  have : ∀ j : Nat, j < 4 → ((j : Int)).natAbs.log2 < 1920 := by decide
  exact this i hi4
 refine ExT.putN (X₁ := []) hG (.head _) fun b => ?_
 refine .ifF (.val (.var M2) .none) (.th (.nil fun s h => ?_))
 exact ⟨.inl rfl, b, _, [], _, h.perm (List.Perm.swap _ _ _)⟩
noncomputable def jG (K : Frag) (p fget : Addr) : Bool := match recIn K p "property" with | some (.ref f :: _) => f == fget | _ => false
theorem jG.rest {K : Frag} {p fget : Addr} (h : jG K p fget = true) : ∃ rest, recIn K p "property" = some (.ref fget :: rest) := by
 unfold jG at h
 split at h
 ·rename_i f r e
  rw [eq_of_beq h] at e
  exact ⟨r, e⟩
 ·cases h
theorem EvT.dC (hG : G.Main) {o : Expr} {n : Nat} {v : VP} {q : Pos} (hn : n ≤ 4) (ho : EvT G (k + 2) C σ o (aL 445 (bg n v))) (hb : autoParam (attributeBase o "num_cand" C.env (eval o C.env) = eval o C.env) tcR) : EvT G (k + 2) C σ (.Attribute o "num_cand" q) (vInt n) := by
 have := k7 (k := k) hG (fs := bg n v) (l := aG 0 n) rfl (by simp [aG]; exact Z2)
 rw [show (aG 0 n).length = n by simp [aG]] at this
 obtain ⟨rest, hr⟩ := jG.rest (K := KK G.w.params) (p := 344) (fget := 343) (by kernel_rfl)
 exact .prop ho (by rw [hG.K]; kernel_rfl) (by rw [hG.K]; kernel_rfl) (p := 344) (fget := 343) (by rw [hG.K]; kernel_rfl) (by rw [hG.K]; kernel_rfl) (by rw [hG.K]; kernel_rfl) (rest := rest) (by rw [hG.K]; exact hr) this gR hb
theorem mK (hG : G.Main) {n : Nat} {v : VP} {S : Nat → Bool} {w : Int} (hn : n ≤ 4) (hS : ∀ c ∈ elems S, c < n) (hw : 0 < w) : FnT G 41 (.ref 365) [aL 445 (bg n v), bu G S w] [] [] (bu G S w) := by
 refine FnT.fn hG (pn := ["self", "voter"]) (bv := [aL 445 (bg n v), bu G S w]) (σ0 := [("self", some (aL 445 (bg n v))), ("voter", some (bu G S w)), ("_voter", none)]) rfl (by kernel_rfl) rfl rfl ⟨rfl, rfl, rfl, rfl, rfl, rfl⟩ (ja fun y z s w => BindsTo.of_eq rfl) (by decide) ?_
 intro s₀ F₀ _
 refine .ifT (.val (.call (.b hG) (.jt (b := true) (c := .ref 482) ?_ ?_ ?_ ?_ ?_ ?_ ?_) .bi (af.cons (.var M1) (af.cons (.g hG) .nil)) .nil) .bool) ?_
 iterate 7 (first | (rw [hG.K]; kernel_rfl))
 refine .assign (v := bu G S w) (.call (.g hG) ((j0 hG (.q7 hS) (o := some n) (.inr rfl) hw (.inr ⟨rfl, rfl⟩)).aq.le (by decide)) hG.kp (af.cons (.fld hG (D := 482) (fs := eR G S w) (.var M1) rfl) .nil) (.cons (.fld hG (D := 482) (fs := eR G S w) (.var M1) rfl) (.cons (.dC hG hn (.var (.head _))) .nil))) (.inl rfl) U2 ?_
 exact .th (.ret (.var M2) fun y s h => .of h)
theorem iW.own (hG : G.Main) {D f : Addr} {fs : List (Str × VP)} {name : Str} (hg : plainGet (KK G.w.params) D name = true := by kernel_rfl) (hf : findIn (KK G.w.params) (.ref D) name = some (some (.ref f)) := by kernel_rfl) (ht : isFn (KK G.w.params) (.ref f) = true := by kernel_rfl) (hl : autoParam (fs.lookup name = none) tcR) : iW G (aL D fs) name (.ref f) :=
 .inst (by rw [hG.K]; exact hg) (by rw [hG.K]; exact hf) (by rw [hG.K]; exact ht) hl
theorem g7 (hG : G.Main) {n : Nat} {b : Addr} {l : List VP} {S : Nat → Bool} {w : Int} {ys : List Value} (hn : n ≤ 4) (hl : l.length ≤ 1000) (hS : ∀ c ∈ elems S, c < n) (hw : 0 < w) (hA : AOk 45 A) (h : FS G ⟨C, σ, (b, aC l) :: X, Y⟩ τ s) (hrel : ∀ F, τ.p F → Rel2 F [aL 445 (bg n (vIs (.ref b))), bu G S w] ys) :
  wpAny G.M A (PySem.call (.ref 372) ys) (fun r s' => FS G ⟨C, σ, (b, aC (l ++ [bu G S w])) :: X, Y⟩ (τ.and (cT.at r)) s') ff s := by
 refine oN (k := 44) (pn := ["self", "voter"]) (bv := [aL 445 (bg n (vIs (.ref b))), bu G S w]) (σ0 := [("self", some (aL 445 (bg n (vIs (.ref b))))), ("voter", some (bu G S w))]) (by rw [hG.K]; rfl) (by rw [hG.K]; kernel_rfl) rfl ⟨rfl, rfl⟩ rfl rfl rfl rfl ?_ (by decide) (by decide) (fun x hx => ?_) rfl (fun x v h => by simpa using h) ?_ hA h hrel
 ·intro ys s h1 wd
  refine kT (ln2 h1) fun y z re0 => ?_; subst re0
  exact ⟨[y, z], BindsTo.of_eq rfl, rfl, fun F a => a⟩
 ·rcases List.mem_cons.mp hx with rfl | hx
  ·rfl
  ·rw [List.mem_singleton.mp hx]; rfl
 intro s₀ F₀
 refine ExT.uq (X₁ := []) (dt.append Z1) (.fld hG (D := 445) (fs := bg n (vIs (.ref b))) (.var (.head _)) rfl) (.iZ (.var (.head _)) (.own hG) ((mK hG hn hS hw).aq.le (by decide)) hG.kp (af.cons (.var M1) .nil) .nil) ?_
 exact .nil fun s h => ⟨.none, _, [], _, .inr ⟨rfl, rfl⟩, h.wk fun _ _ => rfl⟩
noncomputable def ah (G : Gd) (n : Nat) (rs : List Row) : VP := aL 445 (bg n (ae (az G rs)))
noncomputable def bU (rs : List Row) : Nat → Bool := fun c => rs.any fun r => r.1 c
theorem dZ {rs : List Row} {i : Nat} {v : VP} (h : (az G rs)[i]? = some v) : ∃ r, rs[i]? = some r ∧ v = bu G r.1 r.2 := by
 unfold az at h
 rw [List.getElem?_map] at h
 refine ag (Option.map_eq_some_iff.mp h) fun r hr re0 => ?_; subst re0
 exact ⟨r, hr, rfl⟩
theorem EvT.iH {e : Expr} {S : Nat → Bool} {w : Int} {p : Pos} (hG : G.Main) (he : EvT G k C σ e (bu G S w)) (hb : autoParam (attributeBase e "approved" C.env (eval e C.env) = eval e C.env) tcR) : EvT G k C σ (.Attribute e "approved" p) (ar G S) := .fld hG (D := 482) (fs := eR G S w) he rfl (by kernel_rfl) hb
theorem EvT.wt {e : Expr} {S : Nat → Bool} {w : Int} {p : Pos} (hG : G.Main) (he : EvT G k C σ e (bu G S w)) (hb : autoParam (attributeBase e "weight" C.env (eval e C.env) = eval e C.env) tcR) : EvT G k C σ (.Attribute e "weight" p) (vInt w) := .fld hG (D := 482) (fs := eR G S w) he rfl (by kernel_rfl) hb
theorem mz (hG : G.Main) {n : Nat} {rs : List Row} : FnT G 20 (.ref 351) [ah G n rs] [] [] (ar G (bU rs)) := by
 refine FnT.fn hG (pn := ["self"]) (bv := [ah G n rs]) (σ0 := [("self", some (ah G n rs)), ("_approved_candidates", none), ("voter", none)]) rfl (by kernel_rfl) rfl rfl ⟨rfl, rfl, rfl, rfl, rfl, rfl⟩ (bind1 fun y s w => BindsTo.of_eq rfl) (by decide) ?_
 intro s₀ F₀ _
 refine .qv (.inl rfl) (.b hG) (fun a => .there .here) fun a => ?_
 refine .cH (Sp := (· = az G rs)) (.of (.fld hG (D := 445) (fs := bg n (ae (az G rs))) (.var (.head _)) rfl) .list (Nat.le_refl _)) ?_
 rintro l rfl
 refine ⟨fun _ => True, fun i => [("self", some (ah G n rs)), ("_approved_candidates", some (vIs (.ref a))), ("voter", none)], fun i => [(a, bt G (bU (rs.take i)))], trivial, .refl _, ?_, ?_, ?_⟩
 ·simp only [List.take_zero]; rfl
 ·intro i v hv _
  refine ag (dZ hv) fun r hr re0 => ?_; subst re0
  refine ⟨_, .name (.inl rfl) U2, fun Xf Yf => ?_⟩
  refine .own (X₂ := []) (dt.update (S := bU (rs.take i)) (T := r.1)) M1 (.iH hG (.var M2)) ?_
  have e : unS (bU (rs.take i)) r.1 = bU (rs.take (i + 1)) := by
   funext c
   unfold unS bU
   rw [List.take_add_one, hr, List.any_append]; simp
  rw [e]
  exact .next trivial (K2 (.drop .nil))
 ·intro _
  rw [show (az G rs).length = rs.length by simp [az]]
  skip
  rw [List.take_length]
  exact .frz (X₁ := []) (X₂ := []) rfl M1 U1 mr (.ret (.var M1) fun y s h => .of h)
theorem lO (hG : G.Main) {n : Nat} {rs : List Row} {i : Nat} {r : Row} (hr : rs[i]? = some r) (hz : rs.length ≤ 1000) : FnT G 20 (.ref 421) [ah G n rs, vInt i] [] [] (bu G r.1 r.2) := by
 refine FnT.fn hG (pn := ["self", "i"]) (bv := [ah G n rs, vInt i]) (σ0 := [("self", some (ah G n rs)), ("i", some (vInt i))]) rfl (by kernel_rfl) rfl rfl ⟨rfl, rfl, rfl, rfl, rfl, rfl⟩ (ja fun y z s w => BindsTo.of_eq rfl) (by decide) ?_
 intro s₀ F₀ _
 have hi : i < rs.length := (List.getElem?_eq_some_iff.mp hr).1
 refine .ret (.sub (.fld hG (D := 445) (fs := bg n (ae (az G rs))) (.var (.head _)) rfl) (.var M1) (.list Z33 Z42 ?_)) (fun y s h => .of h)
 show (az G rs)[((i : Nat) : Int).toNat]? = _
 rw [Int.toNat_natCast]
 unfold az
 rw [List.getElem?_map, hr]; rfl
theorem EvT.at_ (hG : G.Main) {o i : Expr} {n : Nat} {rs : List Row} {j : Nat} {r : Row} {q : Pos} (ho : EvT G 21 C σ o (ah G n rs)) (hi : EvT G 21 C σ i (vInt j)) (hr : rs[j]? = some r) (hz : rs.length ≤ 1000) (hsl : ∀ x y, subscripted i true (.ref x) y = runValue (.builtin "lifetime.subscript" ⟨[.ref x, y], []⟩) := by intro _ _; with_unfolding_all rfl) :
  EvT G 21 C σ (.Subscript o i q) (bu G r.1 r.2) :=
 .item ho hi (f := 421) (by rw [hG.K]; kernel_rfl) (by rw [hG.K]; kernel_rfl) (by rw [hG.K]; kernel_rfl) (lO hG hr hz).aq hsl
theorem l5 (hG : G.Main) {n : Nat} {rs : List Row} : fw G 10 (ah G n rs) (az G rs) := by
 refine fw.inst (f := 414) (by rw [hG.K]; kernel_rfl) (by rw [hG.K]; kernel_rfl) (by rw [hG.K]; rfl) (by rw [hG.K]; kernel_rfl) rfl ⟨rfl, rfl⟩ rfl rfl rfl rfl (self := "self") (fun y s w => BindsTo.of_eq rfl) (by decide) (by decide) rfl rfl (by decide) ?_ .list (fun _ => rfl) (fun _ _ => rfl)
 intro C n₀ hC
 obtain ⟨env, s0, F0, xa, xg⟩ := C
 dsimp only at hC
 subst hC
 exact .fld hG (D := 445) (fs := bg n (ae (az G rs))) (.var (.head _)) rfl
theorem mw (hG : G.Main) {n : Nat} {rs : List Row} {t : Expr} : dd G 12 t (ah G n rs) (· = az G rs) := (l5 hG).yld
theorem gP (hG : G.Main) {arg : Expr} {n : Nat} {rs : List Row} {q p : Pos} {elts : List Expr} {ctx : Nat} {pos : Pos} (hk : 14 ≤ k) (hx : C.env.kindOf "enumerate" = some .globalImplicit) (ha : EvT G k C σ arg (ah G n rs))
  (hplain : autoParam (((backTo p (starEach [arg] C.env)).any (·.1) || (backToKw p (keywordEach [] C.env)).any (·.1.isNone)) = false) tcR) (hst : ∃ x r, backTo p (starEach [arg] C.env) = (false, x) :: r := by exact ⟨_, _, rfl⟩) (hstar : autoParam (starEach [arg] C.env = (false, eval arg C.env) :: starEach [] C.env) tcR) :
  dk G k 13 (.Tuple elts ctx pos) C σ (.Call (.Name "enumerate" q) [arg] [] p) (· = bW (az G rs)) :=
 .enum (k := 10) (.b hG hx) ha (l5 hG) hk hplain hst hstar
theorem eW {rs : List Row} {i : Nat} {v : VP} (h : (bW (az G rs))[i]? = some v) : ∃ r, rs[i]? = some r ∧ v = aQ [vInt i, bu G r.1 r.2] := by
 refine ag (hJ h) fun u hu re0 => ?_; subst re0
 refine ag (dZ hu) fun r hr re0 => ?_; subst re0
 exact ⟨r, hr, rfl⟩
theorem dT {rs : List Row} : (bW (az G rs)).length = rs.length := by simp [bW, az]
noncomputable def bD (N size taken : Nat) (r : List Nat × Nat) : List (List Nat × Nat) := (List.range (N - size + taken + 1 - r.2)).map fun d => (r.1 ++ [r.2 + d], r.2 + d + 1)
noncomputable def cM (N size : Nat) : Nat → List (List Nat × Nat)
 | 0 => [([], 0)]
 | t + 1 => (cM N size t).flatMap (bD N size t)
noncomputable def b5 (N size : Nat) : List (List Nat) := if size > N then [] else (cM N size size).map (·.1)
theorem m3 : ∀ N < 5, ∀ size < 5, ∀ t < 5, size ≤ N → t ≤ size → ((cM N size t).length ≤ 6 && (cM N size t).all fun r => r.1.all (fun p => decide (p < N)) && decide (r.2 ≤ N) && decide (r.1.length ≤ 4)) = true := by decide +kernel
theorem gX {N size t : Nat} (h1 : N < 5) (h2 : size ≤ N) (h3 : t ≤ size) : (cM N size t).length ≤ 6 ∧ ∀ r ∈ cM N size t, (∀ p ∈ r.1, p < N) ∧ r.2 ≤ N ∧ r.1.length ≤ 4 := by
 have := m3 N h1 size Z13 t (by omega) h2 h3
 rw [Bool.and_eq_true] at this
 obtain ⟨a, b⟩ := this
 refine ⟨by simpa using a, fun r hr => ?_⟩
 have := List.all_eq_true.mp b r hr
 rw [Bool.and_eq_true, Bool.and_eq_true] at this
 obtain ⟨⟨c, d⟩, e⟩ := this
 exact ⟨fun p hp => by simpa using List.all_eq_true.mp c p hp, by simpa using d, by simpa using e⟩
theorem fW {α β : Type} (f : α → List β) (xs : List α) (j : Nat) (x : α) (h : xs[j]? = some x) : (xs.take (j + 1)).flatMap f = (xs.take j).flatMap f ++ f x := by
 rw [List.take_add_one, h, List.flatMap_append]; simp
theorem gJ {α β : Type} (f : α → List β) (xs : List α) (i : Nat) : ((xs.take i).flatMap f).length ≤ (xs.flatMap f).length := by
 have : xs.flatMap f = (xs.take i).flatMap f ++ (xs.drop i).flatMap f := by rw [← List.flatMap_append, List.take_append_drop]
 rw [this, List.length_append]; omega
theorem cm {a b : Int} {n : Nat} {t : Expr} (hn : (b - a).toNat = n) (h1 : -1000000 ≤ a ∧ a ≤ 1000000) (h2 : -1000000 ≤ b ∧ b ≤ 1000000) : dd G k t (b6 a b) (· = aG a n) := by
 have := dd.range (G := G) (k := k) (t := t) (a := a) (b := b) (lR h1 h2)
 rwa [d8, Int.toNat_natCast, hn] at this
theorem bh {a : Int} {n i : Nat} {v : VP} (h : (aG a n)[i]? = some v) : i < n ∧ v = vInt (a + i) := by
 unfold aG at h
 rw [List.getElem?_map] at h
 refine ag (Option.map_eq_some_iff.mp h) fun j hj re0 => ?_; subst re0
 obtain ⟨h1, h2⟩ := List.getElem?_eq_some_iff.mp hj
 rw [List.getElem_range] at h2
 subst h2
 exact ⟨by simpa using h1, rfl⟩
theorem bk {a : Int} {n : Nat} : (aG a n).length = n := by simp [aG]
theorem getD_some {l : List VP} {i : Nat} (h : i < l.length) : l[i]? = some (l.getD i e9) := by
 rw [List.getElem?_eq_getElem h, List.getD_eq_getElem?_getD, List.getElem?_eq_getElem h]; rfl
noncomputable def bV (l : List VP) (r : List Nat) : List VP := r.map fun p => l.getD p e9
noncomputable def gg (l : List VP) (r : List Nat × Nat) : VP := aQ [aQ (bV l r.1), vInt r.2]
theorem et (hG : G.Main) {l : List VP} {size : Nat} (hl : l.length ≤ 4) (hs : size ≤ 1000000) : FnT G 30 (.ref 58) [ae l, vInt size] [] [] (ae ((b5 l.length size).map fun r => aQ (bV l r))) := by
 refine FnT.fn hG (pn := ["items", "size"]) (bv := [ae l, vInt size]) (σ0 := [("items", some (ae l)), ("size", some (vInt size)), ("rows", none), ("taken", none), ("last", none)]) rfl (by kernel_rfl) rfl rfl ⟨rfl, rfl, rfl, rfl, rfl, rfl⟩ (ja fun y z s w => BindsTo.of_eq rfl) (by decide) ?_
 intro s₀ F₀ st
 refine .if_ (b := decide ((l.length : Int) < (size : Int))) (.cmp (.var M1) (.call (.b hG) (.aN Z2) .bi (af.cons (.var (.head _)) .nil) .nil) .gt .bool) (fun hb => ?_) (fun hb => .th ?_)
 ·have : size > l.length := by simpa using hb
  unfold b5
  rw [if_pos this]
  exact .ret (.list .nil) fun y s h => .of h
 have hsz : size ≤ l.length := by simpa using hb
 have ok := fun t (ht : t ≤ size) => gX (N := l.length) Z27 hsz ht
 refine .assign (v := ae ((cM l.length size 0).map (gg l))) (.as (.list (af.cons (.tup (.cons (.tup .nil) (.cons .int .nil))) .nil)) rfl) (.inl rfl) U2 ?_
 refine .cH (Sp := (· = (List.range size).map fun (i : Nat) => vInt (i : Int))) (.of (.call (.b hG) .cf .ty (af.cons (.var M1) .nil) .nil) (bA Z17) (Nat.le_refl _)) ?_
 rintro _ rfl
 refine ⟨fun _ => True, fun i => [("items", some (ae l)), ("size", some (vInt size)), ("rows", some (ae ((cM l.length size i).map (gg l)))), ("taken", none), ("last", none)], fun _ => [], trivial, .refl _, rfl, ?_, ?_⟩
 ·intro i v hv _
  rw [List.getElem?_map] at hv
  refine ag (Option.map_eq_some_iff.mp hv) fun i' hi' re0 => ?_; subst re0
  obtain ⟨hi, rfl⟩ : i < size ∧ i = i' := by
   obtain ⟨h1, h2⟩ := List.getElem?_eq_some_iff.mp hi'
   exact ⟨by simpa using h1, by simpa using h2⟩
  refine ⟨_, .name (.inl rfl) U3, fun Xf Yf => ?_⟩
  refine .assign (v := vInt ((l.length : Int) - size + i)) (.bin (.bin (.call (.b hG) (.aN Z2) .bi (af.cons (.var (.head _)) .nil) .nil) (.var M1) .sub) (.var M3) .add) (st _ (by simp)) U4 ?_
  refine .kA (Sp := (· = (cM l.length size i).map (gg l))) (res := (cM l.length size (i + 1)).map (gg l)) (cl := [("last", s₀.heap.objs.size + 1 + 1), ("items", s₀.heap.objs.size + 1)]) (σc := [("row", none), ("start", none), ("place", none), ("items", some (ae l)), ("last", some (vInt ((l.length : Int) - size + i)))])
   (.of (.var M2) .list (Nat.le_refl _)) (.of ["row", "start", "place"] ["items", "last"] [ae l, vInt ((l.length : Int) - size + i)]) ?_ (.inl rfl) U2 (.next trivial (K3 (D2 .nil)))
  rintro _ rfl
  refine ⟨fun j => (((cM l.length size i).take j).flatMap (bD l.length size i)).map (gg l), rfl, ?_, ?_⟩
  ·skip
   rw [List.length_map, List.take_length]; rfl
  intro C' hC j v hv
  rw [List.getElem?_map] at hv
  refine ag (Option.map_eq_some_iff.mp hv) fun r hr re0 => ?_; subst re0
  refine bx ((ok i Z26).2 r (List.mem_of_getElem? hr)) fun ok1 ok2 ok3 => ?_
  obtain ⟨env, s0, F0, xa, xg⟩ := C'
  obtain ⟨hC, hst⟩ := hC
  dsimp only at hC
  subst hC
  have hn2 : Builtin.Range.rangeSize (r.2 : Int) ((l.length : Int) - size + i + 1) 1 = ((l.length - size + i + 1 - r.2 : Nat) : Int) := by rw [d8]; exact congrArg _ tP
  refine ⟨[("row", some (aQ (bV l r.1))), ("start", some (vInt r.2)), ("place", none), ("items", some (ae l)), ("last", some (vInt ((l.length : Int) - size + i)))], aG r.2 (l.length - size + i + 1 - r.2), fun d => (((cM l.length size i).take j).flatMap (bD l.length size i) ++ (bD l.length size i r).take d).map (gg l), .pair (.name (.inl rfl) .here) (.name (.inl rfl) U1), .drop (.drop (.refl _)), ?_, ?_, ?_, ?_, fun _ => rfl, ?_⟩
  ·exact .of (.call (.b hG) .eC .ty (af.cons (.var M1) (af.cons (.bin (.var M4) .int .add) .nil)) .nil) (cm (by omega) (by omega) (by omega)) (Nat.le_refl _)
  ·simp
  ·skip
   rw [bk, fW _ _ _ _ hr, List.take_of_length_le (l := bD l.length size i r) (by simp [bD])]
  ·intro d
   have h1 := gJ (bD l.length size i) (cM l.length size i) j
   have h2 := (ok (i + 1) Z29).1
   have h3 : ((cM l.length size i).flatMap (bD l.length size i)).length = (cM l.length size (i + 1)).length := rfl
   have h4 : ((bD l.length size i r).take d).length ≤ 6 := by
    have : (bD l.length size i r).length ≤ 6 := by simp [bD]; omega
    rw [List.length_take]; exact Z67
   rw [List.length_map, List.length_append]; omega
  ·intro d u hu
   obtain ⟨hd, rfl⟩ := bh hu
   have hp : r.2 + d < l.length := by omega
   refine ⟨_, gg l (r.1 ++ [r.2 + d], r.2 + d + 1), .name (.inl rfl) U2, .keep (.keep (.drop (.refl _))), ?_, ?_⟩
   ·refine .as (.d7 (.cons (.bin (.var (.head _)) (.d7 (.cons (.sub (.var M3) (.var M2) (.list (v := l.getD (r.2 + d) e9) Z33 Z42 ?_)) .nil)) (.qj (by simp [bV]; exact Z1))) (.cons (.bin (.var M2) .int .add) .nil))) ?_
    ·rw [show ((r.2 : Int) + (d : Int)).toNat = r.2 + d from rfl]
     exact getD_some hp
    ·unfold gg bV
     rw [List.map_append]
     rfl
   ·skip
    rw [List.take_add_one]
    have : (bD l.length size i r)[d]? = some (r.1 ++ [r.2 + d], r.2 + d + 1) := by
     unfold bD
     rw [List.getElem?_map, List.getElem?_range (by assumption)]; rfl
    rw [this, ← List.append_assoc, List.map_append]; rfl
 ·intro _
  rw [List.length_map, List.length_range]
  skip
  refine .ret (.aJ (Sp := (· = (cM l.length size size).map (gg l))) (cl := []) (σc := [("row", none), ("start", none)]) (.of (.var M2) .list (Nat.le_refl _)) (.of ["row", "start"] [] []) ?_) fun y s h => .of h
  rintro _ rfl
  have e : (b5 l.length size).map (fun r => aQ (bV l r)) = (cM l.length size size).map fun r => aQ (bV l r.1) := by
   unfold b5
   rw [if_neg tU, List.map_map]; rfl
  rw [e]
  refine .all (by have := (ok size (Nat.le_refl _)).1; exact Z1) fun s0 F0 xa xg st r hr => ⟨_, .pair (.name (.inl rfl) .here) (.name (.inl rfl) U1), .drop (.drop .nil), .var (.head _)⟩
noncomputable def ll (N b : Nat) : List (List Nat) := (List.range (b + 1)).flatMap (b5 N)
theorem kY {N size : Nat} (h : N ≤ 4) : (b5 N size).length ≤ 6 := by
 unfold b5
 split
 ·simp
 ·rw [List.length_map]
  exact (gX Z27 Z82 (Nat.le_refl _)).1
theorem qq {N : Nat} (h : N ≤ 4) (i : Nat) : ((List.range i).flatMap (b5 N)).length ≤ 6 * i := by
 induction i with
 | zero => simp
 | succ i ih =>
  rw [List.range_succ, List.flatMap_append, List.length_append]
  have := kY (size := i) h
  rw [List.flatMap_singleton]
  omega
noncomputable def ao (S T : Nat → Bool) : Nat := (elems (inS S T)).length
noncomputable def fB (rs : List Row) (S1 S2 : Nat → Bool) : Bool := !(rs.any fun r => decide (ao r.1 S1 < ao r.1 S2)) && rs.any fun r => decide (ao r.1 S2 < ao r.1 S1)
theorem kH (hG : G.Main) {l : List VP} {b : Nat} (hl : l.length ≤ 4) (hb : b ≤ 900) : FnT G 32 (.ref 46) [ae l] ["max_size"] [vInt b] (ae ((ll l.length b).map fun r => aQ (bV l r))) := by
 refine FnT.fn hG (pn := ["iterable", "max_size"]) (bv := [ae l, vInt b]) (σ0 := [("iterable", some (ae l)), ("max_size", some (vInt b)), ("s", none), ("subsets", none), ("r", none)]) rfl (by kernel_rfl) rfl rfl ⟨rfl, rfl, rfl, rfl, rfl, rfl⟩ (bindG r0 r0 (pY fun _ _ s w => binds_K (hG.K ▸ w.K) rfl rfl rfl rfl rfl) rfl) (by decide) ?_
 intro s₀ F₀ st
 refine .assign (.call (.b hG) (.oQ Z1) .ty (af.cons (.var (.head _)) .nil) .nil) (.inl rfl) U2 ?_
 refine .ifF (.cmp (.var M1) .none_ (.lH hW) .bool) (.th ?_)
 refine .nList (.inl rfl) (fun a => .there U2) fun a => ?_
 refine .cH (Sp := (· = (List.range (b + 1)).map fun (i : Nat) => vInt (i : Int))) (.of (.call (v := b6 0 ((b + 1 : Nat) : Int)) (.b hG) .cf .ty (af.cons (.as (.bin (.var M1) .int .add) rfl) .nil) .nil) (bA Z2) (Nat.le_refl _)) ?_
 rintro _ rfl
 refine ⟨fun _ => True, fun i => [("iterable", some (ae l)), ("max_size", some (vInt b)), ("s", some (ae l)), ("subsets", some (vIs (.ref a))), ("r", none)], fun i => [(a, aC (((List.range i).flatMap (b5 l.length)).map fun r => aQ (bV l r)))], trivial, .refl _, rfl, ?_, ?_⟩
 ·intro i v hv _
  obtain ⟨hi, rfl⟩ := eV hv
  refine ⟨_, .name (.inl rfl) U4, fun Xf Yf => ?_⟩
  refine .own (X₂ := []) (dt.extend (l' := (b5 l.length i).map fun r => aQ (bV l r)) ?_) M3 (.call (.g hG) ((et hG hl (size := i) (by omega)).aq.le (by decide)) hG.kp (af.cons (.var M2) (af.cons (.var M4) .nil)) .nil) ?_
  ·have h1 := qq hl i
   have h2 := kY (size := i) hl
   simp only [List.length_map]; omega
  have e : ((List.range i).flatMap (b5 l.length)).map (fun r => aQ (bV l r)) ++ (b5 l.length i).map (fun r => aQ (bV l r)) = ((List.range (i + 1)).flatMap (b5 l.length)).map fun r => aQ (bV l r) := by
   rw [List.range_succ, List.flatMap_append, List.map_append]; simp
  rw [e]
  exact .next trivial (K4 (.drop .nil))
 ·intro _
  rw [List.length_map, List.length_range]
  skip
  exact .frz (X₁ := []) (X₂ := []) rfl M3 U3 f7 (.ret (.var M3) fun y s h => .of h)
theorem cO.tup {S : Nat → Bool} {nc : Nat} (hn : nc ≤ 4) {ns : List Nat} (h1 : ∀ n ∈ ns, n < nc) (h2 : ∀ j, j < 4 → ns.contains j = S j) (h3 : ns.length = (elems S).length) : cO G (aQ (ns.map fun (n : Nat) => vInt n)) S nc (· = ns.map fun (n : Nat) => vInt n) where
 yl := fun _ _ => .tup
 set := fun k => .setOf .tup .tup sub_tuple_set sub_tuple_frozenset (by decide) fun l e => ⟨ns, e, fun n h => Nat.lt_of_lt_of_le (h1 n h) hn, h2⟩
 len := fun k => by
  have := aw.qu (G := G) (k := k) (l := ns.map fun (n : Nat) => vInt n) (by rw [List.length_map, h3]; exact Nat.lt_of_le_of_lt (ax S) (by decide))
  rwa [List.length_map, h3] at this
 sp := fun l e => ⟨ns, e, h1⟩
theorem dd.up {t : Expr} {v : VP} {Sp : List VP → Prop} (h : dd G j t v Sp) (e : j ≤ k) : dd G k t v Sp := fun C σ X Y τ A s y hA hS hv =>
 wpAny_mono (h C σ X Y τ A s y (hA.le e) hS hv) (fun it s' ⟨S, l, a, b, c⟩ => ⟨S, l, a, b.lvl e, c⟩) iz
theorem dk.up {i : Nat} {t e : Expr} {Sp : List VP → Prop} (h : dk G i j t C σ e Sp) (l : j ≤ k) : dk G i k t C σ e Sp := fun A X Y τ s hA hS =>
 wpAny_mono (h A X Y τ s hA hS) (fun y s₁ h₁ => wpAny_mono h₁ (fun it s' ⟨S, l', a, b, c⟩ => ⟨S, l', a, b.lvl l, c⟩) iz) iz
theorem EvT.hits (hG : G.Main) {e1 e2 : Expr} {S T : Nat → Bool} {w : Int} {q p1 p2 p3 : Pos} (hb : C.env.kindOf "len" = some .globalImplicit) (h1 : EvT G k C σ e1 (bu G S w)) (h2 : EvT G k C σ e2 (ar G T)) (hbase : autoParam (attributeBase e1 "approved" C.env (eval e1 C.env) = eval e1 C.env) tcR) :
  EvT G k C σ (.Call (.Name "len" q) [.BinOp (.Attribute e1 "approved" p1) .BitAnd e2 p2] [] p3) (vInt (ao S T)) :=
 .call (.b hG hb) .cQ .bi (af.cons (.bin (.iH hG h1 hbase) h2 .om) .nil) .nil
theorem kz (hG : G.Main) {n : Nat} {rs : List Row} {v1 v2 : VP} {S1 S2 : Nat → Bool} {Sp1 Sp2 : List VP → Prop} (h1 : cO G v1 S1 n Sp1) (h2 : cO G v2 S2 n Sp2) : FnT G 40 (.ref 53) [ah G n rs, v1, v2] [] [] (vBool (fB rs S1 S2)) := by
 refine FnT.fn hG (pn := ["profile", "committee1", "committee2"]) (bv := [ah G n rs, v1, v2]) (σ0 := [("profile", some (ah G n rs)), ("committee1", some v1), ("committee2", some v2), ("voter", none)]) rfl (by kernel_rfl) rfl rfl ⟨rfl, rfl, rfl, rfl, rfl, rfl⟩ (ig fun y z u s w => BindsTo.of_eq rfl) (by decide) ?_
 intro s₀ F₀ st
 refine .assign (.call (.g hG) ((cE hG h1 (o := none) (.inl rfl) (.inr ⟨rfl, rfl, rfl⟩)).aq.le (by decide)) hG.kp (af.cons (.var M1) .nil) .nil) (.inl rfl) U1 ?_
 refine .assign (.call (.g hG) ((cE hG h2 (o := none) (.inl rfl) (.inr ⟨rfl, rfl, rfl⟩)).aq.le (by decide)) hG.kp (af.cons (.var M2) .nil) .nil) (.inl rfl) U2 ?_
 have key1 : ∀ {i : Nat} {r : Row}, rs[i]? = some r → decide (ao r.1 S1 < ao r.1 S2) = true → fB rs S1 S2 = false := fun hr hf => by
  unfold fB
  rw [cg hr (f := fun r : Row => decide (ao r.1 S1 < ao r.1 S2)) hf]; rfl
 refine .cH (Sp := (· = az G rs)) (.of (.var (.head _)) ((mw hG).up (by decide)) (Nat.le_refl _)) ?_
 rintro _ rfl
 refine ⟨fun i => (rs.take i).any (fun r => decide (ao r.1 S1 < ao r.1 S2)) = false, fun _ => [("profile", some (ah G n rs)), ("committee1", some (ar G S1)), ("committee2", some (ar G S2)), ("voter", none)], fun _ => [], rfl, .refl _, rfl, ?_, ?_⟩
 ·intro i v hv hp
  refine ag (dZ hv) fun r hr re0 => ?_; subst re0
  refine ⟨_, .name (.inl rfl) U3, fun Xf Yf => ?_⟩
  refine .if_ (b := decide (ao r.1 S1 < ao r.1 S2)) (.as (.cmp (.hits hG rfl (.var M3) (.var M1)) (.hits hG rfl (.var M3) (.var M2)) .lt .bool) (by simp)) (fun hb => ?_) (fun hb => ?_)
  ·exact .ret (.as .bool (congrArg vBool (key1 hr hb).symm)) fun y s h => .of h
  ·exact .th (.next (aV hr hp hb) (K3 (.drop .nil)))
 intro hp
 rw [show (az G rs).length = rs.length by simp [az], List.take_length] at hp
 refine .cH (Sp := (· = az G rs)) (.of (.var (.head _)) ((mw hG).up (by decide)) (Nat.le_refl _)) ?_
 rintro _ rfl
 refine ⟨fun i => (rs.take i).any (fun r => decide (ao r.1 S2 < ao r.1 S1)) = false, fun _ => [("profile", some (ah G n rs)), ("committee1", some (ar G S1)), ("committee2", some (ar G S2)), ("voter", none)], fun _ => [], rfl, .refl _, rfl, ?_, ?_⟩
 ·intro i v hv hq
  refine ag (dZ hv) fun r hr re0 => ?_; subst re0
  refine ⟨_, .name (.inl rfl) U3, fun Xf Yf => ?_⟩
  refine .if_ (b := decide (ao r.1 S2 < ao r.1 S1)) (.as (.cmp (.hits hG rfl (.var M3) (.var M1)) (.hits hG rfl (.var M3) (.var M2)) .gt .bool) (by simp)) (fun hb => ?_) (fun hb => ?_)
  ·refine .ret (.as .bool (congrArg vBool ?_)) fun y s h => .of h
   unfold fB
   rw [hp, cg hr (f := fun r : Row => decide (ao r.1 S2 < ao r.1 S1)) hb]; rfl
  ·exact .th (.next (aV hr hq hb) (K3 (.drop .nil)))
 intro hq
 rw [show (az G rs).length = rs.length by simp [az], List.take_length] at hq
 refine .ret (.as .bool (congrArg vBool ?_)) fun y s h => .of h
 unfold fB
 rw [hp, hq]; rfl
theorem red {u l : Int} (hl : 0 < l) : ∃ g : Int, 0 < g ∧ u = g * rN u l ∧ l = g * rD u l ∧ 0 < rD u l ∧ rD u l ≤ l := by
 have hg : 0 < (Int.gcd u l : Int) := by
  have : 0 < Int.gcd u l := Int.gcd_pos_of_ne_zero_right u iT
  exact Z36
 have h1 : (Int.gcd u l : Int) ∣ u := Int.gcd_dvd_left ..
 have h2 : (Int.gcd u l : Int) ∣ l := Int.gcd_dvd_right ..
 have e1 : u = Int.gcd u l * rN u l := by unfold rN; exact (Int.mul_fdiv_cancel' h1).symm
 have e2 : l = Int.gcd u l * rD u l := by unfold rD; exact (Int.mul_fdiv_cancel' h2).symm
 have p : 0 < rD u l := by
  rcases Int.lt_trichotomy (rD u l) 0 with h | h | h
  ·have := Int.mul_neg_of_pos_of_neg hg h; omega
  ·rw [h] at e2; omega
  ·exact h
 refine ⟨_, hg, e1, e2, p, ?_⟩
 have : 1 * rD u l ≤ Int.gcd u l * rD u l := Int.mul_le_mul_of_nonneg_right qA Z58
 omega
theorem lg {u l w : Int} (hl : 0 < l) : (rN u l ≤ w * rD u l) ↔ (u ≤ w * l) := by
 refine gu (red (u := u) hl) fun g hg e1 e2 p _ => ?_
 generalize rN u l = a at *
 generalize rD u l = b at *
 subst e1 e2
 rw [show w * (g * b) = g * (w * b) from Int.mul_left_comm _ _ _]
 exact (Int.mul_le_mul_left hg).symm
theorem lZ {u l : Int} (hl : 0 < l) : (rN u l).fdiv (rD u l) = u.fdiv l := by
 refine gu (red (u := u) hl) fun g hg e1 e2 p _ => ?_
 generalize rN u l = a at *
 generalize rD u l = b at *
 subst e1 e2
 exact (Int.mul_fdiv_mul_of_pos _ _ hg).symm
theorem qy {u l : Int} (hl : 0 < l) : (-(rN u l)).fdiv (rD u l) = (-u).fdiv l := by
 refine gu (red (u := u) hl) fun g hg e1 e2 p _ => ?_
 generalize rN u l = a at *
 generalize rD u l = b at *
 subst e1 e2
 rw [show -(g * a) = g * -a from (Int.mul_neg _ _).symm]
 exact (Int.mul_fdiv_mul_of_pos _ _ hg).symm
theorem md {u l w i : Int} (hl : 0 < l) : (rN u l * i ≤ w * rD u l) ↔ (u * i ≤ w * l) := by
 refine gu (red (u := u) hl) fun g hg e1 e2 p _ => ?_
 generalize rN u l = a at *
 generalize rD u l = b at *
 subst e1 e2
 rw [show w * (g * b) = g * (w * b) from Int.mul_left_comm _ _ _, Int.mul_assoc]
 exact (Int.mul_le_mul_left hg).symm
theorem pv {u l i : Int} (hl : 0 < l) : (-(rN u l * i)).fdiv (rD u l) = (-(u * i)).fdiv l := by
 refine gu (red (u := u) hl) fun g hg e1 e2 p _ => ?_
 generalize rN u l = a at *
 generalize rD u l = b at *
 subst e1 e2
 rw [Int.mul_assoc, show -(g * (a * i)) = g * -(a * i) from (Int.mul_neg _ _).symm]
 exact (Int.mul_fdiv_mul_of_pos _ _ hg).symm
theorem eY {u l B : Int} (hl : 0 < l) (hu : 0 < u) (hB : u ≤ B) (hB2 : l ≤ B) : 0 < rN u l ∧ rN u l ≤ B ∧ 0 < rD u l ∧ rD u l ≤ B := by
 refine gu (red (u := u) hl) fun g hg e1 e2 p q => ?_
 have h1 : 0 < rN u l := by
  rcases Int.lt_trichotomy (rN u l) 0 with h | h | h
  ·have := Int.mul_neg_of_pos_of_neg hg h; omega
  ·rw [h] at e1; omega
  ·exact h
 have : 1 * rN u l ≤ g * rN u l := Int.mul_le_mul_of_nonneg_right qA Z58
 omega
structure Num.Ok (q : Num) : Prop where
 n0 : 0 < q.n
 d0 : 0 < q.d
 n1 : q.n ≤ 1000
 d1 : q.d ≤ 1000
theorem cS {i j : Int} (h1 : -1000000 ≤ j) (h2 : j ≤ 1000000) : IntMulOk i j := IntMulOk.of_right (PySem.intBits_le_64 Z54 Z51)
theorem bz {i : Int} (h1 : -1000000 ≤ i) (h2 : i ≤ 1000000) : small i := by unfold small; omega
theorem EvT.fq (hG : G.Main) {q : Num} (ok : q.Ok) {p1 p2 p3 : Pos} (hm : (("quota" : Str), some q.vp) ∈ σ) (hk : autoParam (C.env.kindOf "Fraction" = some .globalImplicit) tcR) : EvT G 50 C σ (.Call (.Name "Fraction" p1) [.Name "quota" p2] [] p3) (cp (rN q.n q.d) (rD q.n q.d)) := by
 obtain ⟨n0, d0, n1, d1⟩ := ok
 exact .call (.g hG hk) (((bT hG q (.int 1) (u := q.n) (l := q.d) (by simp [Num.d]) (by simp [Num.n]) d0 (cS (by simp [Num.d]) (by simp [Num.d])) (cS Z55 Z50) ⟨bz Z55 Z50, bz Z55 Z50⟩ (.inr ⟨rfl, rfl⟩)).aq).le (by decide)) hG.kp (af.cons (.var hm) .nil) .nil
noncomputable def oU (K : Frag) (a : Value) (name : Str) : Bool := match findIn K a name with | some none => true | some (some (.ref _)) => true | _ => false
theorem oU.ex {K : Frag} {a : Value} {name : Str} (h : oU K a name = true) : ∃ rc, findIn K a name = some rc ∧ (rc = none ∨ ∃ g : Addr, rc = some (.ref g)) := by
 unfold oU at h
 split at h
 ·exact ⟨_, by assumption, .inl rfl⟩
 ·rename_i e; exact ⟨_, e, .inr ⟨_, rfl⟩⟩
 ·cases h
theorem cN.qG (hG : G.Main) {n d i : Int} (h0 : 0 < d) (h1 : 0 ≤ n) (h2 : n ≤ 1000) (h3 : d ≤ 1000) (h4 : 0 ≤ i) (h5 : i ≤ 1000) : cN G 50 .Mult (cp n d) (vInt i) (cp (rN (n * i) d) (rD (n * i) d)) := by
 have b1 : 0 ≤ n * i := Int.mul_nonneg h1 h4
 have b2 : n * i ≤ 1000 * 1000 := Int.mul_le_mul h2 h5 h4 Z59
 refine ag (oU.ex (K := KK G.w.params) (a := .ref 202) (name := dunderR Operator.Mult.info.2) (by kernel_rfl)) fun rc hr hp => ?_
 refine .instInt (f := 143) (rc := rc) (by rw [hG.K]; kernel_rfl) (by rw [hG.K]; kernel_rfl) (by rw [hG.K]; kernel_rfl) (by rw [hG.K]; exact hr) hp (fo := some (.builtin "int.__mul__")) (ro := some (.builtin "int.__rmul__")) (by rw [hG.K]; kernel_rfl) (by rw [hG.K]; kernel_rfl) (by rw [hG.K]; kernel_rfl) ((qt hG h0 (cS Z54 Z50) ⟨bz Z54 Z50, bz Z55 Z50⟩).aq.le (by decide)) m5
theorem aY.fLe (hG : G.Main) {n d i : Int} (h1 : -1000000 ≤ d) (h2 : d ≤ 1000000) : aY G 50 .LtE (cp n d) (vInt i) (vBool (decide (n ≤ i * d))) := by
 refine .instInt (f := 185) (fun _ _ _ _ _ _ h => h) (by rw [hG.K]; kernel_rfl) (by rw [hG.K]; kernel_rfl) (by rw [hG.K]; kernel_rfl) ((sG hG (cS h1 h2)).aq.le (by decide)) mX
noncomputable def cc (q : Num) (i : Int) : Int := -((-(q.n * i)).fdiv q.d)
noncomputable def aH (tw : Int) (q : Num) : Int := (tw * q.d).fdiv q.n
noncomputable def leQ (q : Num) (i w : Int) : Bool := decide (q.n * i ≤ w * q.d)
theorem TsT.tZ (hG : G.Main) {q : Num} (ok : q.Ok) {p1 p2 p3 p : Pos} {ew : Expr} {w : Int} (hm : (("quota" : Str), some q.vp) ∈ σ) (hw : EvT G 50 C σ ew (vInt w)) (hk : autoParam (C.env.kindOf "Fraction" = some .globalImplicit) tcR) (hmk : behindInMarks .LtE ew = false := by with_unfolding_all rfl) :
  TsT G 50 C σ (.Compare (.Call (.Name "Fraction" p1) [.Name "quota" p2] [] p3) [.LtE] [ew] p) (leQ q 1 w) := by
 refine bY (eY (B := 1000) ok.d0 ok.n0 ok.n1 ok.d1) fun b1 b2 b3 b4 => ?_
 refine .as (.cmp (.fq hG ok hm hk) hw (.fLe hG Z55 Z50) .bool hmk) ?_
 unfold leQ
 rw [Int.mul_one]
 exact decide_eq_decide.mpr (lg ok.d0)
theorem TsT.mC (hG : G.Main) {q : Num} (ok : q.Ok) {p1 p2 p3 p4 p : Pos} {ei ew : Expr} {i w : Int} (h4 : 0 ≤ i) (h5 : i ≤ 1000) (hm : (("quota" : Str), some q.vp) ∈ σ) (hi : EvT G 50 C σ ei (vInt i)) (hw : EvT G 50 C σ ew (vInt w)) (hk : autoParam (C.env.kindOf "Fraction" = some .globalImplicit) tcR) (hmk : behindInMarks .LtE ew = false := by with_unfolding_all rfl) :
  TsT G 50 C σ (.Compare (.BinOp (.Call (.Name "Fraction" p1) [.Name "quota" p2] [] p3) .Mult ei p4) [.LtE] [ew] p) (leQ q i w) := by
 refine bY (eY (B := 1000) ok.d0 ok.n0 ok.n1 ok.d1) fun b1 b2 b3 b4 => ?_
 refine gu (red (u := rN q.n q.d * i) (l := rD q.n q.d) b3) fun g hg e1 e2 c1 c2 => ?_
 refine .as (.cmp (.bin (.fq hG ok hm hk) hi (.qG hG b3 Z58 b2 b4 h4 h5)) hw (.fLe hG Z55 (by omega)) .bool hmk) ?_
 unfold leQ
 exact decide_eq_decide.mpr ((lg b3).trans (md ok.d0))
theorem EvT.nU (hG : G.Main) {q : Num} (ok : q.Ok) {p1 p2 p3 p4 p5 p : Pos} {x : Str} {i : Int} (h4 : 0 ≤ i) (h5 : i ≤ 1000) (hm : (("quota" : Str), some q.vp) ∈ σ) (hi : EvT G 50 C σ (.Name x p5) (vInt i)) (hk : autoParam (C.env.kindOf "Fraction" = some .globalImplicit) tcR) {ap : Pos} {pl : Sem Bool}
  (he : eval (.Call (.Attribute (.BinOp (.Call (.Name "Fraction" p1) [.Name "quota" p2] [] p3) .Mult (.Name x p5) p4) "ceil" ap) [] [] p) C.env = (do
   let ov ← eval (.BinOp (.Call (.Name "Fraction" p1) [.Name "quota" p2] [] p3) .Mult (.Name x p5) p4) C.env
   standAt ap.atName
   let (f, first) ← holding [ov] (getMethod ov "ceil" pl)
   callWith p f first (backTo p (starEach [] C.env)) (backToKw p (keywordEach [] C.env))) := by rfl) :
  EvT G 50 C σ (.Call (.Attribute (.BinOp (.Call (.Name "Fraction" p1) [.Name "quota" p2] [] p3) .Mult (.Name x p5) p4) "ceil" ap) [] [] p) (vInt (cc q i)) := by
 refine bY (eY (B := 1000) ok.d0 ok.n0 ok.n1 ok.d1) fun b1 b2 b3 b4 => ?_
 refine gu (red (u := rN q.n q.d * i) (l := rD q.n q.d) b3) fun g hg e1 e2 c1 c2 => ?_
 have := pA hG (n := rN (rN q.n q.d * i) (rD q.n q.d)) (d := rD (rN q.n q.d * i) (rD q.n q.d)) iT (by omega)
 rw [qy b3, pv ok.d0] at this
 exact .iZ (.bin (.fq hG ok hm hk) hi (.qG hG b3 Z58 b2 b4 h4 h5)) (.own hG) (this.aq.le (by decide)) hG.kp .nil .nil he
theorem EvT.tw (hG : G.Main) {n : Nat} {rs : List Row} {p1 p2 p3 : Pos} {pl : Sem Bool} (hp : (("profile" : Str), some (ah G n rs)) ∈ σ)
  (he : eval (.Call (.Attribute (.Name "profile" p1) "total_weight" p2) [] [] p3) C.env = (do
   let ov ← eval (.Name "profile" p1) C.env
   standAt p2.atName
   let (f, first) ← holding [ov] (getMethod ov "total_weight" pl)
   callWith p3 f first (backTo p3 (starEach [] C.env)) (backToKw p3 (keywordEach [] C.env))) := by rfl) : EvT G 50 C σ (.Call (.Attribute (.Name "profile" p1) "total_weight" p2) [] [] p3) (vInt (rs.map (·.2)).sum) :=
 .iZ (.var hp) (.own hG) ((eo hG rfl).aq.le (by decide)) hG.kp .nil .nil he
theorem EvT.gS (hG : G.Main) {n : Nat} {rs : List Row} {q : Num} (ok : q.Ok) (t0 : 0 ≤ (rs.map (·.2)).sum) (t1 : (rs.map (·.2)).sum ≤ 1000) {p1 p2 p3 p4 p5 p6 p7 p : Pos} (hp : (("profile" : Str), some (ah G n rs)) ∈ σ) (hm : (("quota" : Str), some q.vp) ∈ σ) (hk : autoParam (C.env.kindOf "Fraction" = some .globalImplicit) tcR) {pl pl2 : Sem Bool}
  (he : eval (.Call (.Attribute (.Name "profile" p2) "total_weight" p3) [] [] p4) C.env = (do
   let ov ← eval (.Name "profile" p2) C.env
   standAt p3.atName
   let (f, first) ← holding [ov] (getMethod ov "total_weight" pl)
   callWith p4 f first (backTo p4 (starEach [] C.env)) (backToKw p4 (keywordEach [] C.env))) := by rfl)
  (he2 : eval (.Call (.Attribute (.Call (.Name "Fraction" p1) [.Call (.Attribute (.Name "profile" p2) "total_weight" p3) [] [] p4, .Name "quota" p5] [] p6) "floor" p7) [] [] p) C.env = (do
   let ov ← eval (.Call (.Name "Fraction" p1) [.Call (.Attribute (.Name "profile" p2) "total_weight" p3) [] [] p4, .Name "quota" p5] [] p6) C.env
   standAt p7.atName
   let (f, first) ← holding [ov] (getMethod ov "floor" pl2)
   callWith p f first (backTo p (starEach [] C.env)) (backToKw p (keywordEach [] C.env))) := by rfl) :
  EvT G 50 C σ (.Call (.Attribute (.Call (.Name "Fraction" p1) [.Call (.Attribute (.Name "profile" p2) "total_weight" p3) [] [] p4, .Name "quota" p5] [] p6) "floor" p7) [] [] p) (vInt (aH (rs.map (·.2)).sum q)) := by
 have b0 : 0 ≤ (rs.map (·.2)).sum * q.d := Int.mul_nonneg t0 (Int.le_of_lt ok.d0)
 have b1 : (rs.map (·.2)).sum * q.d ≤ 1000 * 1000 := Int.mul_le_mul t1 ok.d1 (Int.le_of_lt ok.d0) Z59
 have := ok.n0
 have := ok.n1
 have := ok.d0
 have := ok.d1
 have f1 := bT hG (.int (rs.map (·.2)).sum) q (u := (rs.map (·.2)).sum * q.d) (l := q.n) (by simp [Num.n]) (by simp [Num.d]) ok.n0 (cS Z55 Z50) (cS (by simp [Num.d]) (by simp [Num.d])) ⟨bz Z54 Z50, bz Z55 Z50⟩ (ps := [vInt (rs.map (·.2)).sum, q.vp]) (.inl rfl)
 refine gu (red (u := (rs.map (·.2)).sum * q.d) (l := q.n) ok.n0) fun g hg e1 e2 c1 c2 => ?_
 have f2 := j8 hG (n := rN ((rs.map (·.2)).sum * q.d) q.n) (d := rD ((rs.map (·.2)).sum * q.d) q.n) iT (by omega)
 rw [lZ ok.n0] at f2
 exact .iZ (.call (.g hG hk) (f1.aq.le (by decide)) hG.kp (af.cons (.tw hG hp he) (af.cons (.var hm) .nil)) .nil) (.own hG) (f2.aq.le (by decide)) hG.kp .nil .nil he2
noncomputable def bal (rs : List Row) (j : Nat) : Nat → Bool := ((rs[j]?).map (·.1)).getD fun _ => false
noncomputable def wt (rs : List Row) (j : Nat) : Int := ((rs[j]?).map (·.2)).getD 0
noncomputable def gw (rs : List Row) (b : Nat → Bool) (m : Nat) : Int := ((pass b m).map (wt rs)).sum
noncomputable def bo (b : Nat → Bool) (i : Nat) : Nat → Bool := fun j => decide (j < i) && b j
theorem cX {rs : List Row} {i : Nat} {r : Row} (h : rs[i]? = some r) : bal rs i = r.1 := by unfold bal; rw [h]; rfl
theorem dK {rs : List Row} {i : Nat} {r : Row} (h : rs[i]? = some r) : wt rs i = r.2 := by unfold wt; rw [h]; rfl
theorem cY {rs : List Row} {b : Nat → Bool} {i : Nat} : gw rs b (i + 1) = gw rs b i + (if b i then wt rs i else 0) := by
 unfold gw
 rw [bK, List.map_append, List.sum_append]
 split <;> simp
theorem lX {b : Nat → Bool} {i : Nat} (h : b i = true) : cw (bo b i) i = bo b (i + 1) := by
 funext j
 unfold cw bo
 by_cases e : j = i
 ·subst e; simp [h]
 ·have : decide (j < i + 1) = decide (j < i) := decide_eq_decide.mpr (by omega)
  rw [this, decide_eq_false e, Bool.or_false]
theorem nR {b : Nat → Bool} {i : Nat} (h : b i = false) : bo b (i + 1) = bo b i := by
 funext j
 unfold bo
 by_cases e : j = i
 ·subst e; simp [h]
 ·have : decide (j < i + 1) = decide (j < i) := decide_eq_decide.mpr (by omega)
  rw [this]
theorem qp {b : Nat → Bool} : bo b 0 = fun _ => false := by funext j; simp [bo]
noncomputable def jrC (rs : List Row) (M : Nat → Bool) (c j : Nat) : Bool := bal rs j c && ((ao (bal rs j) M : Int) == 0)
noncomputable def g5 (rs : List Row) (M : Nat → Bool) (q : Num) (n : Nat) : Bool := (List.range n).any fun c => leQ q 1 (gw rs (jrC rs M c) rs.length)
theorem qK.qg {i j : Int} (I : Ix) (A : Around) (τ : MP) (s : Shared) (a b : Value) (hA : AOk k A) (hs : FS G I τ s) (hab : ∀ F, τ.p F → (vInt i).p F a ∧ (vInt j).p F b) : wpAny G.M A (inplaceOp .Add a b) (fun y s' => FS G I (τ.and ((vInt (i + j)).at y)) s') ff s := by
 obtain ⟨⟨t, rfl⟩, u, rfl⟩ := hs.take (P := (∃ t, a = .int i t) ∧ ∃ t, b = .int j t) hab
 exact iadd_int (hs.toks.wk fun _ x => ⟨x, _, rfl⟩)
theorem qw (hG : G.Main) {n : Nat} {rs : List Row} {M : Nat → Bool} {q : Num} (ok : q.Ok) (hn : n ≤ 4) (hz : rs.length ≤ 4) : FnT G 60 (.ref 261) [ah G n rs, ar G M] ["quota"] [q.vp] (aQ [vBool (!g5 rs M q n), e9]) := by
 refine FnT.fn hG (pn := ["profile", "committee", "quota"]) (bv := [ah G n rs, ar G M, q.vp]) (σ0 := [("profile", some (ah G n rs)), ("committee", some (ar G M)), ("quota", some q.vp), ("cand", none), ("group", none), ("group_weight", none), ("vi", none), ("voter", none), ("detailed_information", none)]) rfl (by kernel_rfl) rfl rfl ⟨rfl, rfl, rfl, rfl, rfl, rfl⟩ (bindG r0 r0 (mD fun _ _ _ s w => BindsTo.of_eq rfl) rfl) (by decide) ?_
 intro s₀ F₀ st
 refine .cH (Sp := (· = aG 0 n)) (.of (.fld hG (D := 445) (fs := bg n (ae (az G rs))) (.var (.head _)) rfl) .list (Nat.le_refl _)) ?_
 rintro _ rfl
 refine ⟨fun i => (List.range i).any (fun c => leQ q 1 (gw rs (jrC rs M c) rs.length)) = false, fun _ => [("profile", some (ah G n rs)), ("committee", some (ar G M)), ("quota", some q.vp), ("cand", none), ("group", none), ("group_weight", none), ("vi", none), ("voter", none), ("detailed_information", none)], fun _ => [], rfl, .refl _, rfl, ?_, ?_⟩
 ·intro c v hv hp
  obtain ⟨hc, rfl⟩ := bh hv
  rw [show (0 : Int) + c = c from Z31]
  refine ⟨_, .name (.inl rfl) U3, fun Xf Yf => ?_⟩
  refine .qv (.inl rfl) (.b hG) (fun a => .there U3) fun a => ?_
  refine .assign .int (.inl rfl) U5 ?_
  refine .cH (Sp := (· = bW (az G rs))) ((gP hG (by decide) rfl (.var (.head _))).up (by decide)) ?_
  rintro _ rfl
  refine ⟨fun _ => True, fun i => [("profile", some (ah G n rs)), ("committee", some (ar G M)), ("quota", some q.vp), ("cand", some (vInt c)), ("group", some (vIs (.ref a))), ("group_weight", some (vInt (gw rs (jrC rs M c) i))), ("vi", none), ("voter", none), ("detailed_information", none)],
   fun i => (a, bt G (bo (jrC rs M c) i)) :: (Xf ++ []), trivial, .refl _, by rw [qp], ?_, ?_⟩
  ·intro i v hv _
   refine ag (eW hv) fun r hr re0 => ?_; subst re0
   have hi : i < rs.length := (List.getElem?_eq_some_iff.mp hr).1
   have eb := cX hr
   have ew := dK hr
   refine ⟨_, .pair (.name (.inl rfl) U6) (.name (.inl rfl) U7), fun Xg Yg => ?_⟩
   refine .if_ (b := jrC rs M c i) (.as (.j3 (.cmp (.var M3) (.iH hG (.var M7)) (.inS Z12) .bool) (fun _ => .cmp (.hits hG rfl (.var M7) (.var M1)) .int .eq .bool)) (by unfold jrC; rw [eb])) (fun hb => ?_) (fun hb => ?_)
   ·refine .own (X₁ := Xg) (X₂ := Xf ++ []) (dt.add (n := i) Z12) M4 (.var M6) ?_
    refine .aug M5 (.wt hG (.var M7)) qK.qg (.inl rfl) U5 ?_
    exact .th (.aW trivial (K6 (D2 (.refl _))) (by rw [cY, hb, ew]; rfl) (by rw [lX hb]))
   ·exact .th (.aW trivial (K6 (D2 (.refl _))) (by rw [cY, hb]; simp) (by rw [nR hb]))
  ·intro _
   rw [dT]
   refine .if_ (b := leQ q 1 (gw rs (jrC rs M c) rs.length)) ((TsT.tZ hG ok M2 (.var M5)).le (by decide)) (fun hb => ?_) (fun hb => ?_)
   ·refine .assign (.dict (.cons (.var M4) (.cons (.var M3) .nil))) (.inl rfl) U8 ?_
    refine .ret (.as (.d7 (.cons .bool (.cons (.var M8) .nil))) ?_) fun y s h => .of h
    unfold g5
    rw [aF hc hb]; rfl
   ·exact .th (.pT (aA hp hb) (K3 (D3 (.refl _))) (List.sublist_cons_self _ _))
 ·intro hp
  rw [bk] at hp
  refine .assign .ir (.inl rfl) U8 ?_
  refine .ret (.as (.d7 (.cons .bool (.cons (.var M8) .nil))) ?_) fun y s h => .of h
  unfold g5
  rw [hp]; rfl
noncomputable def tw (rs : List Row) : Int := (rs.map (·.2)).sum
structure Par (rs : List Row) (q : Num) : Prop where
 ok : q.Ok
 hz : rs.length ≤ 4
 t0 : 0 ≤ tw rs
 t1 : tw rs ≤ 1000
 s1 : aH (tw rs) q ≤ 900
theorem Par.s0 {rs : List Row} {q : Num} (h : Par rs q) : 0 ≤ aH (tw rs) q := Int.fdiv_nonneg (Int.mul_nonneg h.t0 (Int.le_of_lt h.ok.d0)) (Int.le_of_lt h.ok.n0)
theorem ml {q : Num} (ok : q.Ok) {i : Int} (h0 : 0 ≤ i) (h1 : i ≤ 1000) : 0 ≤ cc q i ∧ cc q i ≤ 1000000 := by
 have a0 : 0 ≤ q.n * i := Int.mul_nonneg (Int.le_of_lt ok.n0) h0
 have a1 : q.n * i ≤ 1000 * 1000 := Int.mul_le_mul ok.n1 h1 h0 Z59
 have hd := ok.d0
 unfold cc
 generalize q.n * i = x at *
 have e := Int.fdiv_eq_ediv_of_nonneg (-x) (Int.le_of_lt hd)
 rw [e]
 have l1 : -x / q.d ≤ 0 := by
  have := Int.ediv_le_ediv hd (show -x ≤ 0 by omega)
  simpa using this
 have l2 : -x ≤ -x / q.d := by
  rw [Int.le_ediv_iff_mul_le hd]
  have : x * 1 ≤ x * q.d := Int.mul_le_mul_of_nonneg_left qA a0
  have e2 : -x * q.d = -(x * q.d) := Int.neg_mul ..
  omega
 omega
noncomputable def aX (rs : List Row) (M : Nat → Bool) (ell : Nat) (j : Nat) : Bool := decide ((ao (bal rs j) M : Int) < ell)
noncomputable def aZ (V : List Nat) (size : Nat) : List (List Nat) := (b5 V.length size).map fun r => r.map fun p => V.getD p 0
noncomputable def eH (rs : List Row) (n : Nat) (g : List Nat) : Nat → Bool := fun c => decide (c < n) && g.all fun v => bal rs v c
noncomputable def gp (rs : List Row) (g : List Nat) : Nat → Bool := fun c => g.any fun v => bal rs v c
noncomputable def b7 (rs : List Row) (n ell : Nat) (g : List Nat) : Bool := decide ((ell : Int) ≤ ((elems (eH rs n g)).length : Int))
noncomputable def bX (rs : List Row) (M : Nat → Bool) (n ell : Nat) (g : List Nat) : Bool := b7 rs n ell g && decide (((elems (inS (gp rs g) M)).length : Int) < ell)
noncomputable def bN (hit : Nat → List Nat → Bool) (rs : List Row) (M : Nat → Bool) (q : Num) (ell : Nat) : Bool :=
 !(decide (gw rs (aX rs M ell) rs.length < cc q ell)) && (aZ (pass (aX rs M ell) rs.length) (cc q ell).toNat).any (hit ell)
noncomputable def fC (rs : List Row) (M : Nat → Bool) (q : Num) (n : Nat) : Bool := (List.range (aH (tw rs) q).toNat).any fun d => bN (b7 rs n) rs M q (d + 1)
noncomputable def fL (rs : List Row) (M : Nat → Bool) (q : Num) (n : Nat) : Bool := (List.range (aH (tw rs) q).toNat).any fun d => bN (bX rs M n) rs M q (d + 1)
theorem iC {N size : Nat} (h : N ≤ 4) : ∀ r ∈ b5 N size, ∀ p ∈ r, p < N := by
 intro r hr p hp
 unfold b5 at hr
 split at hr
 ·cases hr
 ·refine ag (List.mem_map.mp hr) fun r' hr' re0 => ?_; subst re0
  exact ((gX Z27 Z82 (Nat.le_refl _)).2 r' hr').1 p hp
theorem fE {V : List Nat} {size m : Nat} (h : V.length ≤ 4) (hV : ∀ v ∈ V, v < m) : ∀ g ∈ aZ V size, ∀ v ∈ g, v < m := by
 intro g hg v hv
 refine ag (List.mem_map.mp hg) fun r hr re0 => ?_; subst re0
 refine ag (List.mem_map.mp hv) fun p hp re0 => ?_; subst re0
 have := iC h r hr p hp
 rw [List.getD_eq_getElem?_getD, List.getElem?_eq_getElem this]
 exact hV _ (List.getElem_mem this)
theorem dY {b : Nat → Bool} {N : Nat} : ∀ v ∈ pass b N, v < N := fun v hv => by
 unfold pass at hv
 exact List.mem_range.mp (List.mem_filter.mp hv).1
theorem eG {b : Nat → Bool} {N : Nat} : (pass b N).length ≤ N := by
 unfold pass
 have := List.length_filter_le b (List.range N)
 rwa [List.length_range] at this
theorem i2 {rs : List Row} {n i v : Nat} {g : List Nat} (h : g[i]? = some v) : inS (eH rs n (g.take i)) (bal rs v) = eH rs n (g.take (i + 1)) := by
 funext c
 unfold inS eH
 rw [List.take_add_one, h, List.all_append, Bool.and_assoc]; simp
theorem mI {rs : List Row} {i v : Nat} {g : List Nat} (h : g[i]? = some v) : unS (gp rs (g.take i)) (bal rs v) = gp rs (g.take (i + 1)) := by
 funext c
 unfold unS gp
 rw [List.take_add_one, h, List.any_append]; simp
theorem kx {rs : List Row} {n : Nat} (hn : n ≤ 4) : (elems (eH rs n [])).length = n := by
 have : n = 0 ∨ n = 1 ∨ n = 2 ∨ n = 3 ∨ n = 4 := Z73
 rcases this with rfl | rfl | rfl | rfl | rfl <;> rfl
theorem dc {rs : List Row} {v : Nat} (h : v < rs.length) : ∃ r, rs[v]? = some r := ⟨_, List.getElem?_eq_getElem h⟩
noncomputable def aa (ns : List Nat) : List VP := ns.map fun (n : Nat) => vInt n
theorem lz {V : List Nat} {size : Nat} (h : V.length ≤ 4) : (b5 V.length size).map (fun r => aQ (bV (aa V) r)) = (aZ V size).map fun g => aQ (aa g) := by
 unfold aZ
 rw [List.map_map]
 refine List.map_congr_left fun r hr => ?_
 show aQ _ = aQ _
 unfold bV aa
 rw [List.map_map]
 refine congrArg aQ (List.map_congr_left fun p hp => ?_)
 have := iC h r hr p hp
 show (V.map fun (n : Nat) => vInt n).getD p e9 = vInt (V.getD p 0)
 rw [List.getD_eq_getElem?_getD, List.getD_eq_getElem?_getD, List.getElem?_map, List.getElem?_eq_getElem this]; rfl
theorem fJ (hG : G.Main) {V : List Nat} {size : Nat} (hl : V.length ≤ 4) (hs : size ≤ 1000000) : FnT G 30 (.ref 58) [ae (aa V), vInt size] [] [] (ae ((aZ V size).map fun g => aQ (aa g))) := by
 have := et hG (l := aa V) (size := size) (by unfold aa; rw [List.length_map]; exact hl) hs
 rwa [show (aa V).length = V.length by unfold aa; rw [List.length_map], lz hl] at this
theorem d5 {ns : List Nat} {i : Nat} {v : VP} (h : (aa ns)[i]? = some v) : ∃ m : Nat, ns[i]? = some m ∧ v = vInt m := cZ h
theorem ph (hG : G.Main) {n : Nat} {rs : List Row} {M : Nat → Bool} {q : Num} (pa : Par rs q) (hn : n ≤ 4) : FnT G 60 (.ref 275) [ah G n rs, ar G M, q.vp] [] [] (aQ [vBool (!fC rs M q n), e9]) := by
 refine FnT.fn hG (pn := ["profile", "committee", "quota"]) (bv := [ah G n rs, ar G M, q.vp]) (σ0 := [("profile", some (ah G n rs)), ("committee", some (ar G M)), ("quota", some (q.vp)), ("ell_upper_bound", none), ("ell", none), ("voters_less_than_ell_approved_candidates", none), ("voters_less_than_ell_approved_candidates_weight", none), ("min_group_size", none), ("i", none), ("voter", none), ("combination", none), ("cut", none), ("vi", none), ("detailed_information", none)]) rfl (by kernel_rfl) rfl rfl ⟨rfl, rfl, rfl, rfl, rfl, rfl⟩ (ig fun y z u s w => BindsTo.of_eq rfl) (by decide) ?_
 intro s₀ F₀ st
 have ok := pa.ok
 have hz := pa.hz
 have s0 := pa.s0
 have s1 := pa.s1
 refine .assign ((EvT.gS hG ok pa.t0 pa.t1 (.head _) M2).le (by decide)) (.inl rfl) U3 ?_
 refine .cH (Sp := (· = aG 1 (aH (tw rs) q).toNat)) (.of (.call (.b hG) .eC .ty (af.cons .int (af.cons (.bin (.var M3) .int .add) .nil)) .nil) (cm (by unfold tw at *; omega) Z60 (by unfold tw at *; omega)) (Nat.le_refl _)) ?_
 rintro _ rfl
 refine ⟨fun i => (List.range i).any (fun d => bN (b7 rs n) rs M q (d + 1)) = false, fun _ => [("profile", some (ah G n rs)), ("committee", some (ar G M)), ("quota", some (q.vp)), ("ell_upper_bound", some (vInt (aH (tw rs) q))), ("ell", none), ("voters_less_than_ell_approved_candidates", none), ("voters_less_than_ell_approved_candidates_weight", none), ("min_group_size", none), ("i", none), ("voter", none), ("combination", none), ("cut", none), ("vi", none), ("detailed_information", none)], fun _ => [], rfl, .refl _, rfl, ?_, ?_⟩
 ·intro d v hv hp
  obtain ⟨hd, rfl⟩ := bh hv
  rw [show (1 : Int) + d = ((d + 1 : Nat) : Int) from Z30]
  have cb := ml ok (i := ((d + 1 : Nat) : Int)) Z33 (by omega)
  refine ⟨_, .name (.inl rfl) U4, fun Xf Yf => ?_⟩
  refine .nList (.inl rfl) (fun a => U5) fun a => ?_
  refine .assign .int (.inl rfl) U6 ?_
  refine .assign ((EvT.nU hG ok (i := ((d + 1 : Nat) : Int)) Z33 (by omega) M2 (.var M4)).le (by decide)) (.inl rfl) U7 ?_
  refine .cH (Sp := (· = bW (az G rs))) ((gP hG (by decide) rfl (.var (.head _))).up (by decide)) ?_
  rintro _ rfl
  refine ⟨fun _ => True, fun i => [("profile", some (ah G n rs)), ("committee", some (ar G M)), ("quota", some (q.vp)), ("ell_upper_bound", some (vInt (aH (tw rs) q))), ("ell", some (vInt ((d + 1 : Nat) : Int))), ("voters_less_than_ell_approved_candidates", some (vIs (.ref a))), ("voters_less_than_ell_approved_candidates_weight", some (vInt (gw rs (aX rs M (d + 1)) i))), ("min_group_size", some (vInt (cc q ((d + 1 : Nat) : Int)))), ("i", none), ("voter", none), ("combination", none), ("cut", none), ("vi", none), ("detailed_information", none)],
   fun i => (a, aC (aa (pass (aX rs M (d + 1)) i))) :: (Xf ++ []), trivial, .refl _, rfl, ?_, ?_⟩
  ·intro i v hv _
   refine ag (eW hv) fun r hr re0 => ?_; subst re0
   have hi : i < rs.length := (List.getElem?_eq_some_iff.mp hr).1
   have eb := cX hr
   have ew := dK hr
   refine ⟨_, .pair (.name (.inl rfl) U8) (.name (.inl rfl) U9), fun Xg Yg => ?_⟩
   refine .if_ (b := aX rs M (d + 1) i) (.as (.cmp (.hits hG rfl (.var M9) (.var M1)) (.var M4) .lt .bool) (by unfold aX; rw [eb])) (fun hb => ?_) (fun hb => ?_)
   ·have hl : (aa (pass (aX rs M (d + 1)) i)).length ≤ 100000 := by
     have := eG (b := aX rs M (d + 1)) (N := i)
     unfold aa
     rw [List.length_map]; omega
    refine .own (X₁ := Xg) (X₂ := Xf ++ []) (dt.append (v := vInt i) hl) M5 (.var M8) ?_
    refine .aug M6 (.wt hG (.var M9)) qK.qg (.inl rfl) U6 ?_
    exact .th (.aW trivial (K8 (D2 (.refl _))) (by rw [cY, hb, ew]; rfl) (by rw [bK, hb]; unfold aa; rw [List.map_append]; rfl))
   ·exact .th (.aW trivial (K8 (D2 (.refl _))) (by rw [cY, hb]; simp) (by rw [bK, hb]; simp))
  ·intro _
   rw [dT]
   have hV : (pass (aX rs M (d + 1)) rs.length).length ≤ 4 := Nat.le_trans eG hz
   refine .qN (X₁ := []) (X₂ := Xf ++ []) rfl rfl M5 U5 f7 ?_
   refine .if_ (b := decide (gw rs (aX rs M (d + 1)) rs.length < cc q ((d + 1 : Nat) : Int))) (.cmp (.var M6) (.var M7) .lt .bool) (fun hb => ?_) (fun hb => .th ?_)
   ·have hg : bN (b7 rs n) rs M q (d + 1) = false := by unfold bN; rw [hb]; rfl
    exact .js (aA hp hg) (K4 (D4 (.refl _))) rfl (List.Sublist.refl _) rfl
   refine .cH (Sp := (· = (aZ (pass (aX rs M (d + 1)) rs.length) (cc q ((d + 1 : Nat) : Int)).toNat).map fun g => aQ (aa g))) (.of (.call (.g hG) ((fJ hG hV (size := (cc q ((d + 1 : Nat) : Int)).toNat) (by omega)).aq.le (by decide)) hG.kp (af.cons (.var M5) (af.cons (.as (.var M7) (congrArg vInt (by omega))) .nil)) .nil) .list (Nat.le_refl _)) ?_
   rintro _ rfl
   refine ⟨fun i => ((aZ (pass (aX rs M (d + 1)) rs.length) (cc q ((d + 1 : Nat) : Int)).toNat).take i).any (b7 rs n (d + 1)) = false, fun _ => [("profile", some (ah G n rs)), ("committee", some (ar G M)), ("quota", some (q.vp)), ("ell_upper_bound", some (vInt (aH (tw rs) q))), ("ell", some (vInt ((d + 1 : Nat) : Int))), ("voters_less_than_ell_approved_candidates", some (ae (aa (pass (aX rs M (d + 1)) rs.length)))), ("voters_less_than_ell_approved_candidates_weight", none), ("min_group_size", none), ("i", none), ("voter", none), ("combination", none), ("cut", none), ("vi", none), ("detailed_information", none)],
    fun _ => Xf ++ [], rfl, (K6 (D2 (.refl _))), rfl, ?_, ?_⟩
   ·intro i v hv hq
    refine ag (cZ hv) fun g hg re0 => ?_; subst re0
    have gl := fE hV (fun v hv => dY v hv) g (List.mem_of_getElem? hg)
    refine ⟨_, .name (.inl rfl) U10, fun Xg Yg => ?_⟩
    refine .assign (.call (.b hG) ((cO.list (S := eH rs n []) (nc := n) hn (ns := List.range n) (fun n h => List.mem_range.mp h) (fun j hj => by simp [eH]) (by rw [List.length_range, kx hn])).set _) .ty (af.cons (.as (.fld hG (D := 445) (fs := bg n (ae (az G rs))) (.var (.head _)) rfl) (by rw [dH])) .nil) .nil) (.inl rfl) U11 ?_
    refine .cH (Sp := (· = aa g)) (.of (.var M10) .tup (Nat.le_refl _)) ?_
    rintro _ rfl
    refine ⟨fun _ => True, fun i => [("profile", some (ah G n rs)), ("committee", some (ar G M)), ("quota", some (q.vp)), ("ell_upper_bound", some (vInt (aH (tw rs) q))), ("ell", some (vInt ((d + 1 : Nat) : Int))), ("voters_less_than_ell_approved_candidates", some (ae (aa (pass (aX rs M (d + 1)) rs.length)))), ("voters_less_than_ell_approved_candidates_weight", none), ("min_group_size", none), ("i", none), ("voter", none), ("combination", some (aQ (aa g))), ("cut", some (ar G (eH rs n (g.take i)))), ("vi", none), ("detailed_information", none)],
     fun _ => Xg ++ (Xf ++ []), trivial, .refl _, rfl, ?_, ?_⟩
    ·intro i v hv _
     refine ag (d5 hv) fun m hm re0 => ?_; subst re0
     obtain ⟨r, hr⟩ := dc (gl m (List.mem_of_getElem? hm))
     refine ⟨_, .name (.inl rfl) U12, fun Xh Yh => ?_⟩
     refine .assign (.bin (.var M11) (.iH hG ((EvT.at_ hG (.var (.head _)) (.var M12) hr Z1).le (by decide))) .om) (.inl rfl) U11 ?_
     exact .aW trivial (K12 (.drop (.refl _))) (by rw [← cX hr, i2 hm]) rfl
    ·intro _
     rw [show (aa g).length = g.length by unfold aa; rw [List.length_map]]
     skip
     rw [List.take_length]
     refine .if_ (b := b7 rs n (d + 1) g) (.cmp (.call (.b hG) .cQ .bi (af.cons (.var M11) .nil) .nil) (.var M4) .ge .bool) (fun hb => ?_) (fun hb => ?_)
     ·refine .assign (.dict (.cons (.var M5) (.cons (.var M4) (.cons (.var M11) .nil)))) (.inl rfl) U13 ?_
      refine .ret (.as (.d7 (.cons .bool (.cons (.var M13) .nil))) ?_) fun y s h => .of h
      have e2 : bN (b7 rs n) rs M q (d + 1) = true := by
       unfold bN
       rw [‹decide (gw rs (aX rs M (d + 1)) rs.length < cc q ((d + 1 : Nat) : Int)) = false›, cg hg hb]; rfl
      unfold fC
      rw [aF hd e2]; rfl
     ·exact .th (.aW (aV hg hq hb) (K10 (D2 (.refl _))) rfl rfl)
   ·intro hq
    rw [List.length_map, List.take_length] at hq
    have e2 : bN (b7 rs n) rs M q (d + 1) = false := by
     unfold bN
     rw [hq, Bool.and_false]
    exact .aW (aA hp e2) (K4 (D2 (.refl _))) rfl rfl
 ·intro hp
  rw [bk] at hp
  refine .assign .ir (.inl rfl) U13 ?_
  refine .ret (.as (.d7 (.cons .bool (.cons (.var M13) .nil))) ?_) fun y s h => .of h
  unfold fC
  rw [hp]; rfl
theorem pG (hG : G.Main) {n : Nat} {rs : List Row} {M : Nat → Bool} {q : Num} (pa : Par rs q) (hn : n ≤ 4) : FnT G 60 (.ref 282) [ah G n rs, ar G M, q.vp] [] [] (aQ [vBool (!fL rs M q n), e9]) := by
 refine FnT.fn hG (pn := ["profile", "committee", "quota"]) (bv := [ah G n rs, ar G M, q.vp]) (σ0 := [("profile", some (ah G n rs)), ("committee", some (ar G M)), ("quota", some (q.vp)), ("ell_upper_bound", none), ("ell", none), ("voters_less_than_ell_approved_candidates", none), ("voters_less_than_ell_approved_candidates_weight", none), ("min_group_size", none), ("vi", none), ("voter", none), ("group", none), ("cut", none), ("j", none), ("approved_cands_union", none), ("detailed_information", none)]) rfl (by kernel_rfl) rfl rfl ⟨rfl, rfl, rfl, rfl, rfl, rfl⟩ (ig fun y z u s w => BindsTo.of_eq rfl) (by decide) ?_
 intro s₀ F₀ st
 have ok := pa.ok
 have hz := pa.hz
 have s0 := pa.s0
 have s1 := pa.s1
 refine .assign ((EvT.gS hG ok pa.t0 pa.t1 (.head _) M2).le (by decide)) (.inl rfl) U3 ?_
 refine .cH (Sp := (· = aG 1 (aH (tw rs) q).toNat)) (.of (.call (.b hG) .eC .ty (af.cons .int (af.cons (.bin (.var M3) .int .add) .nil)) .nil) (cm (by unfold tw at *; omega) Z60 (by unfold tw at *; omega)) (Nat.le_refl _)) ?_
 rintro _ rfl
 refine ⟨fun i => (List.range i).any (fun d => bN (bX rs M n) rs M q (d + 1)) = false, fun _ => [("profile", some (ah G n rs)), ("committee", some (ar G M)), ("quota", some (q.vp)), ("ell_upper_bound", some (vInt (aH (tw rs) q))), ("ell", none), ("voters_less_than_ell_approved_candidates", none), ("voters_less_than_ell_approved_candidates_weight", none), ("min_group_size", none), ("vi", none), ("voter", none), ("group", none), ("cut", none), ("j", none), ("approved_cands_union", none), ("detailed_information", none)], fun _ => [], rfl, .refl _, rfl, ?_, ?_⟩
 ·intro d v hv hp
  obtain ⟨hd, rfl⟩ := bh hv
  rw [show (1 : Int) + d = ((d + 1 : Nat) : Int) from Z30]
  have cb := ml ok (i := ((d + 1 : Nat) : Int)) Z33 (by omega)
  refine ⟨_, .name (.inl rfl) U4, fun Xf Yf => ?_⟩
  refine .nList (.inl rfl) (fun a => U5) fun a => ?_
  refine .assign .int (.inl rfl) U6 ?_
  refine .assign ((EvT.nU hG ok (i := ((d + 1 : Nat) : Int)) Z33 (by omega) M2 (.var M4)).le (by decide)) (.inl rfl) U7 ?_
  refine .cH (Sp := (· = bW (az G rs))) ((gP hG (by decide) rfl (.var (.head _))).up (by decide)) ?_
  rintro _ rfl
  refine ⟨fun _ => True, fun i => [("profile", some (ah G n rs)), ("committee", some (ar G M)), ("quota", some (q.vp)), ("ell_upper_bound", some (vInt (aH (tw rs) q))), ("ell", some (vInt ((d + 1 : Nat) : Int))), ("voters_less_than_ell_approved_candidates", some (vIs (.ref a))), ("voters_less_than_ell_approved_candidates_weight", some (vInt (gw rs (aX rs M (d + 1)) i))), ("min_group_size", some (vInt (cc q ((d + 1 : Nat) : Int)))), ("vi", none), ("voter", none), ("group", none), ("cut", none), ("j", none), ("approved_cands_union", none), ("detailed_information", none)],
   fun i => (a, aC (aa (pass (aX rs M (d + 1)) i))) :: (Xf ++ []), trivial, .refl _, rfl, ?_, ?_⟩
  ·intro i v hv _
   refine ag (eW hv) fun r hr re0 => ?_; subst re0
   have hi : i < rs.length := (List.getElem?_eq_some_iff.mp hr).1
   have eb := cX hr
   have ew := dK hr
   refine ⟨_, .pair (.name (.inl rfl) U8) (.name (.inl rfl) U9), fun Xg Yg => ?_⟩
   refine .if_ (b := aX rs M (d + 1) i) (.as (.cmp (.hits hG rfl (.var M9) (.var M1)) (.var M4) .lt .bool) (by unfold aX; rw [eb])) (fun hb => ?_) (fun hb => ?_)
   ·have hl : (aa (pass (aX rs M (d + 1)) i)).length ≤ 100000 := by
     have := eG (b := aX rs M (d + 1)) (N := i)
     unfold aa
     rw [List.length_map]; omega
    refine .own (X₁ := Xg) (X₂ := Xf ++ []) (dt.append (v := vInt i) hl) M5 (.var M8) ?_
    refine .aug M6 (.wt hG (.var M9)) qK.qg (.inl rfl) U6 ?_
    exact .th (.aW trivial (K8 (D2 (.refl _))) (by rw [cY, hb, ew]; rfl) (by rw [bK, hb]; unfold aa; rw [List.map_append]; rfl))
   ·exact .th (.aW trivial (K8 (D2 (.refl _))) (by rw [cY, hb]; simp) (by rw [bK, hb]; simp))
  ·intro _
   rw [dT]
   have hV : (pass (aX rs M (d + 1)) rs.length).length ≤ 4 := Nat.le_trans eG hz
   refine .qN (X₁ := []) (X₂ := Xf ++ []) rfl rfl M5 U5 f7 ?_
   refine .if_ (b := decide (gw rs (aX rs M (d + 1)) rs.length < cc q ((d + 1 : Nat) : Int))) (.cmp (.var M6) (.var M7) .lt .bool) (fun hb => ?_) (fun hb => .th ?_)
   ·have hg : bN (bX rs M n) rs M q (d + 1) = false := by unfold bN; rw [hb]; rfl
    exact .js (aA hp hg) (K4 (D4 (.refl _))) rfl (List.Sublist.refl _) rfl
   refine .cH (Sp := (· = (aZ (pass (aX rs M (d + 1)) rs.length) (cc q ((d + 1 : Nat) : Int)).toNat).map fun g => aQ (aa g))) (.of (.call (.g hG) ((fJ hG hV (size := (cc q ((d + 1 : Nat) : Int)).toNat) (by omega)).aq.le (by decide)) hG.kp (af.cons (.var M5) (af.cons (.as (.var M7) (congrArg vInt (by omega))) .nil)) .nil) .list (Nat.le_refl _)) ?_
   rintro _ rfl
   refine ⟨fun i => ((aZ (pass (aX rs M (d + 1)) rs.length) (cc q ((d + 1 : Nat) : Int)).toNat).take i).any (bX rs M n (d + 1)) = false, fun _ => [("profile", some (ah G n rs)), ("committee", some (ar G M)), ("quota", some (q.vp)), ("ell_upper_bound", some (vInt (aH (tw rs) q))), ("ell", some (vInt ((d + 1 : Nat) : Int))), ("voters_less_than_ell_approved_candidates", some (ae (aa (pass (aX rs M (d + 1)) rs.length)))), ("voters_less_than_ell_approved_candidates_weight", none), ("min_group_size", none), ("vi", none), ("voter", none), ("group", none), ("cut", none), ("j", none), ("approved_cands_union", none), ("detailed_information", none)],
    fun _ => Xf ++ [], rfl, (K6 (D2 (.refl _))), rfl, ?_, ?_⟩
   ·intro i v hv hq
    refine ag (cZ hv) fun g hg re0 => ?_; subst re0
    have gl := fE hV (fun v hv => dY v hv) g (List.mem_of_getElem? hg)
    refine ⟨_, .name (.inl rfl) U10, fun Xg Yg => ?_⟩
    refine .assign (.call (.b hG) ((cO.list (S := eH rs n []) (nc := n) hn (ns := List.range n) (fun n h => List.mem_range.mp h) (fun j hj => by simp [eH]) (by rw [List.length_range, kx hn])).set _) .ty (af.cons (.as (.fld hG (D := 445) (fs := bg n (ae (az G rs))) (.var (.head _)) rfl) (by rw [dH])) .nil) .nil) (.inl rfl) U11 ?_
    refine .cH (Sp := (· = aa g)) (.of (.var M10) .tup (Nat.le_refl _)) ?_
    rintro _ rfl
    refine ⟨fun _ => True, fun i => [("profile", some (ah G n rs)), ("committee", some (ar G M)), ("quota", some (q.vp)), ("ell_upper_bound", some (vInt (aH (tw rs) q))), ("ell", some (vInt ((d + 1 : Nat) : Int))), ("voters_less_than_ell_approved_candidates", some (ae (aa (pass (aX rs M (d + 1)) rs.length)))), ("voters_less_than_ell_approved_candidates_weight", none), ("min_group_size", none), ("vi", none), ("voter", none), ("group", some (aQ (aa g))), ("cut", some (ar G (eH rs n (g.take i)))), ("j", none), ("approved_cands_union", none), ("detailed_information", none)],
     fun _ => Xg ++ (Xf ++ []), trivial, .refl _, rfl, ?_, ?_⟩
    ·intro i v hv _
     refine ag (d5 hv) fun m hm re0 => ?_; subst re0
     obtain ⟨r, hr⟩ := dc (gl m (List.mem_of_getElem? hm))
     refine ⟨_, .name (.inl rfl) U12, fun Xh Yh => ?_⟩
     refine .assign (.bin (.var M11) (.iH hG ((EvT.at_ hG (.var (.head _)) (.var M12) hr Z1).le (by decide))) .om) (.inl rfl) U11 ?_
     exact .aW trivial (K12 (.drop (.refl _))) (by rw [← cX hr, i2 hm]) rfl
    ·intro _
     rw [show (aa g).length = g.length by unfold aa; rw [List.length_map]]
     skip
     rw [List.take_length]
     refine .if_ (b := b7 rs n (d + 1) g) (.cmp (.call (.b hG) .cQ .bi (af.cons (.var M11) .nil) .nil) (.var M4) .ge .bool) (fun hb => ?_) (fun hb => ?_)
     ·refine .assign (v := ar G (gp rs [])) (.call (.b hG) .rn .ty .nil .nil) (.inl rfl) U13 ?_
      refine .cH (Sp := (· = aa g)) (.of (.var M10) .tup (Nat.le_refl _)) ?_
      rintro _ rfl
      refine ⟨fun _ => True, fun i => [("profile", some (ah G n rs)), ("committee", some (ar G M)), ("quota", some (q.vp)), ("ell_upper_bound", some (vInt (aH (tw rs) q))), ("ell", some (vInt ((d + 1 : Nat) : Int))), ("voters_less_than_ell_approved_candidates", some (ae (aa (pass (aX rs M (d + 1)) rs.length)))), ("voters_less_than_ell_approved_candidates_weight", none), ("min_group_size", none), ("vi", none), ("voter", none), ("group", some (aQ (aa g))), ("cut", some (ar G (eH rs n g))), ("j", none), ("approved_cands_union", some (ar G (gp rs (g.take i)))), ("detailed_information", none)],
       fun _ => Xg ++ (Xf ++ []), trivial, .refl _, rfl, ?_, ?_⟩
      ·intro i v hv _
       refine ag (d5 hv) fun m hm re0 => ?_; subst re0
       obtain ⟨r, hr⟩ := dc (gl m (List.mem_of_getElem? hm))
       refine ⟨_, .name (.inl rfl) U12, fun Xh Yh => ?_⟩
       refine .assign (.iZ (.var M13) .union .union .bi (af.cons (.iH hG ((EvT.at_ hG (.var (.head _)) (.var M12) hr Z1).le (by decide))) .nil) .nil) (.inl rfl) U13 ?_
       exact .aW trivial (K12 (.drop (.refl _))) (by rw [← cX hr, mI hm]) rfl
      ·intro _
       rw [show (aa g).length = g.length by unfold aa; rw [List.length_map]]
       skip
       rw [List.take_length]
       refine .if_ (b := decide (((elems (inS (gp rs g) M)).length : Int) < ((d + 1 : Nat) : Int))) (.cmp (.call (.b hG) .cQ .bi (af.cons (.bin (.var M13) (.var M1) .om) .nil) .nil) (.var M4) .lt .bool) (fun hb2 => ?_) (fun hb2 => ?_)
       ·refine .assign (.dict (.cons (.var M5) (.cons (.var M4) (.cons (.var M11) .nil)))) (.inl rfl) U14 ?_
        refine .ret (.as (.d7 (.cons .bool (.cons (.var M14) .nil))) ?_) fun y s h => .of h
        have hb3 : bX rs M n (d + 1) g = true := by unfold bX; rw [hb, hb2]; rfl
        have e2 : bN (bX rs M n) rs M q (d + 1) = true := by
         unfold bN
         rw [‹decide (gw rs (aX rs M (d + 1)) rs.length < cc q ((d + 1 : Nat) : Int)) = false›, cg hg hb3]; rfl
        unfold fL
        rw [aF hd e2]; rfl
       ·have hb3 : bX rs M n (d + 1) g = false := by unfold bX; rw [hb2, Bool.and_false]
        exact .th (.th (.aW (aV hg hq hb3) (K10 (D2 (.keep (.drop (.refl _))))) rfl rfl))
     ·have hb3 : bX rs M n (d + 1) g = false := by unfold bX; rw [hb]; rfl
      exact .th (.aW (aV hg hq hb3) (K10 (D2 (.refl _))) rfl rfl)
   ·intro hq
    rw [List.length_map, List.take_length] at hq
    have e2 : bN (bX rs M n) rs M q (d + 1) = false := by
     unfold bN
     rw [hq, Bool.and_false]
    exact .aW (aA hp e2) (K4 (D2 (.refl _))) rfl rfl
 ·intro hp
  rw [bk] at hp
  refine .assign .ir (.inl rfl) U14 ?_
  refine .ret (.as (.d7 (.cons .bool (.cons (.var M14) .nil))) ?_) fun y s h => .of h
  unfold fL
  rw [hp]; rfl
noncomputable def aK (g : List Nat) : Nat → Bool := fun c => g.contains c
theorem g9 : ∀ n < 5, ∀ size < 5, ((aZ (List.range n) size).all fun g => g.length == (elems (aK g)).length && g.all (fun c => decide (c < n))) = true := by decide +kernel
theorem iJ {n size : Nat} (hn : n ≤ 4) (hs : size ≤ 4) : ∀ g ∈ aZ (List.range n) size, g.length = (elems (aK g)).length ∧ ∀ c ∈ g, c < n := by
 intro g hg
 have := List.all_eq_true.mp (g9 n Z27 size Z27) g hg
 rw [Bool.and_eq_true] at this
 exact ⟨by simpa using this.1, fun c hc => by simpa using List.all_eq_true.mp this.2 c hc⟩
noncomputable def fN (rs : List Row) (M : Nat → Bool) (n : Nat) : Bool := (aZ (List.range n) (elems M).length).any fun g => fB rs (aK g) M
theorem o8 (hG : G.Main) {n : Nat} {rs : List Row} {M : Nat → Bool} (hn : n ≤ 4) (hM : ∀ c ∈ elems M, c < n) : FnT G 60 (.ref 268) [ah G n rs, ar G M] [] [] (aQ [vBool (!fN rs M n), e9]) := by
 refine FnT.fn hG (pn := ["profile", "committee"]) (bv := [ah G n rs, ar G M]) (σ0 := [("profile", some (ah G n rs)), ("committee", some (ar G M)), ("other_committee", none), ("detailed_information", none)]) rfl (by kernel_rfl) rfl rfl ⟨rfl, rfl, rfl, rfl, rfl, rfl⟩ (ja fun y z s w => BindsTo.of_eq rfl) (by decide) ?_
 intro s₀ F₀ st
 have hm := ax M
 refine .cH (Sp := (· = (aZ (List.range n) (elems M).length).map fun g => aQ (aa g))) (.of (.call (.g hG) ((fJ hG (V := List.range n) (size := (elems M).length) (by rw [List.length_range]; exact hn) Z1).aq.le (by decide)) hG.kp (af.cons (.as (.fld hG (D := 445) (fs := bg n (ae (az G rs))) (.var (.head _)) rfl) (by rw [dH]; rfl)) (af.cons (.call (.b hG) .cQ .bi (af.cons (.var M1) .nil) .nil) .nil)) .nil) .list (Nat.le_refl _)) ?_
 rintro _ rfl
 refine ⟨fun i => ((aZ (List.range n) (elems M).length).take i).any (fun g => fB rs (aK g) M) = false, fun _ => [("profile", some (ah G n rs)), ("committee", some (ar G M)), ("other_committee", none), ("detailed_information", none)], fun _ => [], rfl, .refl _, rfl, ?_, ?_⟩
 ·intro i v hv hp
  refine ag (cZ hv) fun g hg re0 => ?_; subst re0
  obtain ⟨g1, g2⟩ := iJ hn hm g (List.mem_of_getElem? hg)
  refine ⟨_, .name (.inl rfl) U2, fun Xf Yf => ?_⟩
  refine .if_ (b := fB rs (aK g) M) (.val (.call (.g hG) ((kz hG (cO.tup (S := aK g) hn g2 (fun j _ => rfl) g1) (cO.q7 hM)).aq.le (by decide)) hG.kp (af.cons (.var (.head _)) (af.cons (.var M2) (af.cons (.var M1) .nil))) .nil) .bool) (fun hb => ?_) (fun hb => ?_)
  ·refine .assign (.dict (.cons (.var M2) .nil)) (.inl rfl) U3 ?_
   refine .ret (.as (.d7 (.cons .bool (.cons (.var M3) .nil))) ?_) fun y s h => .of h
   unfold fN
   rw [cg hg (f := fun g => fB rs (aK g) M) hb]; rfl
  ·exact .th (.aW (aV hg hp hb) (K2 (.drop (.refl _))) rfl rfl)
 ·intro hp
  rw [List.length_map, List.take_length] at hp
  refine .assign .ir (.inl rfl) U3 ?_
  refine .ret (.as (.d7 (.cons .bool (.cons (.var M3) .nil))) ?_) fun y s h => .of h
  unfold fN
  rw [hp]; rfl
noncomputable def dm (E : List Nat) (b : Nat) : List (List Nat) := (ll E.length b).map fun r => r.map fun p => E.getD p 0
theorem g6 {N b : Nat} {r : List Nat} (h : r ∈ ll N b) : ∃ size, size ≤ b ∧ r ∈ b5 N size := by
 unfold ll at h
 refine ag (List.mem_flatMap.mp h) fun size hs hr => ?_
 exact ⟨size, by have := List.mem_range.mp hs; exact Z28, hr⟩
theorem kb {E : List Nat} {b m : Nat} (h : E.length ≤ 4) (hE : ∀ v ∈ E, v < m) : ∀ g ∈ dm E b, ∀ v ∈ g, v < m := by
 intro g hg v hv
 refine ag (List.mem_map.mp hg) fun r hr re0 => ?_; subst re0
 refine ag (g6 hr) fun size _ hr => ?_
 exact fE h hE _ (List.mem_map_of_mem (f := fun r : List Nat => r.map fun p => E.getD p 0) hr) v hv
theorem oJ {E : List Nat} {b : Nat} (h : E.length ≤ 4) : (ll E.length b).map (fun r => aQ (bV (aa E) r)) = (dm E b).map fun g => aQ (aa g) := by
 unfold dm
 rw [List.map_map]
 refine List.map_congr_left fun r hr => ?_
 show aQ _ = aQ _
 unfold bV aa
 rw [List.map_map]
 refine congrArg aQ (List.map_congr_left fun p hp => ?_)
 refine ag (g6 hr) fun size _ hr => ?_
 have := iC h r hr p hp
 show (E.map fun (n : Nat) => vInt n).getD p e9 = vInt (E.getD p 0)
 rw [List.getD_eq_getElem?_getD, List.getD_eq_getElem?_getD, List.getElem?_map, List.getElem?_eq_getElem this]; rfl
theorem kJ (S : Nat → Bool) : ∀ v ∈ elems S, v < 4 := fun v hv => (ay.mp hv).1
noncomputable def lE (G : Gd) (rs : List Row) (i : Nat) : VP := aQ [vInt (i : Int), bu G (bal rs i) (wt rs i)]
theorem mT {G : Gd} {rs : List Row} : bW (az G rs) = (List.range rs.length).map (lE G rs) := by
 apply List.ext_getElem?
 intro i
 rcases Nat.lt_or_ge i rs.length with h | h
 ·obtain ⟨r, hr⟩ := dc h
  have hl : i < (bW (az G rs)).length := by rw [dT]; exact h
  have e1 : (bW (az G rs))[i]? = some (bW (az G rs))[i] := List.getElem?_eq_getElem hl
  refine ag (eW e1) fun r' hr' e => ?_
  rw [e1, e, List.getElem?_map, List.getElem?_range h, Option.map_some]; unfold lE; rw [cX hr', dK hr']
 ·rw [List.getElem?_eq_none (by rw [dT]; exact h), List.getElem?_eq_none (by simpa using h)]
noncomputable def coreC (rs : List Row) (M T : Nat → Bool) (i : Nat) : Bool := decide ((ao (bal rs i) M : Int) < ao (bal rs i) T)
noncomputable def cK (rs : List Row) (M : Nat → Bool) (q : Num) (g : List Nat) : Bool := !(pass (coreC rs M (aK g)) rs.length).isEmpty && leQ q (elems (aK g)).length (gw rs (coreC rs M (aK g)) rs.length)
noncomputable def eh (rs : List Row) (M : Nat → Bool) (q : Num) : Bool := (dm (elems (bU rs)) (aH (tw rs) q).toNat).any (cK rs M q)
theorem fS (hG : G.Main) {arg : Expr} {n : Nat} {rs : List Row} {q p : Pos} {elts : List Expr} {ctx : Nat} {pos : Pos} (hk : 14 ≤ k) (ha : EvT G k C σ arg (ah G n rs)) (hx : autoParam (C.env.kindOf "enumerate" = some .globalImplicit) tcR)
  (hplain : autoParam (((backTo p (starEach [arg] C.env)).any (·.1) || (backToKw p (keywordEach [] C.env)).any (·.1.isNone)) = false) tcR) (hst : ∃ x r, backTo p (starEach [arg] C.env) = (false, x) :: r := by exact ⟨_, _, rfl⟩) (hstar : autoParam (starEach [arg] C.env = (false, eval arg C.env) :: starEach [] C.env) tcR) :
  dk G k k (.Tuple elts ctx pos) C σ (.Call (.Name "enumerate" q) [arg] [] p) (· = (List.range rs.length).map (lE G rs)) := by
 have := (gP (q := q) (elts := elts) (ctx := ctx) (pos := pos) hG hk hx ha hplain hst hstar).up (k := k) Z7
 rw [mT] at this
 exact this
theorem kQ (hG : G.Main) {E : List Nat} {b : Nat} (hl : E.length ≤ 4) (hb : b ≤ 900) : FnT G 32 (.ref 46) [ae (aa E)] ["max_size"] [vInt b] (ae ((dm E b).map fun g => aQ (aa g))) := by
 have := kH hG (l := aa E) (b := b) (by unfold aa; rw [List.length_map]; exact hl) hb
 rwa [show (aa E).length = E.length by unfold aa; rw [List.length_map], oJ hl] at this
theorem my {g : List Nat} (h : ∀ v ∈ g, v < 4) : aw G (k + 3) (.type "set") [aQ (aa g)] [] [] (ar G (aK g)) :=
 .setOf .tup .tup sub_tuple_set sub_tuple_frozenset (by decide) fun l e => ⟨g, e, h, fun j _ => rfl⟩
theorem oH (hG : G.Main) {n : Nat} {rs : List Row} {M : Nat → Bool} {q : Num} (pa : Par rs q) (hn : n ≤ 4) : FnT G 60 (.ref 323) [ah G n rs, ar G M, q.vp] [] [] (aQ [vBool (!eh rs M q), e9]) := by
 refine FnT.fn hG (pn := ["profile", "committee", "quota"]) (bv := [ah G n rs, ar G M, q.vp]) (σ0 := [("profile", some (ah G n rs)), ("committee", some (ar G M)), ("quota", some (q.vp)), ("max_num_of_candidates", none), ("cands", none), ("set_of_voters", none), ("detailed_information", none)]) rfl (by kernel_rfl) rfl rfl ⟨rfl, rfl, rfl, rfl, rfl, rfl⟩ (ig fun y z u s w => BindsTo.of_eq rfl) (by decide) ?_
 intro s₀ F₀ st
 have ok := pa.ok
 have hz := pa.hz
 have s0 := pa.s0
 have s1 := pa.s1
 have hE := ax (bU rs)
 refine .assign ((EvT.gS hG ok pa.t0 pa.t1 (.head _) M2).le (by decide)) (.inl rfl) U3 ?_
 refine .cH (Sp := (· = (dm (elems (bU rs)) (aH (tw rs) q).toNat).map fun g => aQ (aa g))) (.of (.call (.g hG) ((kQ hG hE (b := (aH (tw rs) q).toNat) Z64).aq.le (by decide)) hG.kp (af.cons (.call (.b hG) ((aw.i6 (S := bU rs)).le (by decide)) .bi (af.cons (.iZ (.var (.head _)) (.own hG) ((mz hG).aq.le (by decide)) hG.kp .nil .nil) .nil) .nil) .nil) (.cons (.as (.var M3) (congrArg vInt (by unfold tw at *; exact Z66))) .nil)) .list (Nat.le_refl _)) ?_
 rintro _ rfl
 refine ⟨fun i => ((dm (elems (bU rs)) (aH (tw rs) q).toNat).take i).any (cK rs M q) = false, fun _ => [("profile", some (ah G n rs)), ("committee", some (ar G M)), ("quota", some (q.vp)), ("max_num_of_candidates", none), ("cands", none), ("set_of_voters", none), ("detailed_information", none)], fun _ => [], rfl, (K3 (.drop (.refl _))), rfl, ?_, ?_⟩
 ·intro i v hv hp
  refine ag (cZ hv) fun g hg re0 => ?_; subst re0
  have g4 := kb hE (kJ _) g (List.mem_of_getElem? hg)
  have hT := ax (aK g)
  refine ⟨_, .name (st _ (by simp)) U4, fun Xf Yf => ?_⟩
  refine .assign (.call (.b hG) (my g4) .ty (af.cons (.var M4) .nil) .nil) (st _ (by simp)) U4 ?_
  refine .c8 (Sp := (· = (List.range rs.length).map (lE G rs))) (res := aa (pass (coreC rs M (aK g)) rs.length)) (cl := [("committee", s₀.heap.objs.size + 1 + 1), ("cands", s₀.heap.objs.size + 1 + 1 + 1)]) (σc := [("vi", none), ("voter", none), ("cands", some (ar G (aK g))), ("committee", some (ar G M))])
   (fS hG (by decide) (.var (.head _))) (.of ["vi", "voter"] ["cands", "committee"] [ar G (aK g), ar G M]) ?_ (st _ (by simp)) U5 ?_
  ·rintro _ rfl
   refine .sel (pb := coreC rs M (aK g)) (wv := fun (i : Nat) => vInt i) (by simp; exact Z1) fun s0 F0 xa xg st i hi => ?_
   refine ⟨_, .pair (.name (.inl rfl) .here) (.name (.inl rfl) U1), .drop (.drop (.refl _)), ?_, .var (.head _)⟩
   exact .cmp (.hits hG rfl (.var M1) (.var M2)) (.hits hG rfl (.var M1) (.var M3)) .gt .bool
  have hP : (pass (coreC rs M (aK g)) rs.length).length ≤ 4 := Nat.le_trans eG hz
  refine .if_ (b := (pass (coreC rs M (aK g)) rs.length).isEmpty) (.as (.iQ (.val (.var M5) (.list (by unfold aa; rw [List.length_map]; exact Z2)))) (by unfold aa; simp)) (fun hb => ?_) (fun hb => .th ?_)
  ·have hh : cK rs M q g = false := by unfold cK; rw [hb]; rfl
   exact .js (aV hg hp hh) (K4 (D2 (.refl _))) rfl (List.Sublist.refl _) rfl
  refine .if_ (b := leQ q (elems (aK g)).length (gw rs (coreC rs M (aK g)) rs.length)) ((TsT.mC hG ok Z33 Z40 M2 (.call (.b hG) .cQ .bi (af.cons (.var M4) .nil) .nil) (.du (f := .ref 213) (v := vInt (gw rs (coreC rs M (aK g)) rs.length)) (j := 31) (Sp := (· = aa (pass (coreC rs M (aK g)) rs.length))) (lo := fun _ => ((pass (coreC rs M (aK g)) rs.length).map (wt rs)).map vInt) (endr := .ok .next) (.g hG) hG.kp ?_ ?_)).le (by decide)) (fun hb2 => ?_) (fun hb2 => ?_)
  ·intro A X Y τ s hA h
   refine dB (k := 30) (σg := [("vi", none), ("profile", some (ah G n rs))]) (cl := [("profile", s₀.heap.objs.size + 1)]) (.of (.var M5) .list (by decide)) (.of ["vi"] ["profile"] [ah G n rs] rfl ⟨322, 320, rfl, hG.tabs _ (by simp)⟩) ?_ (fun _ => rfl) (hA.le (by decide)) h
   rintro _ rfl
   refine ⟨fun _ => true, fun i => vInt (((pass (coreC rs M (aK g)) rs.length)[i]?.map (wt rs)).getD 0), ?_, fun L code => ?_⟩
   ·rw [dS]
    apply List.ext_getElem
    ·simp [aa]
    ·intro i h1 h2
     have h3 : i < (pass (coreC rs M (aK g)) rs.length).length := by simpa using h1
     simp [List.getElem?_eq_getElem h3]
   intro C hC hst i u hu
   obtain ⟨env, s0, F0, xa, xg⟩ := C
   dsimp only at hC
   subst hC
   refine ag (d5 hu) fun m hm re0 => ?_; subst re0
   obtain ⟨r, hr⟩ := dc (dY m (List.mem_of_getElem? hm))
   refine ⟨_, .name (.inl rfl) .here, .nil, .drop (.refl _), fun _ => ?_⟩
   dsimp only
   rw [hm]
   refine .as (.wt hG ((EvT.at_ hG (.var M1) (.var (.head _)) hr Z1).le (by decide))) ?_
   rw [← dK hr]; rfl
  ·intro A X Y τ s l y hA hl hr
   exact dE (jj := 32) hG (by decide) (hA.le (by decide)) hr
  ·refine .assign (.dict (.cons (.var M5) (.cons (.var M4) .nil))) (.inl rfl) U6 ?_
   refine .ret (.as (.d7 (.cons .bool (.cons (.var M6) .nil))) ?_) fun y s h => .of h
   have hh : cK rs M q g = true := by unfold cK; rw [hb, hb2]; rfl
   unfold eh
   rw [cg hg hh]; rfl
  ·have hh : cK rs M q g = false := by unfold cK; rw [hb2, Bool.and_false]
   exact .th (.aW (aV hg hp hh) (K4 (D2 (.refl _))) rfl rfl)
 ·intro hp
  rw [List.length_map, List.take_length] at hp
  refine .assign .ir (.inl rfl) U6 ?_
  refine .ret (.as (.d7 (.cons .bool (.cons (.var M6) .nil))) ?_) fun y s h => .of h
  unfold eh
  rw [hp]; rfl
section
set_option maxHeartbeats 4000000
noncomputable def atMost (rs : List Row) (M : Nat → Bool) (u i : Nat) : Bool := decide ((ao (bal rs i) M : Int) ≤ u)
noncomputable def dz (rs : List Row) (T : Nat → Bool) (u i : Nat) : Bool := decide ((u : Int) ≤ ao (bal rs i) T)
noncomputable def jz (rs : List Row) (M T : Nat → Bool) (b i : Nat) : Bool := dz rs T (b + 1) i && atMost rs M b i
noncomputable def fA (rs : List Row) (M : Nat → Bool) (q : Num) (g : List Nat) : Bool := (List.range (elems (aK g)).length).any fun b => leQ q (elems (aK g)).length (gw rs (jz rs M (aK g) b) rs.length)
noncomputable def fO (rs : List Row) (M : Nat → Bool) (q : Num) : Bool := (dm (elems (bU rs)) (aH (tw rs) q).toNat).any (fA rs M q)
theorem fk {b : Nat → Bool} {N j : Nat} : (pass b N).contains j = bo b N j := by
 unfold pass bo
 rw [Bool.eq_iff_iff]
 simp
theorem ed {b : Nat → Bool} {N : Nat} (h : N ≤ 4) : elems (bo b N) = pass b N := by
 unfold elems pass bo
 have : N = 0 ∨ N = 1 ∨ N = 2 ∨ N = 3 ∨ N = 4 := Z73
 rcases this with rfl | rfl | rfl | rfl | rfl <;> simp [List.range_succ, List.filter_append, List.filter_cons]
theorem nH {a b : Nat → Bool} {N : Nat} : inS (bo a N) (bo b N) = bo (fun i => a i && b i) N := by
 funext j
 unfold inS bo
 cases decide (j < N) <;> simp
theorem j6 {l l' : List Int} (h : l.Perm l') : l.sum = l'.sum := by
 induction h with
 | nil => rfl
 | cons x _ ih => simp [ih]
 | swap x y l => simp; omega
 | trans _ _ h1 h2 => exact h1.trans h2
theorem nu {i j : Int} (h : vInt i = vInt j) : i = j := by
 have h1 : (vInt i).p (fun _ => none) (.int i 0) := ⟨0, rfl⟩
 rw [h] at h1
 obtain ⟨t, e⟩ := h1
 cases e; rfl
noncomputable def kB (rs : List Row) (v : VP) : VP := ⟨fun F y => ∃ i : Nat, v = vInt (i : Int) ∧ (vInt (wt rs i)).p F y, fun _ h => h⟩
theorem f5 {rs : List Row} {i : Nat} : kB rs (vInt (i : Int)) = vInt (wt rs i) := by
 unfold kB
 have : (fun (F : Fz) (y : Value) => ∃ j : Nat, vInt (i : Int) = vInt (j : Int) ∧ (vInt (wt rs j)).p F y) = (vInt (wt rs i)).p := by
  funext F y
  refine propext ⟨fun ⟨j, e, h⟩ => ?_, fun h => ⟨i, rfl, h⟩⟩
  obtain rfl : i = j := by have := nu e; exact Z34
  exact h
 show (VP.mk _ _) = (VP.mk _ _)
 congr 1
theorem lq : ∀ N < 5, ∀ size < 5, ((b5 N size).all fun r => r.length == size) = true := by decide +kernel
theorem mS {N size : Nat} (h : N ≤ 4) : ∀ r ∈ b5 N size, r.length = size := by
 intro r hr
 rcases Nat.lt_or_ge N size with l | l
 ·unfold b5 at hr
  rw [if_pos l] at hr
  cases hr
 ·simpa using List.all_eq_true.mp (lq N Z27 size Z18) r hr
theorem nM (g : List Nat) : (elems (aK g)).length ≤ g.length := by
 have nd : (elems (aK g)).Nodup := List.Pairwise.filter _ List.nodup_range
 refine List.Nodup.length_le_of_subset nd fun c hc => ?_
 have := (ay.mp hc).2
 unfold aK at this
 simpa using this
theorem mY {E : List Nat} {b : Nat} (h : E.length ≤ 4) : ∀ g ∈ dm E b, g.length ≤ b := by
 intro g hg
 refine ag (List.mem_map.mp hg) fun r hr re0 => ?_; subst re0
 refine ag (g6 hr) fun size hs hr => ?_
 rw [List.length_map, mS h r hr]
 exact hs
theorem pj (hG : G.Main) {n : Nat} {rs : List Row} {M : Nat → Bool} {q : Num} (pa : Par rs q) (hn : n ≤ 4) : FnT G 60 (.ref 310) [ah G n rs, ar G M, q.vp] [] [] (aQ [vBool (!fO rs M q), e9]) := by
 refine FnT.fn hG (pn := ["profile", "committee", "quota"]) (bv := [ah G n rs, ar G M, q.vp]) (σ0 := [("profile", some (ah G n rs)), ("committee", some (ar G M)), ("quota", some (q.vp)), ("set_upper_bound", none), ("committee_utility_at_most", none), ("T_utility_at_least", none), ("beta", none), ("cohesive_group", none), ("detailed_information", none), ("T", none)]) rfl (by kernel_rfl) rfl rfl ⟨rfl, rfl, rfl, rfl, rfl, rfl⟩ (ig fun y z u s w => BindsTo.of_eq rfl) (by decide) ?_
 intro s₀ F₀ st
 have ok := pa.ok
 have hz := pa.hz
 have s0 := pa.s0
 have s1 := pa.s1
 have hE := ax (bU rs)
 refine .assign ((EvT.gS hG ok pa.t0 pa.t1 (.head _) M2).le (by decide)) (.inl rfl) U3 ?_
 refine .iA (xs := List.range ((aH (tw rs) q).toNat + 1)) (kv := fun (u : Nat) => vInt u) (key := fun (u : Nat) => (u : Int)) (val := fun u => ar G (bo (atMost rs M u) rs.length)) (cl := [("profile", s₀.heap.objs.size + 1), ("committee", s₀.heap.objs.size + 1 + 1)]) (σc := [("utility", none), ("profile", some (ah G n rs)), ("committee", some (ar G M))])
  (.of (.call (v := b6 0 (((aH (tw rs) q).toNat + 1 : Nat) : Int)) (.b hG) .cf .ty (af.cons (.as (.bin (.var M3) .int .add) (congrArg vInt (by unfold tw at *; omega))) .nil) .nil) (bA (by omega)) (Nat.le_refl _)) (.of ["utility"] ["profile", "committee"] [ah G n rs, ar G M]) ?_ (.inl rfl) U4 ?_
 ·refine ⟨by simp; exact Z50, ?_, fun s0 F0 xa xg st' u hu => ⟨_, .name (st' _ (by decide)) .here, .drop (.refl _), .var (.head _), ?_⟩⟩
  ·rw [List.Nodup, List.pairwise_map]
   exact List.nodup_range.imp fun h e => h Z34
  refine .du (f := .type "set") (v := ar G (bo (atMost rs M u) rs.length)) (j := 31) (Sp := (· = (List.range rs.length).map (lE G rs))) (lo := fun _ => aa (pass (atMost rs M u) rs.length)) (endr := .ok .next) (.b hG) .ty ?_ ?_
  ·intro A X Y τ s hA h
   refine dB (k := 30) (σg := [("vi", none), ("voter", none), ("committee", some (ar G M)), ("utility", some (vInt u))]) (cl := [("utility", s0.heap.objs.size + 1), ("committee", s₀.heap.objs.size + 1 + 1)]) ((fS (k := 30) hG (by decide) (.var M1)).le (by decide)) (.of ["vi", "voter"] ["committee", "utility"] [ar G M, vInt u] rfl ⟨309, 307, rfl, hG.tabs _ (by simp)⟩) ?_ (fun _ => rfl) (hA.le (by decide)) h
   rintro _ rfl
   refine ⟨atMost rs M u, fun (i : Nat) => vInt i, by simp [aa], fun L code => ?_⟩
   intro C hC hst i v hv
   obtain ⟨env, s1, F1, xa1, xg1⟩ := C
   dsimp only at hC
   subst hC
   obtain ⟨hi, rfl⟩ := eV hv
   exact ⟨_, .pair (.name (.inl rfl) .here) (.name (.inl rfl) U1), .one (.cmp (.hits hG rfl (.var M1) (.var M2)) (.var M3) .le .bool), .drop (.drop (.refl _)), fun _ => .var (.head _)⟩
  ·intro A X Y τ s l y hA hl hr
   exact jY hr rfl (fun n hn => by have := dY n hn; exact Z12) (fun j hj => fk) (hA.le (by decide))
 refine .cH (Sp := (· = (dm (elems (bU rs)) (aH (tw rs) q).toNat).map fun g => aQ (aa g))) (.of (.call (.g hG) ((kQ hG hE (b := (aH (tw rs) q).toNat) Z64).aq.le (by decide)) hG.kp (af.cons (.call (.b hG) ((aw.i6 (S := bU rs)).le (by decide)) .bi (af.cons (.iZ (.var (.head _)) (.own hG) ((mz hG).aq.le (by decide)) hG.kp .nil .nil) .nil) .nil) .nil) (.cons (.as (.var M3) (congrArg vInt (by unfold tw at *; exact Z66))) .nil)) .list (Nat.le_refl _)) ?_
 rintro _ rfl
 refine ⟨fun i => ((dm (elems (bU rs)) (aH (tw rs) q).toNat).take i).any (fA rs M q) = false, fun _ => [("profile", some (ah G n rs)), ("committee", some (ar G M)), ("quota", some (q.vp)), ("set_upper_bound", none), ("committee_utility_at_most", some (eB G ((List.range ((aH (tw rs) q).toNat + 1)).map fun (u : Nat) => ((u : Int), ar G (bo (atMost rs M u) rs.length))))), ("T_utility_at_least", none), ("beta", none), ("cohesive_group", none), ("detailed_information", none), ("T", none)], fun _ => [], rfl, (K3 (.drop (.refl _))), rfl, ?_, ?_⟩
 ·intro i v hv hp
  refine ag (cZ hv) fun g hg re0 => ?_; subst re0
  have g4 := kb hE (kJ _) g (List.mem_of_getElem? hg)
  have hT := ax (aK g)
  have hgl := Nat.le_trans (nM g) (mY hE g (List.mem_of_getElem? hg))
  refine ⟨_, .name (st _ (by simp)) U9, fun Xf Yf => ?_⟩
  refine .assign (.call (.b hG) (my g4) .ty (af.cons (.var M9) .nil) .nil) (st _ (by simp)) U9 ?_
  refine .iA (xs := List.range ((elems (aK g)).length + 1)) (kv := fun (u : Nat) => vInt u) (key := fun (u : Nat) => (u : Int)) (val := fun u => ar G (bo (dz rs (aK g) u) rs.length)) (cl := [("profile", s₀.heap.objs.size + 1), ("T", s₀.heap.objs.size + 1 + 1 + 1)]) (σc := [("utility", none), ("profile", some (ah G n rs)), ("T", some (ar G (aK g)))])
   (.of (.call (v := b6 0 (((elems (aK g)).length + 1 : Nat) : Int)) (.b hG) .cf .ty (af.cons (.as (.bin (.call (.b hG) .cQ .bi (af.cons (.var M9) .nil) .nil) .int .add) (congrArg vInt (by omega))) .nil) .nil) (bA (by omega)) (Nat.le_refl _)) (.of ["utility"] ["profile", "T"] [ah G n rs, ar G (aK g)]) ?_ (.inl rfl) U5 ?_
  ·refine ⟨by simp; omega, ?_, fun s0 F0 xa xg st' u hu => ⟨_, .name (st' _ (by decide)) .here, .drop (.refl _), .var (.head _), ?_⟩⟩
   ·rw [List.Nodup, List.pairwise_map]
    exact List.nodup_range.imp fun h e => h Z34
   refine .du (f := .type "set") (v := ar G (bo (dz rs (aK g) u) rs.length)) (j := 31) (Sp := (· = (List.range rs.length).map (lE G rs))) (lo := fun _ => aa (pass (dz rs (aK g) u) rs.length)) (endr := .ok .next) (.b hG) .ty ?_ ?_
   ·intro A X Y τ s hA h
    refine dB (k := 30) (σg := [("vi", none), ("voter", none), ("T", some (ar G (aK g))), ("utility", some (vInt u))]) (cl := [("utility", s0.heap.objs.size + 1), ("T", s₀.heap.objs.size + 1 + 1 + 1)]) ((fS (k := 30) hG (by decide) (.var M1)).le (by decide)) (.of ["vi", "voter"] ["T", "utility"] [ar G (aK g), vInt u] rfl ⟨309, 307, rfl, hG.tabs _ (by simp)⟩) ?_ (fun _ => rfl) (hA.le (by decide)) h
    rintro _ rfl
    refine ⟨dz rs (aK g) u, fun (i : Nat) => vInt i, by simp [aa], fun L code => ?_⟩
    intro C hC hst i v hv
    obtain ⟨env, s1, F1, xa1, xg1⟩ := C
    dsimp only at hC
    subst hC
    obtain ⟨hi, rfl⟩ := eV hv
    exact ⟨_, .pair (.name (.inl rfl) .here) (.name (.inl rfl) U1), .one (.cmp (.hits hG rfl (.var M1) (.var M2)) (.var M3) .ge .bool), .drop (.drop (.refl _)), fun _ => .var (.head _)⟩
   ·intro A X Y τ s l y hA hl hr
    exact jY hr rfl (fun n hn => by have := dY n hn; exact Z12) (fun j hj => fk) (hA.le (by decide))
  refine .cH (Sp := (· = aG 1 (elems (aK g)).length)) (.of (.call (.b hG) .eC .ty (af.cons .int (af.cons (.bin (.call (.b hG) .cQ .bi (af.cons (.var M9) .nil) .nil) .int .add) .nil)) .nil) (cm (by omega) Z60 (by omega)) (Nat.le_refl _)) ?_
  rintro _ rfl
  refine ⟨fun i => (List.range i).any (fun b => leQ q (elems (aK g)).length (gw rs (jz rs M (aK g) b) rs.length)) = false, fun _ => [("profile", some (ah G n rs)), ("committee", some (ar G M)), ("quota", some (q.vp)), ("set_upper_bound", none), ("committee_utility_at_most", some (eB G ((List.range ((aH (tw rs) q).toNat + 1)).map fun (u : Nat) => ((u : Int), ar G (bo (atMost rs M u) rs.length))))), ("T_utility_at_least", some (eB G ((List.range ((elems (aK g)).length + 1)).map fun (u : Nat) => ((u : Int), ar G (bo (dz rs (aK g) u) rs.length))))), ("beta", none), ("cohesive_group", none), ("detailed_information", none), ("T", some (ar G (aK g)))], fun _ => Xf ++ [], rfl, .refl _, rfl, ?_, ?_⟩
  ·intro b v hv hq
   obtain ⟨hb, rfl⟩ := bh hv
   rw [show (1 : Int) + b = ((b + 1 : Nat) : Int) from Z30]
   refine ⟨_, .name (.inl rfl) U6, fun Xg Yg => ?_⟩
   refine .assign (v := ar G (bo (jz rs M (aK g) b) rs.length)) (.as (.bin (.sub (.var M5) (.var M6) (.qV (v := ar G (bo (dz rs (aK g) (b + 1)) rs.length)) (List.mem_map.mpr ⟨b + 1, List.mem_range.mpr tT, rfl⟩))) (.sub (.var M4) (.as (.bin (.var M6) .int .sub) (congrArg vInt Z32)) (.qV (i := (b : Int)) (v := ar G (bo (atMost rs M b) rs.length)) (List.mem_map.mpr ⟨b, List.mem_range.mpr (by omega), rfl⟩))) .om) (congrArg (ar G) nH)) (.inl rfl) U7 ?_
   refine .if_ (b := leQ q (elems (aK g)).length (gw rs (jz rs M (aK g) b) rs.length)) ((TsT.mC hG ok Z33 (by omega) M2 (.call (.b hG) .cQ .bi (af.cons (.var M9) .nil) .nil) (.du (f := .ref 213) (v := vInt (gw rs (jz rs M (aK g) b) rs.length)) (j := 31) (Sp := fun l => ∃ p : List Nat, p.Perm (elems (bo (jz rs M (aK g) b) rs.length)) ∧ l = p.map fun (n : Nat) => vInt n) (lo := fun l => l.map (kB rs)) (endr := .ok .next) (.g hG) hG.kp ?_ ?_)).le (by decide)) (fun hb2 => ?_) (fun hb2 => ?_)
   ·intro A X Y τ s hA h
    refine dB (k := 30) (σg := [("vi", none), ("profile", some (ah G n rs))]) (cl := [("profile", s₀.heap.objs.size + 1)]) (.of (.var M7) .set (by decide)) (.of ["vi"] ["profile"] [ah G n rs] rfl ⟨309, 307, rfl, hG.tabs _ (by simp)⟩) ?_ (fun _ => rfl) (hA.le (by decide)) h
    rintro l ⟨p, hpe, rfl⟩
    refine ⟨fun _ => true, fun i => ((p[i]?.map fun (n : Nat) => kB rs (vInt n))).getD e9, ?_, fun L code => ?_⟩
    ·rw [dS]
     apply List.ext_getElem
     ·simp
     ·intro i h1 h2
      have h3 : i < p.length := by simpa using h1
      simp [List.getElem?_eq_getElem h3]
    intro C hC hst i u hu
    obtain ⟨env, s1, F1, xa1, xg1⟩ := C
    dsimp only at hC
    subst hC
    refine ag (cZ hu) fun m hm re0 => ?_; subst re0
    have hm2 := hpe.mem_iff.mp (List.mem_of_getElem? hm)
    rw [ed hz] at hm2
    obtain ⟨r, hr⟩ := dc (dY m hm2)
    refine ⟨_, .name (.inl rfl) .here, .nil, .drop (.refl _), fun _ => ?_⟩
    dsimp only
    rw [hm]
    refine .as (.wt hG ((EvT.at_ hG (.var M1) (.var (.head _)) hr Z1).le (by decide))) ?_
    rw [← dK hr]
    exact f5.symm
   ·rintro A X Y τ s l y hA ⟨p, hpe, rfl⟩ hr
    have e : (p.map fun (n : Nat) => vInt n).map (kB rs) = (p.map (wt rs)).map vInt := by
     rw [List.map_map, List.map_map]
     exact List.map_congr_left fun m _ => f5
    rw [e] at hr
    have := dE (jj := 32) hG (by decide) (hA.le (by decide)) hr
    rw [j6 (hpe.map (wt rs)), ed hz] at this
    exact this
   ·refine .assign (.dict (.cons (.call (.b hG) .cQ .bi (af.cons (.var M9) .nil) .nil) (.cons (.var M6) (.cons (.var M9) (.cons (.var M7) .nil))))) (.inl rfl) U8 ?_
    refine .ret (.as (.d7 (.cons .bool (.cons (.var M8) .nil))) ?_) fun y s h => .of h
    have hh : fA rs M q g = true := by unfold fA; exact aF hb hb2
    unfold fO
    rw [cg hg hh]; rfl
   ·exact .th (.aW (aA hq hb2) (K6 (D2 (.refl _))) rfl rfl)
  ·intro hq
   rw [bk] at hq
   have hh : fA rs M q g = false := hq
   exact .aW (aV hg hp hh) (K5 (.drop (K3 (.drop (.refl _))))) rfl rfl
 ·intro hp
  rw [List.length_map, List.take_length] at hp
  refine .assign .ir (.inl rfl) U8 ?_
  refine .ret (.as (.d7 (.cons .bool (.cons (.var M8) .nil))) ?_) fun y s h => .of h
  unfold fO
  rw [hp]; rfl
end
theorem EvT.fqE (hG : G.Main) {q : Num} (ok : q.Ok) {p1 p2 p3 : Pos} (hq : ∀ p, EvT G 50 C σ (.Name "quota" p) q.vp) (hk : autoParam (C.env.kindOf "Fraction" = some .globalImplicit) tcR) : EvT G 50 C σ (.Call (.Name "Fraction" p1) [.Name "quota" p2] [] p3) (cp (rN q.n q.d) (rD q.n q.d)) := by
 obtain ⟨n0, d0, n1, d1⟩ := ok
 exact .call (.g hG hk) (((bT hG q (.int 1) (u := q.n) (l := q.d) (by simp [Num.d]) (by simp [Num.n]) d0 (cS (by simp [Num.d]) (by simp [Num.d])) (cS Z55 Z50) ⟨bz Z55 Z50, bz Z55 Z50⟩ (.inr ⟨rfl, rfl⟩)).aq).le (by decide)) hG.kp (af.cons (hq _) .nil) .nil
theorem TsT.oA (hG : G.Main) {q : Num} (ok : q.Ok) {p1 p2 p3 p4 p : Pos} {ei ew : Expr} {i w : Int} (h4 : 0 ≤ i) (h5 : i ≤ 1000) (hq : ∀ p, EvT G 50 C σ (.Name "quota" p) q.vp) (hi : EvT G 50 C σ ei (vInt i)) (hw : EvT G 50 C σ ew (vInt w)) (hk : autoParam (C.env.kindOf "Fraction" = some .globalImplicit) tcR) (hmk : behindInMarks .LtE ew = false := by with_unfolding_all rfl) :
  TsT G 50 C σ (.Compare (.BinOp (.Call (.Name "Fraction" p1) [.Name "quota" p2] [] p3) .Mult ei p4) [.LtE] [ew] p) (leQ q i w) := by
 refine bY (eY (B := 1000) ok.d0 ok.n0 ok.n1 ok.d1) fun b1 b2 b3 b4 => ?_
 refine gu (red (u := rN q.n q.d * i) (l := rD q.n q.d) b3) fun g hg e1 e2 c1 c2 => ?_
 refine .as (.cmp (.bin (.fqE hG ok hq hk) hi (.qG hG b3 Z58 b2 b4 h4 h5)) hw (.fLe hG Z55 (by omega)) .bool hmk) ?_
 unfold leQ
 exact decide_eq_decide.mpr ((lg b3).trans (md ok.d0))
theorem EvT.twE (hG : G.Main) {n : Nat} {rs : List Row} {p1 p2 p3 : Pos} {pl : Sem Bool} (hp : ∀ p, EvT G 50 C σ (.Name "profile" p) (ah G n rs))
  (he : eval (.Call (.Attribute (.Name "profile" p1) "total_weight" p2) [] [] p3) C.env = (do
   let ov ← eval (.Name "profile" p1) C.env
   standAt p2.atName
   let (f, first) ← holding [ov] (getMethod ov "total_weight" pl)
   callWith p3 f first (backTo p3 (starEach [] C.env)) (backToKw p3 (keywordEach [] C.env))) := by rfl) : EvT G 50 C σ (.Call (.Attribute (.Name "profile" p1) "total_weight" p2) [] [] p3) (vInt (rs.map (·.2)).sum) :=
 .iZ (hp _) (.own hG) ((eo hG rfl).aq.le (by decide)) hG.kp .nil .nil he
theorem EvT.oD (hG : G.Main) {n : Nat} {rs : List Row} {q : Num} (ok : q.Ok) (t0 : 0 ≤ (rs.map (·.2)).sum) (t1 : (rs.map (·.2)).sum ≤ 1000) {p1 p2 p3 p4 p5 p6 p7 p : Pos} (hp : ∀ p, EvT G 50 C σ (.Name "profile" p) (ah G n rs)) (hq : ∀ p, EvT G 50 C σ (.Name "quota" p) q.vp) (hk : autoParam (C.env.kindOf "Fraction" = some .globalImplicit) tcR) {pl pl2 : Sem Bool}
  (he : eval (.Call (.Attribute (.Name "profile" p2) "total_weight" p3) [] [] p4) C.env = (do
   let ov ← eval (.Name "profile" p2) C.env
   standAt p3.atName
   let (f, first) ← holding [ov] (getMethod ov "total_weight" pl)
   callWith p4 f first (backTo p4 (starEach [] C.env)) (backToKw p4 (keywordEach [] C.env))) := by rfl)
  (he2 : eval (.Call (.Attribute (.Call (.Name "Fraction" p1) [.Call (.Attribute (.Name "profile" p2) "total_weight" p3) [] [] p4, .Name "quota" p5] [] p6) "floor" p7) [] [] p) C.env = (do
   let ov ← eval (.Call (.Name "Fraction" p1) [.Call (.Attribute (.Name "profile" p2) "total_weight" p3) [] [] p4, .Name "quota" p5] [] p6) C.env
   standAt p7.atName
   let (f, first) ← holding [ov] (getMethod ov "floor" pl2)
   callWith p f first (backTo p (starEach [] C.env)) (backToKw p (keywordEach [] C.env))) := by rfl) :
  EvT G 50 C σ (.Call (.Attribute (.Call (.Name "Fraction" p1) [.Call (.Attribute (.Name "profile" p2) "total_weight" p3) [] [] p4, .Name "quota" p5] [] p6) "floor" p7) [] [] p) (vInt (aH (rs.map (·.2)).sum q)) := by
 have b0 : 0 ≤ (rs.map (·.2)).sum * q.d := Int.mul_nonneg t0 (Int.le_of_lt ok.d0)
 have b1 : (rs.map (·.2)).sum * q.d ≤ 1000 * 1000 := Int.mul_le_mul t1 ok.d1 (Int.le_of_lt ok.d0) Z59
 have := ok.n0
 have := ok.n1
 have := ok.d0
 have := ok.d1
 have f1 := bT hG (.int (rs.map (·.2)).sum) q (u := (rs.map (·.2)).sum * q.d) (l := q.n) (by simp [Num.n]) (by simp [Num.d]) ok.n0 (cS Z55 Z50) (cS (by simp [Num.d]) (by simp [Num.d])) ⟨bz Z54 Z50, bz Z55 Z50⟩ (ps := [vInt (rs.map (·.2)).sum, q.vp]) (.inl rfl)
 refine gu (red (u := (rs.map (·.2)).sum * q.d) (l := q.n) ok.n0) fun g hg e1 e2 c1 c2 => ?_
 have f2 := j8 hG (n := rN ((rs.map (·.2)).sum * q.d) q.n) (d := rD ((rs.map (·.2)).sum * q.d) q.n) iT (by omega)
 rw [lZ ok.n0] at f2
 exact .iZ (.call (.g hG hk) (f1.aq.le (by decide)) hG.kp (af.cons (.twE hG hp he) (af.cons (hq _) .nil)) .nil) (.own hG) (f2.aq.le (by decide)) hG.kp .nil .nil he2
section
set_option maxHeartbeats 4000000
noncomputable def cC (rs : List Row) (M : Nat → Bool) (c u j : Nat) : Bool := bal rs j c && (ao (bal rs j) M == u)
noncomputable def cU (rs : List Row) (M : Nat → Bool) (c ell j : Nat) : Bool := bal rs j c && decide (ao (bal rs j) M < ell)
noncomputable def f3 (rs : List Row) (M : Nat → Bool) (q : Num) (c d : Nat) : Bool := leQ q ((d + 1 : Nat) : Int) (gw rs (cU rs M c (d + 1)) rs.length)
noncomputable def cL (rs : List Row) (M : Nat → Bool) (q : Num) (c : Nat) : Bool := !(M c) && (List.range (aH (tw rs) q).toNat).any (f3 rs M q c)
noncomputable def el (rs : List Row) (M : Nat → Bool) (q : Num) (n : Nat) : Bool := (List.range n).any (cL rs M q)
theorem fH {b : Nat → Bool} {N : Nat} (h : ∀ j, j < N → b j = false) : bo b N = fun _ => false := by
 funext j
 unfold bo
 by_cases q : j < N
 ·rw [h j q, Bool.and_false]
 ·rw [decide_eq_false q, Bool.false_and]
theorem mZ {rs : List Row} {M : Nat → Bool} {c d N : Nat} : unS (bo (cU rs M c d) N) (bo (cC rs M c d) N) = bo (cU rs M c (d + 1)) N := by
 funext j
 unfold unS bo cU cC
 have e : decide (ao (bal rs j) M < d + 1) = (decide (ao (bal rs j) M < d) || (ao (bal rs j) M == d)) := by
  rw [Bool.eq_iff_iff]
  simp
  omega
 rw [e]
 cases decide (j < N) <;> cases bal rs j c <;> simp
theorem qP {rs : List Row} {M : Nat → Bool} {c N : Nat} : bo (cU rs M c 0) N = fun _ => false := fH fun j _ => by unfold cU; simp
noncomputable abbrev Us := List (Nat × Addr)
noncomputable def usA (rs : List Row) (M : Nat → Bool) (c i : Nat) (us : Us) : List (Int × Addr × (Nat → Bool)) := us.map fun p => ((p.1 : Int), p.2, bo (cC rs M c p.1) i)
noncomputable def refs (us : Us) : List (Int × VP) := us.map fun p => ((p.1 : Int), vIs (.ref p.2))
noncomputable def sets (G : Gd) (rs : List Row) (M : Nat → Bool) (c i : Nat) (us : Us) : List (Addr × OP) := us.map fun p => (p.2, bt G (bo (cC rs M c p.1) i))
structure iL (rs : List Row) (M : Nat → Bool) (c i : Nat) (us : Us) : Prop where
 nd : (us.map (·.1)).Nodup
 len : us.length ≤ i
 mem : ∀ u, u ∈ us.map (·.1) ↔ ∃ j, j < i ∧ cC rs M c u j = true
theorem nK {rs : List Row} {M : Nat → Bool} {c i : Nat} {us : Us} : gi (usA rs M c i us) = refs us := by unfold gi usA refs; rw [List.map_map]; rfl
theorem nv {G : Gd} {rs : List Row} {M : Nat → Bool} {c i : Nat} {us : Us} : (usA rs M c i us).map (fun p => (p.2.1, bt G p.2.2)) = sets G rs M c i us := by unfold sets usA; rw [List.map_map]; rfl
theorem mV {us : Us} : (refs us).map Prod.fst = us.map fun p => (p.1 : Int) := by unfold refs; rw [List.map_map]; rfl
theorem jF {us : Us} {h : Nat} : ((h : Int) ∈ (refs us).map Prod.fst) ↔ h ∈ us.map (·.1) := by
 rw [mV]
 simp only [List.mem_map]
 constructor
 ·rintro ⟨p, hp, e⟩; exact ⟨p, hp, Z34⟩
 ·rintro ⟨p, hp, e⟩; exact ⟨p, hp, Z35⟩
theorem eX {G : Gd} {rs : List Row} {M : Nat → Bool} {c i : Nat} {us : Us} (h : ∀ p ∈ us, cC rs M c p.1 i = false) : sets G rs M c (i + 1) us = sets G rs M c i us := by
 unfold sets
 exact List.map_congr_left fun p hp => by rw [nR (h p hp)]
theorem g8 {rs : List Row} {M : Nat → Bool} {c i u : Nat} (h : u ≠ ao (bal rs i) M) : cC rs M c u i = false := by
 unfold cC
 rw [beq_eq_false_iff_ne.mpr (fun e => h e.symm), Bool.and_false]
theorem iL.skip {rs : List Row} {M : Nat → Bool} {c i : Nat} {us : Us} (k : iL rs M c i us) (h : bal rs i c = false) : iL rs M c (i + 1) us where
 nd := k.nd
 len := by have := k.len; exact Z21
 mem := fun u => by
  rw [k.mem u]
  refine ⟨fun ⟨j, h1, h2⟩ => ⟨j, Z25, h2⟩, fun ⟨j, h1, h2⟩ => ⟨j, ?_, h2⟩⟩
  rcases Nat.lt_or_ge j i with l | l
  ·exact l
  ·obtain rfl : j = i := Z93
   unfold cC at h2
   rw [h] at h2; cases h2
theorem iL.old {rs : List Row} {M : Nat → Bool} {c i : Nat} {us : Us} (k : iL rs M c i us) (h : ao (bal rs i) M ∈ us.map (·.1)) : iL rs M c (i + 1) us where
 nd := k.nd
 len := by have := k.len; exact Z21
 mem := fun u => by
  rw [k.mem u]
  refine ⟨fun ⟨j, h1, h2⟩ => ⟨j, Z25, h2⟩, fun ⟨j, h1, h2⟩ => ?_⟩
  rcases Nat.lt_or_ge j i with l | l
  ·exact ⟨j, l, h2⟩
  ·obtain rfl : j = i := Z93
   have : u = ao (bal rs j) M := by
    rcases Classical.em (u = ao (bal rs j) M) with q | q
    ·exact q
    ·rw [g8 q] at h2; cases h2
   rw [← this] at h
   exact (k.mem u).mp h
theorem iL.new {rs : List Row} {M : Nat → Bool} {c i : Nat} {us : Us} {b : Addr} (k : iL rs M c i us) (hc : bal rs i c = true) (h : ao (bal rs i) M ∉ us.map (·.1)) : iL rs M c (i + 1) (us ++ [(ao (bal rs i) M, b)]) where
 nd := by
  rw [List.map_append, List.nodup_append]
  refine ⟨k.nd, by simp, fun a ha b hb => ?_⟩
  rw [List.map_cons, List.map_nil, List.mem_singleton] at hb
  subst hb
  intro e
  have e : a = ao (bal rs i) M := e
  rw [e] at ha
  exact h ha
 len := by have := k.len; simp; assumption
 mem := fun u => by
  rw [List.map_append, List.mem_append, k.mem u]
  constructor
  ·rintro (⟨j, h1, h2⟩ | h3)
   ·exact ⟨j, Z25, h2⟩
   ·rw [List.map_cons, List.map_nil, List.mem_singleton] at h3
    have h3 : u = ao (bal rs i) M := h3
    subst h3
    exact ⟨i, Z24, by unfold cC; rw [hc]; simp⟩
  ·rintro ⟨j, h1, h2⟩
   rcases Nat.lt_or_ge j i with l | l
   ·exact .inl ⟨j, l, h2⟩
   ·obtain rfl : j = i := by exact Z93
    right
    rw [List.map_cons, List.map_nil, List.mem_singleton]
    rcases Classical.em (u = ao (bal rs j) M) with q | q
    ·exact q
    ·rw [g8 q] at h2; cases h2
theorem nJ (hG : G.Main) {n : Nat} {rs : List Row} {M : Nat → Bool} {q : Num} (pa : Par rs q) (hn : n ≤ 4) : FnT G 60 (.ref 297) [ah G n rs, ar G M, q.vp] [] [] (aQ [vBool (!el rs M q n), e9]) := by
 refine FnT.fn hG (pn := ["profile", "committee", "quota"]) (bv := [ah G n rs, ar G M, q.vp]) (σ0 := [("profile", some (ah G n rs)), ("committee", some (ar G M)), ("quota", some (q.vp)), ("cand", none), ("supporters_by_utility", none), ("vi", none), ("voter", none), ("utility", none), ("ell_upper_bound", none), ("group", none), ("ell", none), ("detailed_information", none)]) rfl (by kernel_rfl) rfl rfl ⟨rfl, rfl, rfl, rfl, rfl, rfl⟩ (ig fun y z u s w => BindsTo.of_eq rfl) (by decide) ?_
 intro s₀ F₀ st
 have ok := pa.ok
 have hz := pa.hz
 have s0 := pa.s0
 have s1 := pa.s1
 refine .pin (.head _) (fun y => .here) fun yp => ?_
 refine .pin M1 (fun y => U1) fun yc => ?_
 refine .pin M2 (fun y => U2) fun yq => ?_
 refine .cH (Sp := (· = aG 0 n)) (.of (.fld hG (D := 445) (fs := bg n (ae (az G rs))) (.fj (.var (.head _))) rfl) .list (Nat.le_refl _)) ?_
 rintro _ rfl
 refine ⟨fun i => (List.range i).any (cL rs M q) = false, fun _ => [("profile", some (e8 yp (ah G n rs))), ("committee", some (e8 yc (ar G M))), ("quota", some (e8 yq q.vp)), ("cand", none), ("supporters_by_utility", none), ("vi", none), ("voter", none), ("utility", none), ("ell_upper_bound", none), ("group", none), ("ell", none), ("detailed_information", none)], fun _ => [], rfl, .refl _, rfl, ?_, ?_⟩
 ·intro c v hv hp
  obtain ⟨hc, rfl⟩ := bh hv
  rw [show (0 : Int) + c = c from Z31]
  refine ⟨_, .name (.inl rfl) U3, fun Xf Yf => ?_⟩
  refine .if_ (b := M c) (.cmp (.var M3) (.fj (.var M1)) (.inS Z12) .bool) (fun hb => ?_) (fun hb => .th ?_)
  ·have hh : cL rs M q c = false := by unfold cL; rw [hb]; rfl
   exact .js (aA hp hh) (K3 (.drop (.refl _))) rfl (List.Sublist.refl _) rfl
  refine .tJ (.inl rfl) (fun a => U4) fun d => ?_
  refine .ur (α := Us) (l := (List.range rs.length).map (lE G rs)) (fS hG (by decide) (.fj (.var (.head _)))) (iL rs M c) (fun i us => [("profile", some (e8 yp (ah G n rs))), ("committee", some (e8 yc (ar G M))), ("quota", some (e8 yq q.vp)), ("cand", some (vInt c)), ("supporters_by_utility", some (vIs (.ref d))), ("vi", none), ("voter", none), ("utility", none), ("ell_upper_bound", none), ("group", none), ("ell", none), ("detailed_information", none)]) (fun i us => (d, ba G (refs us)) :: (sets G rs M c i us ++ (Xf ++ []))) []
   ⟨List.nodup_nil, Nat.le_refl _, fun u => ⟨(fun h => nomatch h), fun ⟨j, h, _⟩ => absurd h (Nat.not_lt_zero _)⟩⟩ (.refl _) rfl ?_ ?_
  ·intro i v us hv ku
   obtain ⟨hi, rfl⟩ := eV hv
   refine ⟨_, .pair (.name (.inl rfl) U5) (.name (.inl rfl) U6), fun Xg Yg => ?_⟩
   refine .if_ (b := bal rs i c) (.cmp (.var M3) (.iH hG (.var M6)) (.inS Z12) .bool) (fun hb => ?_) (fun hb => ?_)
   ·refine .assign (.hits hG rfl (.var M6) (.fj (.var M1))) (.inl rfl) U7 ?_
    by_cases hm : ao (bal rs i) M ∈ us.map (·.1)
    ·refine .sU (.as (.nG (d := d) (kvs := refs us) (i := (ao (bal rs i) M : Int)) (.var M7) M4 (List.mem_append_right _ (.head _))) (by rw [List.contains_iff_mem.mpr (jF.mpr hm)]; rfl)) (.th ?_)
     refine ag (List.mem_map.mp hm) fun nn0 hp' e => ?_; obtain ⟨h', a⟩ := nn0
     have e : h' = ao (bal rs i) M := e
     subst e
     have hX : Xg ++ ((d, ba G (refs us)) :: (sets G rs M c i us ++ (Xf ++ []))) = Xg ++ ((d, ba G (refs us)) :: (sets G rs M c i us ++ (Xf ++ []))) := rfl
     refine kT (List.append_of_mem hp') fun us₁ us₂ eu => ?_
     have k1 : ∀ p ∈ us₁, cC rs M c p.1 i = false := fun p hp1 => g8 fun e => by
      have := ku.nd
      rw [eu, List.map_append, List.nodup_append] at this
      exact this.2.2 p.1 (List.mem_map_of_mem hp1) _ (by simp) e
     have k2 : ∀ p ∈ us₂, cC rs M c p.1 i = false := fun p hp1 => g8 fun e => by
      have := ku.nd
      rw [eu, List.map_append, List.nodup_append, List.map_cons, List.nodup_cons] at this
      exact this.2.1.1 (by show ao (bal rs i) M ∈ _; rw [← e]; exact List.mem_map_of_mem (f := fun p : Nat × Addr => p.1) hp1)
     have k3 : cC rs M c (ao (bal rs i) M) i = true := by unfold cC; rw [hb]; simp
     refine .pU (X₁ := Xg ++ (d, ba G (refs us)) :: sets G rs M c i us₁) (X₂ := sets G rs M c i us₂ ++ (Xf ++ [])) (a := a) (P := bt G (bo (cC rs M c (ao (bal rs i) M)) i)) ?_ (dt.add (n := i) Z12) (.pR (kvs := refs us) (i := (ao (bal rs i) M : Int)) M4 (List.mem_append_right _ (.head _)) (.var M7) ?_) (.var M5) ?_
     ·show Xg ++ ((d, ba G (refs us)) :: (sets G rs M c i us ++ (Xf ++ []))) = _
      have : sets G rs M c i us = sets G rs M c i us₁ ++ (a, bt G (bo (cC rs M c (ao (bal rs i) M)) i)) :: sets G rs M c i us₂ := by
       rw [eu]; unfold sets; rw [List.map_append, List.map_cons]
      rw [this]; simp
     ·unfold refs
      exact List.mem_map.mpr ⟨_, hp', rfl⟩
     refine .th (.oz us (ku.old hm) (K5 (D3 (.refl _))) rfl (List.Perm.of_eq ?_))
     show _ = Xg ++ ((d, ba G (refs us)) :: (sets G rs M c (i + 1) us ++ (Xf ++ [])))
     have : sets G rs M c (i + 1) us = sets G rs M c i us₁ ++ (a, bt G (cw (bo (cC rs M c (ao (bal rs i) M)) i) i)) :: sets G rs M c i us₂ := by
      rw [eu, ← eX k1, ← eX k2, lX k3]; unfold sets; rw [List.map_append, List.map_cons]
     rw [this]; simp
    ·refine .uS (.as (.nG (d := d) (kvs := refs us) (i := (ao (bal rs i) M : Int)) (.var M7) M4 (List.mem_append_right _ (.head _))) ?_) ?_
     ·cases hcc : ((refs us).map Prod.fst).contains (ao (bal rs i) M : Int) with
      | false => rfl
      | true => exact absurd (jF.mp (List.contains_iff_mem.mp hcc)) hm
     have k0 : ∀ j, j < i → cC rs M c (ao (bal rs i) M) j = false := fun j hj => by
      cases q : cC rs M c (ao (bal rs i) M) j with
      | false => rfl
      | true => exact absurd ((ku.mem _).mpr ⟨j, hj, q⟩) hm
     have k1 : ∀ p ∈ us, cC rs M c p.1 i = false := fun p hp1 => g8 fun e => hm (by rw [← e]; exact List.mem_map_of_mem hp1)
     have k3 : cC rs M c (ao (bal rs i) M) i = true := by unfold cC; rw [hb]; simp
     refine .qO (kvs := refs us) (i := (ao (bal rs i) M : Int)) (X₁ := Xg) (X₂ := sets G rs M c i us ++ (Xf ++ [])) rfl (.b hG) M4 (.var M7) (fun h => hm (jF.mp h)) (by have := ku.len; unfold refs; rw [List.length_map]; omega) fun b => .th ?_
     refine .pU (X₁ := []) (a := b) (P := bt G fun _ => false) rfl (dt.add (n := i) (by exact Z12)) (.pR (kvs := refs us ++ [((ao (bal rs i) M : Int), vIs (.ref b))]) (i := (ao (bal rs i) M : Int)) M4 (.tail _ (List.mem_append_right _ (.head _))) (.var M7) (List.mem_append_right _ (.head _))) (.var M5) ?_
     refine .th (.oz (us ++ [(ao (bal rs i) M, b)]) (ku.new hb hm) (K5 (D3 (.refl _))) rfl ?_)
     show List.Perm _ (Xg ++ ((d, ba G (refs (us ++ [(ao (bal rs i) M, b)]))) :: (sets G rs M c (i + 1) (us ++ [(ao (bal rs i) M, b)]) ++ (Xf ++ []))))
     have e1 : refs (us ++ [(ao (bal rs i) M, b)]) = refs us ++ [((ao (bal rs i) M : Int), vIs (.ref b))] := by unfold refs; rw [List.map_append]; rfl
     have e2 : sets G rs M c (i + 1) (us ++ [(ao (bal rs i) M, b)]) = sets G rs M c i us ++ [(b, bt G (cw (fun _ => false) i))] := by
      rw [← eX k1, show (fun _ : Nat => false) = bo (cC rs M c (ao (bal rs i) M)) i from (fH k0).symm, lX k3]; unfold sets; rw [List.map_append]; rfl
     rw [e1, e2]
     have e3 : Xg ++ ((d, ba G (refs us ++ [((ao (bal rs i) M : Int), vIs (.ref b))])) :: (sets G rs M c i us ++ [(b, bt G (cw (fun _ => false) i))] ++ (Xf ++ []))) = (Xg ++ (d, ba G (refs us ++ [((ao (bal rs i) M : Int), vIs (.ref b))])) :: sets G rs M c i us) ++ (b, bt G (cw (fun _ => false) i)) :: (Xf ++ []) := by simp
     rw [e3]
     refine List.Perm.trans (List.Perm.of_eq ?_) List.perm_middle.symm
     simp
   ·refine .th (.oz us (ku.skip hb) (K5 (D2 (.refl _))) rfl (List.Perm.of_eq ?_))
    show Xg ++ ((d, ba G (refs us)) :: (sets G rs M c i us ++ (Xf ++ []))) = Xg ++ ((d, ba G (refs us)) :: (sets G rs M c (i + 1) us ++ (Xf ++ [])))
    rw [eX fun p hp => by unfold cC; rw [hb]; rfl]
  ·intro us ku
   rw [List.length_map, List.length_range] at ku ⊢
   refine .qB (us := usA rs M c rs.length us) (X' := Xf ++ []) (d := d) ?_ rfl M4 U4 ?_
   ·rw [nK, nv]
   refine .pin M4 (fun y => U4) fun ys => ?_
   refine .assign ((EvT.oD hG ok pa.t0 pa.t1 (fun p => .fj (.var (.head _))) (fun p => .fj (.var M2))).le (by decide)) (.inl rfl) U8 ?_
   refine .qv (.inl rfl) (.b hG) (fun a => U9) fun g => ?_
   refine .cH (Sp := (· = aG 1 (aH (tw rs) q).toNat)) (.of (.call (.b hG) .eC .ty (af.cons .int (af.cons (.bin (.var M8) .int .add) .nil)) .nil) (cm (by unfold tw at *; omega) (by exact Z60) (by unfold tw at *; omega)) (Nat.le_refl _)) ?_
   rintro _ rfl
   refine ⟨fun i => (List.range i).any (f3 rs M q c) = false, fun _ => [("profile", some (e8 yp (ah G n rs))), ("committee", some (e8 yc (ar G M))), ("quota", some (e8 yq q.vp)), ("cand", some (vInt c)), ("supporters_by_utility", some (e8 ys (eB G (fF G (usA rs M c rs.length us))))), ("vi", none), ("voter", none), ("utility", none), ("ell_upper_bound", some (vInt (aH (tw rs) q))), ("group", some (vIs (.ref g))), ("ell", none), ("detailed_information", none)], fun i => (g, bt G (bo (cU rs M c i) rs.length)) :: (Xf ++ []), rfl, .refl _, by rw [qP], ?_, ?_⟩
   ·intro e v hv hq
    obtain ⟨he, rfl⟩ := bh hv
    rw [show (1 : Int) + e = ((e + 1 : Nat) : Int) from Z30]
    refine ⟨_, .name (.inl rfl) U10, fun Xg Yg => ?_⟩
    refine .ior (a := g) (X₁ := Xg) (X₂ := Xf ++ []) (S := bo (cU rs M c e) rs.length) (T := bo (cC rs M c e) rs.length) rfl M9 (.iZ (.fj (.var M4)) .qI (.oV (i := (e : Int)) (v0 := ar G fun _ => false) ?_ ?_) .bi (af.cons (.as (.bin (.var M10) .int .sub) (congrArg vInt Z32)) (af.cons (.call (.b hG) .rn .ty .nil .nil) .nil)) .nil) (.inl rfl) U9 ?_
    ·intro w hw
     unfold fF usA at hw
     rw [List.map_map] at hw
     refine ag (List.mem_map.mp hw) fun p hp' e' => ?_
     have e1 : (p.1 : Int) = e := congrArg Prod.fst e'
     have e2 : ar G (bo (cC rs M c p.1) rs.length) = w := congrArg Prod.snd e'
     rw [← e2, show p.1 = e by exact Z34]
    ·intro hne
     have : ∀ j, j < rs.length → cC rs M c e j = false := fun j hj => by
      cases q : cC rs M c e j with
      | false => rfl
      | true =>
       refine ag (List.mem_map.mp ((ku.mem e).mpr ⟨j, hj, q⟩)) fun p hp' e' => ?_
       refine absurd ?_ hne
       unfold fF usA
       rw [List.map_map, List.map_map]
       have e' : p.1 = e := e'
       exact List.mem_map.mpr ⟨p, hp', show (p.1 : Int) = e by omega⟩
     rw [fH this]
    rw [mZ]
    refine .qk (a := g) (X₁ := Xg) (X₂ := Xf ++ []) (P := bt G (bo (cU rs M c (e + 1)) rs.length)) (vS := ar G (bo (cU rs M c (e + 1)) rs.length)) (b := f3 rs M q c e) rfl rfl M9 U9 mr ?_ (fun s₁ F₁ xa xg => (TsT.oA hG ok Z33 (by omega) (fun p => .fj (.var M2)) (.var M10) (.du (f := .ref 213) (v := vInt (gw rs (cU rs M c (e + 1)) rs.length)) (j := 31) (Sp := fun l => ∃ p : List Nat, p.Perm (elems (bo (cU rs M c (e + 1)) rs.length)) ∧ l = p.map fun (n : Nat) => vInt n) (lo := fun l => l.map (kB rs)) (endr := .ok .next) (.g hG) hG.kp ?_ ?_)).le (by decide)) (fun hb2 => ?_) (fun hb2 => ?_)
    ·exact dg gT (dg gT (dg gT (fx jQ (dg gT (dF (dF (dF (fx jQ (dg qi (fx jQ (dF lI)))))))))))
    ·intro A X Y τ s hA h
     refine dB (k := 30) (σg := [("vi", none), ("profile", some (e8 yp (ah G n rs)))]) (cl := [("profile", s₀.heap.objs.size + 1)]) (.of (.fj (.var M9)) .set (by decide)) (.of ["vi"] ["profile"] [e8 yp (ah G n rs)] rfl ⟨296, 292, rfl, hG.tabs _ (by simp)⟩) ?_ (fun _ => rfl) (hA.le (by decide)) h
     rintro l ⟨p, hpe, rfl⟩
     refine ⟨fun _ => true, fun i => ((p[i]?.map fun (n : Nat) => kB rs (vInt n))).getD e9, ?_, fun L code => ?_⟩
     ·rw [dS]
      apply List.ext_getElem
      ·simp
      ·intro i h1 h2
       have h3 : i < p.length := by simpa using h1
       simp [List.getElem?_eq_getElem h3]
     intro C hC hst i u hu
     obtain ⟨env, s1, F1, xa1, xg1⟩ := C
     dsimp only at hC
     subst hC
     refine ag (cZ hu) fun m hm re0 => ?_; subst re0
     have hm2 := hpe.mem_iff.mp (List.mem_of_getElem? hm)
     rw [ed hz] at hm2
     obtain ⟨r, hr⟩ := dc (dY m hm2)
     refine ⟨_, .name (.inl rfl) .here, .nil, .drop (.refl _), fun _ => ?_⟩
     dsimp only
     rw [hm]
     refine .as (.wt hG ((EvT.at_ hG (.fj (.var M1)) (.var (.head _)) hr Z1).le (by decide))) ?_
     rw [← dK hr]
     exact f5.symm
    ·rintro A X Y τ s l y hA ⟨p, hpe, rfl⟩ hr
     have e : (p.map fun (n : Nat) => vInt n).map (kB rs) = (p.map (wt rs)).map vInt := by
      rw [List.map_map, List.map_map]
      exact List.map_congr_left fun m _ => f5
     rw [e] at hr
     have := dE (jj := 32) hG (by decide) (hA.le (by decide)) hr
     rw [j6 (hpe.map (wt rs)), ed hz] at this
     exact this
    ·refine .assign (.dict (.cons (.var M9) (.cons (.var M3) (.cons (.var M10) .nil)))) (.inl rfl) U11 ?_
     refine .ret (.as (.d7 (.cons .bool (.cons (.var M11) .nil))) ?_) fun y s h => .of h
     have hh : cL rs M q c = true := by unfold cL; rw [hb, aF he hb2]; rfl
     unfold el
     rw [aF hc hh]; rfl
    ·exact .th (.aW (aA hq hb2) (K10 (.drop (.refl _))) rfl rfl)
   ·intro hq
    rw [bk] at hq
    have hh : cL rs M q c = false := by unfold cL; rw [hq, Bool.and_false]
    exact .pO (aA hp hh) (K3 (D2 (K3 (D2 (.refl _))))) rfl (List.sublist_cons_self _ _) rfl
 ·intro hp
  rw [bk] at hp
  refine .assign .ir (.inl rfl) U11 ?_
  refine .ret (.as (.d7 (.cons .bool (.cons (.var M11) .nil))) ?_) fun y s h => .of h
  unfold el
  rw [hp]; rfl
end
section
set_option maxHeartbeats 4000000
noncomputable def cq (rs : List Row) (M : Nat → Bool) : Option Num → Num
 | none => .frac (rN (tw rs) (elems M).length) (rD (tw rs) (elems M).length)
 | some q => q
noncomputable def bI : Option Num → VP
 | none => cT
 | some q => q.vp
theorem dQ {q : Num} : (q.vp).kS := by
 cases q with
 | int i => exact hW
 | frac n d => exact ng
structure Giv (rs : List Row) (M : Nat → Bool) (oq : Option Num) (n : Nat) : Prop where
 pa : Par rs (cq rs M oq)
 hn : n ≤ 4
 hM : ∀ c ∈ elems M, c < n
 m0 : 0 < (elems M).length
theorem bE {G : Gd} {M : Nat → Bool} {n : Nat} (hn : n ≤ 4) (hM : ∀ c ∈ elems M, c < n) : cO G (ae (aa (elems M))) M n (· = aa (elems M)) :=
 cO.list hn hM (fun j hj => by rw [Bool.eq_iff_iff, List.contains_iff_mem, ay]; simp [hj]) rfl
theorem eO (hG : G.Main) {rs : List Row} {M : Nat → Bool} (t0 : 0 ≤ tw rs) (t1 : tw rs ≤ 1000) (m0 : 0 < (elems M).length) : FnT G 30 (.ref 202) [vInt (tw rs), vInt (elems M).length] [] [] (cq rs M none).vp := by
 have := ax M
 exact bT hG (.int (tw rs)) (.int (elems M).length) (by simp [Num.n, Num.d]) (by simp [Num.n, Num.d]) Z36 (cS (by simp [Num.d]) (by simp [Num.d])) (cS (by simp [Num.d]) (by simp [Num.d])) ⟨bz Z54 Z50, bz Z33 Z40⟩ (.inl rfl)
theorem ky (hG : G.Main) {n : Nat} {rs : List Row} {M : Nat → Bool} {oq : Option Num} (gv : Giv rs M oq n) : FnT G 70 (.ref 254) [ah G n rs, ae (aa (elems M))] ["quota"] [bI oq] (vBool (!g5 rs M (cq rs M oq) n)) := by
 refine FnT.fn hG (pn := ["profile", "committee", "quota"]) (bv := [ah G n rs, ae (aa (elems M)), bI oq]) (σ0 := [("profile", some (ah G n rs)), ("committee", some (ae (aa (elems M)))), ("quota", some (bI oq)), ("standard_quota", none), ("result", none), ("detailed_information", none)]) rfl (by kernel_rfl) rfl rfl ⟨rfl, rfl, rfl, rfl, rfl, rfl⟩ (bindG r0 r0 (mD fun _ _ _ s w => binds_K (hG.K ▸ w.K) rfl rfl rfl rfl rfl) rfl) (by decide) ?_
 intro s₀ F₀ st
 have pa := gv.pa
 have hn := gv.hn
 have he := ax M
 refine .ifJ [("profile", some (ah G n rs)), ("committee", some (ae (aa (elems M)))), ("quota", some ((cq rs M oq).vp)), ("standard_quota", some (vBool oq.isNone)), ("result", none), ("detailed_information", none)] (b := oq.isNone) ?_ (fun e => ?_) (fun e => ?_) ?_
 ·cases oq with
  | none => exact .cmp (.var M2) .none_ .isN .bool
  | some q => exact .cmp (.var M2) .none_ (.lH dQ) .bool
 ·cases oq with
  | none =>
   refine .assign .bool (.inl rfl) U3 ?_
   refine .assign (.call (.g hG) ((eO hG pa.t0 pa.t1 gv.m0).aq.le (by decide)) hG.kp (af.cons ((EvT.tw hG (.head _)).le (by decide)) (af.cons (.as (.call (.b hG) (.aN (by unfold aa; rw [List.length_map]; exact Z2)) .bi (af.cons (.var M1) .nil) .nil) (by unfold aa; rw [List.length_map])) .nil)) .nil) (.inl rfl) U2 ?_
   exact .jn (.refl _)
  | some q => cases e
 ·cases oq with
  | none => cases e
  | some q =>
   refine .assign .bool (.inl rfl) U3 ?_
   exact .jn (.refl _)
 refine .assign (.call (.g hG) ((aU hG (bE hn gv.hM) (o := some n) (.inr rfl)).aq.le (by decide)) hG.kp (af.cons (.var M1) .nil) (.cons (.dC hG hn (.var (.head _))) .nil)) (.inl rfl) U1 ?_
 refine .cF (.call (.g hG) ((qw hG pa.ok hn pa.hz).aq.le (by decide)) hG.kp (af.cons (.var (.head _)) (af.cons (.var M1) .nil)) (.cons (.var M2) .nil)) (.pair (.name (.inl rfl) U4) (.name (.inl rfl) U5)) ?_
 exact .ret (.var M4) fun y s h => .of h
theorem jE (hG : G.Main) {n : Nat} {rs : List Row} {M : Nat → Bool} {oq : Option Num} (gv : Giv rs M oq n) : FnT G 70 (.ref 246) [ah G n rs, ae (aa (elems M))] ["quota", "algorithm"] [bI oq, vStr "brute-force"] (vBool (!fL rs M (cq rs M oq) n)) := by
 refine FnT.fn hG (pn := ["profile", "committee", "quota", "algorithm"]) (bv := [ah G n rs, ae (aa (elems M)), bI oq, vStr "brute-force"]) (σ0 := [("profile", some (ah G n rs)), ("committee", some (ae (aa (elems M)))), ("quota", some (bI oq)), ("algorithm", some (vStr "brute-force")), ("standard_quota", none), ("result", none), ("detailed_information", none)]) rfl (by kernel_rfl) rfl rfl ⟨rfl, rfl, rfl, rfl, rfl, rfl⟩ (bindG r0 r0 (mB fun _ _ _ _ s w => binds_K (hG.K ▸ w.K) rfl rfl rfl rfl rfl) rfl) (by decide) ?_
 intro s₀ F₀ st
 have pa := gv.pa
 have hn := gv.hn
 have he := ax M
 refine .ifJ [("profile", some (ah G n rs)), ("committee", some (ae (aa (elems M)))), ("quota", some ((cq rs M oq).vp)), ("algorithm", some (vStr "brute-force")), ("standard_quota", some (vBool oq.isNone)), ("result", none), ("detailed_information", none)] (b := oq.isNone) ?_ (fun e => ?_) (fun e => ?_) ?_
 ·cases oq with
  | none => exact .cmp (.var M2) .none_ .isN .bool
  | some q => exact .cmp (.var M2) .none_ (.lH dQ) .bool
 ·cases oq with
  | none =>
   refine .assign .bool (.inl rfl) U4 ?_
   refine .assign (.call (.g hG) ((eO hG pa.t0 pa.t1 gv.m0).aq.le (by decide)) hG.kp (af.cons ((EvT.tw hG (.head _)).le (by decide)) (af.cons (.as (.call (.b hG) (.aN (by unfold aa; rw [List.length_map]; exact Z2)) .bi (af.cons (.var M1) .nil) .nil) (by unfold aa; rw [List.length_map])) .nil)) .nil) (.inl rfl) U2 ?_
   exact .jn (.refl _)
  | some q => cases e
 ·cases oq with
  | none => cases e
  | some q =>
   refine .assign .bool (.inl rfl) U4 ?_
   exact .jn (.refl _)
 refine .assign (.call (.g hG) ((aU hG (bE hn gv.hM) (o := some n) (.inr rfl)).aq.le (by decide)) hG.kp (af.cons (.var M1) .nil) (.cons (.dC hG hn (.var (.head _))) .nil)) (.inl rfl) U1 ?_
 refine .ifF (.as (.cmp (.var M3) .str .eqS .bool) (by decide)) (.th ?_)
 refine .ifT (.as (.cmp (.var M3) .str .eqS .bool) (by decide)) ?_
 refine .cF (.call (.g hG) ((pG hG pa hn).aq.le (by decide)) hG.kp (af.cons (.var (.head _)) (af.cons (.var M1) (af.cons (.var M2) .nil))) .nil) (.pair (.name (.inl rfl) U5) (.name (.inl rfl) U6)) ?_
 refine .th ?_
 exact .ret (.var M5) fun y s h => .of h
theorem jL (hG : G.Main) {n : Nat} {rs : List Row} {M : Nat → Bool} {oq : Option Num} (gv : Giv rs M oq n) : FnT G 70 (.ref 238) [ah G n rs, ae (aa (elems M))] ["quota", "algorithm"] [bI oq, vStr "brute-force"] (vBool (!fC rs M (cq rs M oq) n)) := by
 refine FnT.fn hG (pn := ["profile", "committee", "quota", "algorithm"]) (bv := [ah G n rs, ae (aa (elems M)), bI oq, vStr "brute-force"]) (σ0 := [("profile", some (ah G n rs)), ("committee", some (ae (aa (elems M)))), ("quota", some (bI oq)), ("algorithm", some (vStr "brute-force")), ("standard_quota", none), ("result", none), ("detailed_information", none)]) rfl (by kernel_rfl) rfl rfl ⟨rfl, rfl, rfl, rfl, rfl, rfl⟩ (bindG r0 r0 (mB fun _ _ _ _ s w => binds_K (hG.K ▸ w.K) rfl rfl rfl rfl rfl) rfl) (by decide) ?_
 intro s₀ F₀ st
 have pa := gv.pa
 have hn := gv.hn
 have he := ax M
 refine .ifJ [("profile", some (ah G n rs)), ("committee", some (ae (aa (elems M)))), ("quota", some ((cq rs M oq).vp)), ("algorithm", some (vStr "brute-force")), ("standard_quota", some (vBool oq.isNone)), ("result", none), ("detailed_information", none)] (b := oq.isNone) ?_ (fun e => ?_) (fun e => ?_) ?_
 ·cases oq with
  | none => exact .cmp (.var M2) .none_ .isN .bool
  | some q => exact .cmp (.var M2) .none_ (.lH dQ) .bool
 ·cases oq with
  | none =>
   refine .assign .bool (.inl rfl) U4 ?_
   refine .assign (.call (.g hG) ((eO hG pa.t0 pa.t1 gv.m0).aq.le (by decide)) hG.kp (af.cons ((EvT.tw hG (.head _)).le (by decide)) (af.cons (.as (.call (.b hG) (.aN (by unfold aa; rw [List.length_map]; exact Z2)) .bi (af.cons (.var M1) .nil) .nil) (by unfold aa; rw [List.length_map])) .nil)) .nil) (.inl rfl) U2 ?_
   exact .jn (.refl _)
  | some q => cases e
 ·cases oq with
  | none => cases e
  | some q =>
   refine .assign .bool (.inl rfl) U4 ?_
   exact .jn (.refl _)
 refine .assign (.call (.g hG) ((aU hG (bE hn gv.hM) (o := some n) (.inr rfl)).aq.le (by decide)) hG.kp (af.cons (.var M1) .nil) (.cons (.dC hG hn (.var (.head _))) .nil)) (.inl rfl) U1 ?_
 refine .ifF (.as (.cmp (.var M3) .str .eqS .bool) (by decide)) (.th ?_)
 refine .ifT (.as (.cmp (.var M3) .str .eqS .bool) (by decide)) ?_
 refine .cF (.call (.g hG) ((ph hG pa hn).aq.le (by decide)) hG.kp (af.cons (.var (.head _)) (af.cons (.var M1) (af.cons (.var M2) .nil))) .nil) (.pair (.name (.inl rfl) U5) (.name (.inl rfl) U6)) ?_
 refine .th ?_
 exact .ret (.var M5) fun y s h => .of h
theorem iX (hG : G.Main) {n : Nat} {rs : List Row} {M : Nat → Bool} {oq : Option Num} (gv : Giv rs M oq n) : FnT G 70 (.ref 290) [ah G n rs, ae (aa (elems M))] ["quota"] [bI oq] (vBool (!el rs M (cq rs M oq) n)) := by
 refine FnT.fn hG (pn := ["profile", "committee", "quota"]) (bv := [ah G n rs, ae (aa (elems M)), bI oq]) (σ0 := [("profile", some (ah G n rs)), ("committee", some (ae (aa (elems M)))), ("quota", some (bI oq)), ("standard_quota", none), ("result", none), ("detailed_information", none)]) rfl (by kernel_rfl) rfl rfl ⟨rfl, rfl, rfl, rfl, rfl, rfl⟩ (bindG r0 r0 (mD fun _ _ _ s w => binds_K (hG.K ▸ w.K) rfl rfl rfl rfl rfl) rfl) (by decide) ?_
 intro s₀ F₀ st
 have pa := gv.pa
 have hn := gv.hn
 have he := ax M
 refine .ifJ [("profile", some (ah G n rs)), ("committee", some (ae (aa (elems M)))), ("quota", some ((cq rs M oq).vp)), ("standard_quota", some (vBool oq.isNone)), ("result", none), ("detailed_information", none)] (b := oq.isNone) ?_ (fun e => ?_) (fun e => ?_) ?_
 ·cases oq with
  | none => exact .cmp (.var M2) .none_ .isN .bool
  | some q => exact .cmp (.var M2) .none_ (.lH dQ) .bool
 ·cases oq with
  | none =>
   refine .assign .bool (.inl rfl) U3 ?_
   refine .assign (.call (.g hG) ((eO hG pa.t0 pa.t1 gv.m0).aq.le (by decide)) hG.kp (af.cons ((EvT.tw hG (.head _)).le (by decide)) (af.cons (.as (.call (.b hG) (.aN (by unfold aa; rw [List.length_map]; exact Z2)) .bi (af.cons (.var M1) .nil) .nil) (by unfold aa; rw [List.length_map])) .nil)) .nil) (.inl rfl) U2 ?_
   exact .jn (.refl _)
  | some q => cases e
 ·cases oq with
  | none => cases e
  | some q =>
   refine .assign .bool (.inl rfl) U3 ?_
   exact .jn (.refl _)
 refine .assign (.call (.g hG) ((aU hG (bE hn gv.hM) (o := some n) (.inr rfl)).aq.le (by decide)) hG.kp (af.cons (.var M1) .nil) (.cons (.dC hG hn (.var (.head _))) .nil)) (.inl rfl) U1 ?_
 refine .cF (.call (.g hG) ((nJ hG pa hn).aq.le (by decide)) hG.kp (af.cons (.var (.head _)) (af.cons (.var M1) (af.cons (.var M2) .nil))) .nil) (.pair (.name (.inl rfl) U4) (.name (.inl rfl) U5)) ?_
 exact .ret (.var M4) fun y s h => .of h
theorem jN (hG : G.Main) {n : Nat} {rs : List Row} {M : Nat → Bool} {oq : Option Num} (gv : Giv rs M oq n) : FnT G 70 (.ref 305) [ah G n rs, ae (aa (elems M))] ["quota", "algorithm"] [bI oq, vStr "brute-force"] (vBool (!fO rs M (cq rs M oq))) := by
 refine FnT.fn hG (pn := ["profile", "committee", "quota", "algorithm"]) (bv := [ah G n rs, ae (aa (elems M)), bI oq, vStr "brute-force"]) (σ0 := [("profile", some (ah G n rs)), ("committee", some (ae (aa (elems M)))), ("quota", some (bI oq)), ("algorithm", some (vStr "brute-force")), ("standard_quota", none), ("result", none), ("detailed_information", none)]) rfl (by kernel_rfl) rfl rfl ⟨rfl, rfl, rfl, rfl, rfl, rfl⟩ (bindG r0 r0 (mB fun _ _ _ _ s w => binds_K (hG.K ▸ w.K) rfl rfl rfl rfl rfl) rfl) (by decide) ?_
 intro s₀ F₀ st
 have pa := gv.pa
 have hn := gv.hn
 have he := ax M
 refine .ifJ [("profile", some (ah G n rs)), ("committee", some (ae (aa (elems M)))), ("quota", some ((cq rs M oq).vp)), ("algorithm", some (vStr "brute-force")), ("standard_quota", some (vBool oq.isNone)), ("result", none), ("detailed_information", none)] (b := oq.isNone) ?_ (fun e => ?_) (fun e => ?_) ?_
 ·cases oq with
  | none => exact .cmp (.var M2) .none_ .isN .bool
  | some q => exact .cmp (.var M2) .none_ (.lH dQ) .bool
 ·cases oq with
  | none =>
   refine .assign .bool (.inl rfl) U4 ?_
   refine .assign (.call (.g hG) ((eO hG pa.t0 pa.t1 gv.m0).aq.le (by decide)) hG.kp (af.cons ((EvT.tw hG (.head _)).le (by decide)) (af.cons (.as (.call (.b hG) (.aN (by unfold aa; rw [List.length_map]; exact Z2)) .bi (af.cons (.var M1) .nil) .nil) (by unfold aa; rw [List.length_map])) .nil)) .nil) (.inl rfl) U2 ?_
   exact .jn (.refl _)
  | some q => cases e
 ·cases oq with
  | none => cases e
  | some q =>
   refine .assign .bool (.inl rfl) U4 ?_
   exact .jn (.refl _)
 refine .assign (.call (.g hG) ((aU hG (bE hn gv.hM) (o := some n) (.inr rfl)).aq.le (by decide)) hG.kp (af.cons (.var M1) .nil) (.cons (.dC hG hn (.var (.head _))) .nil)) (.inl rfl) U1 ?_
 refine .ifF (.as (.cmp (.var M3) .str .eqS .bool) (by decide)) (.th ?_)
 refine .ifT (.as (.cmp (.var M3) .str .eqS .bool) (by decide)) ?_
 refine .cF (.call (.g hG) ((pj hG pa hn).aq.le (by decide)) hG.kp (af.cons (.var (.head _)) (af.cons (.var M1) (af.cons (.var M2) .nil))) .nil) (.pair (.name (.inl rfl) U5) (.name (.inl rfl) U6)) ?_
 refine .th ?_
 exact .ret (.var M5) fun y s h => .of h
theorem iI (hG : G.Main) {n : Nat} {rs : List Row} {M : Nat → Bool} {oq : Option Num} (gv : Giv rs M oq n) : FnT G 70 (.ref 318) [ah G n rs, ae (aa (elems M))] ["quota", "algorithm"] [bI oq, vStr "brute-force"] (vBool (!eh rs M (cq rs M oq))) := by
 refine FnT.fn hG (pn := ["profile", "committee", "quota", "algorithm"]) (bv := [ah G n rs, ae (aa (elems M)), bI oq, vStr "brute-force"]) (σ0 := [("profile", some (ah G n rs)), ("committee", some (ae (aa (elems M)))), ("quota", some (bI oq)), ("algorithm", some (vStr "brute-force")), ("standard_quota", none), ("result", none), ("detailed_information", none)]) rfl (by kernel_rfl) rfl rfl ⟨rfl, rfl, rfl, rfl, rfl, rfl⟩ (bindG r0 r0 (mB fun _ _ _ _ s w => binds_K (hG.K ▸ w.K) rfl rfl rfl rfl rfl) rfl) (by decide) ?_
 intro s₀ F₀ st
 have pa := gv.pa
 have hn := gv.hn
 have he := ax M
 refine .ifJ [("profile", some (ah G n rs)), ("committee", some (ae (aa (elems M)))), ("quota", some ((cq rs M oq).vp)), ("algorithm", some (vStr "brute-force")), ("standard_quota", some (vBool oq.isNone)), ("result", none), ("detailed_information", none)] (b := oq.isNone) ?_ (fun e => ?_) (fun e => ?_) ?_
 ·cases oq with
  | none => exact .cmp (.var M2) .none_ .isN .bool
  | some q => exact .cmp (.var M2) .none_ (.lH dQ) .bool
 ·cases oq with
  | none =>
   refine .assign .bool (.inl rfl) U4 ?_
   refine .assign (.call (.g hG) ((eO hG pa.t0 pa.t1 gv.m0).aq.le (by decide)) hG.kp (af.cons ((EvT.tw hG (.head _)).le (by decide)) (af.cons (.as (.call (.b hG) (.aN (by unfold aa; rw [List.length_map]; exact Z2)) .bi (af.cons (.var M1) .nil) .nil) (by unfold aa; rw [List.length_map])) .nil)) .nil) (.inl rfl) U2 ?_
   exact .jn (.refl _)
  | some q => cases e
 ·cases oq with
  | none => cases e
  | some q =>
   refine .assign .bool (.inl rfl) U4 ?_
   exact .jn (.refl _)
 refine .assign (.call (.g hG) ((aU hG (bE hn gv.hM) (o := some n) (.inr rfl)).aq.le (by decide)) hG.kp (af.cons (.var M1) .nil) (.cons (.dC hG hn (.var (.head _))) .nil)) (.inl rfl) U1 ?_
 refine .ifF (.as (.cmp (.var M3) .str .eqS .bool) (by decide)) (.th ?_)
 refine .ifT (.as (.cmp (.var M3) .str .eqS .bool) (by decide)) ?_
 refine .cF (.call (.g hG) ((oH hG pa hn).aq.le (by decide)) hG.kp (af.cons (.var (.head _)) (af.cons (.var M1) (af.cons (.var M2) .nil))) .nil) (.pair (.name (.inl rfl) U5) (.name (.inl rfl) U6)) ?_
 refine .th ?_
 exact .ret (.var M5) fun y s h => .of h
theorem jx (hG : G.Main) {n : Nat} {rs : List Row} {M : Nat → Bool} (hn : n ≤ 4) (hM : ∀ c ∈ elems M, c < n) : FnT G 70 (.ref 230) [ah G n rs, ae (aa (elems M))] ["algorithm"] [vStr "brute-force"] (vBool (!fN rs M n)) := by
 refine FnT.fn hG (pn := ["profile", "committee", "algorithm"]) (bv := [ah G n rs, ae (aa (elems M)), vStr "brute-force"]) (σ0 := [("profile", some (ah G n rs)), ("committee", some (ae (aa (elems M)))), ("algorithm", some (vStr "brute-force")), ("result", none), ("detailed_information", none)]) rfl (by kernel_rfl) rfl rfl ⟨rfl, rfl, rfl, rfl, rfl, rfl⟩ (bindG r0 r0 (mD fun _ _ _ s w => binds_K (hG.K ▸ w.K) rfl rfl rfl rfl rfl) rfl) (by decide) ?_
 intro s₀ F₀ st
 refine .assign (.call (.g hG) ((aU hG (bE hn hM) (o := some n) (.inr rfl)).aq.le (by decide)) hG.kp (af.cons (.var M1) .nil) (.cons (.dC hG hn (.var (.head _))) .nil)) (.inl rfl) U1 ?_
 refine .ifF (.as (.cmp (.var M2) .str .eqS .bool) (by decide)) (.th ?_)
 refine .ifT (.as (.cmp (.var M2) .str .eqS .bool) (by decide)) ?_
 refine .cF (.call (.g hG) ((o8 hG hn hM).aq.le (by decide)) hG.kp (af.cons (.var (.head _)) (af.cons (.var M1) .nil)) .nil) (.pair (.name (.inl rfl) U3) (.name (.inl rfl) U4)) ?_
 refine .th ?_
 exact .ret (.var M3) fun y s h => .of h
end
section
set_option maxHeartbeats 4000000
noncomputable def gk : Value → Option Str
 | .str x _ => some x
 | _ => none
noncomputable def jT (K : Frag) (a : Addr) : Option (List Str) := match K.lookup a with
 | some ⟨.type T, none, .seq items _, _⟩ => if T = "list" then items.toList.mapM gk else none
 | _ => none
theorem mu : ∀ {vs : List Value} {ss : List Str}, vs.mapM gk = some ss → StrsAre vs ss
 | [], ss, h => by cases h; exact .nil
 | v :: vs, ss, h => by
  rw [List.mapM_cons] at h
  cases v with
  | str x t =>
   cases q : vs.mapM gk with
   | none => rw [q] at h; simp [gk] at h
   | some r =>
    rw [q] at h
    simp [gk] at h
    subst h
    exact .cons x t (mu q)
  | _ => simp [gk] at h
theorem k5 {K : Frag} {a : Addr} {ss : List Str} {h : Heap} (e : jT K a = some ss) (X : K.In h) : ∃ vs, h.IsList a (List.toArray vs) ∧ StrsAre vs ss := by
 unfold jT at e
 split at e
 ·rename_i T items n sl hl
  split at e
  ·rename_i hT
   subst hT
   exact ⟨items.toList, ⟨_, X _ _ hl, rfl, n, by simp⟩, mu e⟩
  ·cases e
 ·cases e
noncomputable def ai : Nat → Str
 | 0 => "jr"
 | 1 => "pjr"
 | 2 => "ejr"
 | 3 => "ejr+"
 | 4 => "fjr"
 | 5 => "core"
 | _ => "pareto"
noncomputable def kc (p : Nat) (rs : List Row) (M : Nat → Bool) (q : Num) (n : Nat) : Bool := match p with
 | 0 => g5 rs M q n
 | 1 => fL rs M q n
 | 2 => fC rs M q n
 | 3 => el rs M q n
 | 4 => fO rs M q
 | _ => eh rs M q
theorem aY.da (hG : G.Main) {x : Str} {b : Bool} (hb : (!((["pareto", "jr", "pjr", "ejr", "ejr+", "fjr", "priceability", "stable-priceability", "core"] : List Str).any (· == x))) = b) : aY G k .NotIn (vStr x) (vIs (.ref 214)) (vBool b) := by
 intro I A τ s a c hA hS hab
 have h := hS
 obtain ⟨F, m, w⟩ := h
 obtain ⟨⟨t, rfl⟩, rfl⟩ := hab F w.tmp
 refine ag (k5 (K := KK G.w.params) (a := 214) (ss := ["pareto", "jr", "pjr", "ejr", "ejr+", "fjr", "priceability", "stable-priceability", "core"]) (by kernel_rfl) (hG.K ▸ w.wd.K)) fun vs hl hi => ?_
 refine notin_list_strs hl hi ?_
 rw [hb]
 exact hS.wk fun _ x => ⟨x, rfl⟩
theorem lK (hG : G.Main) {n : Nat} {rs : List Row} {M : Nat → Bool} (hn : n ≤ 4) (hM : ∀ c ∈ elems M, c < n) : FnT G 80 (.ref 222) [vStr "pareto", ah G n rs, ae (aa (elems M))] ["algorithm"] [vStr "brute-force"] (vBool (!fN rs M n)) := by
 refine FnT.fn hG (pn := ["property_name", "profile", "committee", "quota", "algorithm"]) (bv := [vStr "pareto", ah G n rs, ae (aa (elems M)), cT, vStr "brute-force"]) (σ0 := [("property_name", some (vStr "pareto")), ("profile", some (ah G n rs)), ("committee", some (ae (aa (elems M)))), ("quota", some (cT)), ("algorithm", some (vStr "brute-force"))]) rfl (by kernel_rfl) rfl rfl ⟨rfl, rfl, rfl, rfl, rfl, rfl⟩ (bindG r1n r0 (sD fun _ _ _ _ s w => binds_K (hG.K ▸ w.K) rfl rfl rfl rfl rfl) rfl) (by decide) ?_
 intro s₀ F₀ st
 refine .ifF (.cmp (.var (.head _)) (.g hG) (.da hG (by decide)) .bool) (.th ?_)
 refine .ifT (.as (.cmp (.var (.head _)) .str .eqS .bool) (by decide)) ?_
 refine .ifF (.cmp (.var M3) .none_ .oh .bool) (.th ?_)
 exact .ret (.call (.g hG) ((jx hG hn hM).aq.le (by decide)) hG.kp (af.cons (.var M1) (af.cons (.var M2) .nil)) (.cons (.var M4) .nil)) fun y s h => .of h
theorem lW (hG : G.Main) {n : Nat} {rs : List Row} {M : Nat → Bool} {oq : Option Num} (gv : Giv rs M oq n) : FnT G 80 (.ref 222) [vStr "jr", ah G n rs, ae (aa (elems M))] ["quota", "algorithm"] [bI oq, vStr "brute-force"] (vBool (!kc 0 rs M (cq rs M oq) n)) := by
 refine FnT.fn hG (pn := ["property_name", "profile", "committee", "quota", "algorithm"]) (bv := [vStr "jr", ah G n rs, ae (aa (elems M)), bI oq, vStr "brute-force"]) (σ0 := [("property_name", some (vStr "jr")), ("profile", some (ah G n rs)), ("committee", some (ae (aa (elems M)))), ("quota", some (bI oq)), ("algorithm", some (vStr "brute-force"))]) rfl (by kernel_rfl) rfl rfl ⟨rfl, rfl, rfl, rfl, rfl, rfl⟩ (bindG r0 r0 (i9 fun _ _ _ _ _ s w => binds_K (hG.K ▸ w.K) rfl rfl rfl rfl rfl) rfl) (by decide) ?_
 intro s₀ F₀ st
 refine .ifF (.cmp (.var (.head _)) (.g hG) (.da hG (by decide)) .bool) (.th ?_)
 refine .ifF (.as (.cmp (.var (.head _)) .str .eqS .bool) (by decide)) ?_
 refine .ifT (.as (.cmp (.var (.head _)) .str .eqS .bool) (by decide)) ?_
 exact .ret (.call (.g hG) ((ky hG gv).aq.le (by decide)) hG.kp (af.cons (.var M1) (af.cons (.var M2) .nil)) (.cons (.var M3) .nil)) fun y s h => .of h
theorem lj (hG : G.Main) {n : Nat} {rs : List Row} {M : Nat → Bool} {oq : Option Num} (gv : Giv rs M oq n) : FnT G 80 (.ref 222) [vStr "pjr", ah G n rs, ae (aa (elems M))] ["quota", "algorithm"] [bI oq, vStr "brute-force"] (vBool (!kc 1 rs M (cq rs M oq) n)) := by
 refine FnT.fn hG (pn := ["property_name", "profile", "committee", "quota", "algorithm"]) (bv := [vStr "pjr", ah G n rs, ae (aa (elems M)), bI oq, vStr "brute-force"]) (σ0 := [("property_name", some (vStr "pjr")), ("profile", some (ah G n rs)), ("committee", some (ae (aa (elems M)))), ("quota", some (bI oq)), ("algorithm", some (vStr "brute-force"))]) rfl (by kernel_rfl) rfl rfl ⟨rfl, rfl, rfl, rfl, rfl, rfl⟩ (bindG r0 r0 (i9 fun _ _ _ _ _ s w => binds_K (hG.K ▸ w.K) rfl rfl rfl rfl rfl) rfl) (by decide) ?_
 intro s₀ F₀ st
 refine .ifF (.cmp (.var (.head _)) (.g hG) (.da hG (by decide)) .bool) (.th ?_)
 refine .ifF (.as (.cmp (.var (.head _)) .str .eqS .bool) (by decide)) ?_
 refine .ifF (.as (.cmp (.var (.head _)) .str .eqS .bool) (by decide)) ?_
 refine .ifT (.as (.cmp (.var (.head _)) .str .eqS .bool) (by decide)) ?_
 exact .ret (.call (.g hG) ((jE hG gv).aq.le (by decide)) hG.kp (af.cons (.var M1) (af.cons (.var M2) .nil)) (.cons (.var M3) (.cons (.var M4) .nil))) fun y s h => .of h
theorem lx (hG : G.Main) {n : Nat} {rs : List Row} {M : Nat → Bool} {oq : Option Num} (gv : Giv rs M oq n) : FnT G 80 (.ref 222) [vStr "ejr", ah G n rs, ae (aa (elems M))] ["quota", "algorithm"] [bI oq, vStr "brute-force"] (vBool (!kc 2 rs M (cq rs M oq) n)) := by
 refine FnT.fn hG (pn := ["property_name", "profile", "committee", "quota", "algorithm"]) (bv := [vStr "ejr", ah G n rs, ae (aa (elems M)), bI oq, vStr "brute-force"]) (σ0 := [("property_name", some (vStr "ejr")), ("profile", some (ah G n rs)), ("committee", some (ae (aa (elems M)))), ("quota", some (bI oq)), ("algorithm", some (vStr "brute-force"))]) rfl (by kernel_rfl) rfl rfl ⟨rfl, rfl, rfl, rfl, rfl, rfl⟩ (bindG r0 r0 (i9 fun _ _ _ _ _ s w => binds_K (hG.K ▸ w.K) rfl rfl rfl rfl rfl) rfl) (by decide) ?_
 intro s₀ F₀ st
 refine .ifF (.cmp (.var (.head _)) (.g hG) (.da hG (by decide)) .bool) (.th ?_)
 refine .ifF (.as (.cmp (.var (.head _)) .str .eqS .bool) (by decide)) ?_
 refine .ifF (.as (.cmp (.var (.head _)) .str .eqS .bool) (by decide)) ?_
 refine .ifF (.as (.cmp (.var (.head _)) .str .eqS .bool) (by decide)) ?_
 refine .ifT (.as (.cmp (.var (.head _)) .str .eqS .bool) (by decide)) ?_
 exact .ret (.call (.g hG) ((jL hG gv).aq.le (by decide)) hG.kp (af.cons (.var M1) (af.cons (.var M2) .nil)) (.cons (.var M3) (.cons (.var M4) .nil))) fun y s h => .of h
theorem lQ (hG : G.Main) {n : Nat} {rs : List Row} {M : Nat → Bool} {oq : Option Num} (gv : Giv rs M oq n) : FnT G 80 (.ref 222) [vStr "ejr+", ah G n rs, ae (aa (elems M))] ["quota", "algorithm"] [bI oq, vStr "brute-force"] (vBool (!kc 3 rs M (cq rs M oq) n)) := by
 refine FnT.fn hG (pn := ["property_name", "profile", "committee", "quota", "algorithm"]) (bv := [vStr "ejr+", ah G n rs, ae (aa (elems M)), bI oq, vStr "brute-force"]) (σ0 := [("property_name", some (vStr "ejr+")), ("profile", some (ah G n rs)), ("committee", some (ae (aa (elems M)))), ("quota", some (bI oq)), ("algorithm", some (vStr "brute-force"))]) rfl (by kernel_rfl) rfl rfl ⟨rfl, rfl, rfl, rfl, rfl, rfl⟩ (bindG r0 r0 (i9 fun _ _ _ _ _ s w => binds_K (hG.K ▸ w.K) rfl rfl rfl rfl rfl) rfl) (by decide) ?_
 intro s₀ F₀ st
 refine .ifF (.cmp (.var (.head _)) (.g hG) (.da hG (by decide)) .bool) (.th ?_)
 refine .ifF (.as (.cmp (.var (.head _)) .str .eqS .bool) (by decide)) ?_
 refine .ifF (.as (.cmp (.var (.head _)) .str .eqS .bool) (by decide)) ?_
 refine .ifF (.as (.cmp (.var (.head _)) .str .eqS .bool) (by decide)) ?_
 refine .ifF (.as (.cmp (.var (.head _)) .str .eqS .bool) (by decide)) ?_
 refine .ifT (.as (.cmp (.var (.head _)) .str .eqS .bool) (by decide)) ?_
 exact .ret (.call (.g hG) ((iX hG gv).aq.le (by decide)) hG.kp (af.cons (.var M1) (af.cons (.var M2) .nil)) (.cons (.var M3) .nil)) fun y s h => .of h
theorem lL (hG : G.Main) {n : Nat} {rs : List Row} {M : Nat → Bool} {oq : Option Num} (gv : Giv rs M oq n) : FnT G 80 (.ref 222) [vStr "fjr", ah G n rs, ae (aa (elems M))] ["quota", "algorithm"] [bI oq, vStr "brute-force"] (vBool (!kc 4 rs M (cq rs M oq) n)) := by
 refine FnT.fn hG (pn := ["property_name", "profile", "committee", "quota", "algorithm"]) (bv := [vStr "fjr", ah G n rs, ae (aa (elems M)), bI oq, vStr "brute-force"]) (σ0 := [("property_name", some (vStr "fjr")), ("profile", some (ah G n rs)), ("committee", some (ae (aa (elems M)))), ("quota", some (bI oq)), ("algorithm", some (vStr "brute-force"))]) rfl (by kernel_rfl) rfl rfl ⟨rfl, rfl, rfl, rfl, rfl, rfl⟩ (bindG r0 r0 (i9 fun _ _ _ _ _ s w => binds_K (hG.K ▸ w.K) rfl rfl rfl rfl rfl) rfl) (by decide) ?_
 intro s₀ F₀ st
 refine .ifF (.cmp (.var (.head _)) (.g hG) (.da hG (by decide)) .bool) (.th ?_)
 refine .ifF (.as (.cmp (.var (.head _)) .str .eqS .bool) (by decide)) ?_
 refine .ifF (.as (.cmp (.var (.head _)) .str .eqS .bool) (by decide)) ?_
 refine .ifF (.as (.cmp (.var (.head _)) .str .eqS .bool) (by decide)) ?_
 refine .ifF (.as (.cmp (.var (.head _)) .str .eqS .bool) (by decide)) ?_
 refine .ifF (.as (.cmp (.var (.head _)) .str .eqS .bool) (by decide)) ?_
 refine .ifT (.as (.cmp (.var (.head _)) .str .eqS .bool) (by decide)) ?_
 exact .ret (.call (.g hG) ((jN hG gv).aq.le (by decide)) hG.kp (af.cons (.var M1) (af.cons (.var M2) .nil)) (.cons (.var M3) (.cons (.var M4) .nil))) fun y s h => .of h
theorem lB (hG : G.Main) {n : Nat} {rs : List Row} {M : Nat → Bool} {oq : Option Num} (gv : Giv rs M oq n) : FnT G 80 (.ref 222) [vStr "core", ah G n rs, ae (aa (elems M))] ["quota", "algorithm"] [bI oq, vStr "brute-force"] (vBool (!kc 5 rs M (cq rs M oq) n)) := by
 refine FnT.fn hG (pn := ["property_name", "profile", "committee", "quota", "algorithm"]) (bv := [vStr "core", ah G n rs, ae (aa (elems M)), bI oq, vStr "brute-force"]) (σ0 := [("property_name", some (vStr "core")), ("profile", some (ah G n rs)), ("committee", some (ae (aa (elems M)))), ("quota", some (bI oq)), ("algorithm", some (vStr "brute-force"))]) rfl (by kernel_rfl) rfl rfl ⟨rfl, rfl, rfl, rfl, rfl, rfl⟩ (bindG r0 r0 (i9 fun _ _ _ _ _ s w => binds_K (hG.K ▸ w.K) rfl rfl rfl rfl rfl) rfl) (by decide) ?_
 intro s₀ F₀ st
 refine .ifF (.cmp (.var (.head _)) (.g hG) (.da hG (by decide)) .bool) (.th ?_)
 refine .ifF (.as (.cmp (.var (.head _)) .str .eqS .bool) (by decide)) ?_
 refine .ifF (.as (.cmp (.var (.head _)) .str .eqS .bool) (by decide)) ?_
 refine .ifF (.as (.cmp (.var (.head _)) .str .eqS .bool) (by decide)) ?_
 refine .ifF (.as (.cmp (.var (.head _)) .str .eqS .bool) (by decide)) ?_
 refine .ifF (.as (.cmp (.var (.head _)) .str .eqS .bool) (by decide)) ?_
 refine .ifF (.as (.cmp (.var (.head _)) .str .eqS .bool) (by decide)) ?_
 refine .ifT (.as (.cmp (.var (.head _)) .str .eqS .bool) (by decide)) ?_
 exact .ret (.call (.g hG) ((iI hG gv).aq.le (by decide)) hG.kp (af.cons (.var M1) (af.cons (.var M2) .nil)) (.cons (.var M3) (.cons (.var M4) .nil))) fun y s h => .of h
theorem iD (hG : G.Main) {p n : Nat} {rs : List Row} {M : Nat → Bool} {oq : Option Num} (hp : p < 6) (gv : Giv rs M oq n) : FnT G 80 (.ref 222) [vStr (ai p), ah G n rs, ae (aa (elems M))] ["quota", "algorithm"] [bI oq, vStr "brute-force"] (vBool (!kc p rs M (cq rs M oq) n)) := by
 have : p = 0 ∨ p = 1 ∨ p = 2 ∨ p = 3 ∨ p = 4 ∨ p = 5 := Z71
 rcases this with rfl | rfl | rfl | rfl | rfl | rfl
 ·exact lW hG gv
 ·exact lj hG gv
 ·exact lx hG gv
 ·exact lQ hG gv
 ·exact lL hG gv
 ·exact lB hG gv
end
theorem bG {ns : List Nat} : aa ns = (ns.map fun (n : Nat) => (n : Int)).map vInt := by unfold aa; rw [List.map_map]; rfl
theorem aI {ns : List Nat} : (aa ns).length = ns.length := by unfold aa; rw [List.length_map]
theorem kI {ns : List Nat} {i : Nat} : (ns.map fun (n : Nat) => (n : Int)).any (· == (i : Int)) = ns.contains i := by
 rw [Bool.eq_iff_iff]
 simp
 constructor
 ·rintro ⟨x, hx, e⟩
  have : x = i := Z34
  subst this; exact hx
 ·intro h; exact ⟨i, h, rfl⟩
theorem cast_inj {ns ms : List Nat} : (ns.map fun (n : Nat) => (n : Int)) = (ms.map fun (n : Nat) => (n : Int)) ↔ ns = ms := by
 constructor
 ·intro h
  exact List.map_inj_right (fun a b e => Z34) |>.mp h
 ·intro h; rw [h]
theorem aY.inN {ns : List Nat} {i : Nat} : aY G k .In (vInt i) (ae (aa ns)) (vBool (ns.contains i)) := by
 rw [bG, ← kI]; exact .inI
theorem aY.oK {ns : List Nat} {i : Nat} : aY G k .NotIn (vInt i) (ae (aa ns)) (vBool (!ns.contains i)) := by
 rw [bG, ← kI]; exact .qF
theorem aY.eqN {ns ms : List Nat} : aY G k .Eq (ae (aa ns)) (ae (aa ms)) (vBool (decide (ns = ms))) := by
 rw [bG, bG, ← decide_eq_decide.mpr cast_inj]; exact .eqI
theorem aY.neN {ns ms : List Nat} : aY G k .NotEq (ae (aa ns)) (ae (aa ms)) (vBool (!decide (ns = ms))) := by
 rw [bG, bG, ← decide_eq_decide.mpr cast_inj]; exact .neI
noncomputable def c9 (ns : List Nat) : Nat := ns.foldl max 0
noncomputable def jK : List Nat → Nat
 | [] => 0
 | n :: ns => ns.foldl min n
theorem foldl_max : ∀ (ns : List Nat) (a : Nat), a ≤ ns.foldl max a ∧ (∀ n ∈ ns, n ≤ ns.foldl max a) ∧ (ns.foldl max a = a ∨ ns.foldl max a ∈ ns)
 | [], a => ⟨Nat.le_refl _, (fun _ h => nomatch h), .inl rfl⟩
 | n :: ns, a => by
  refine bx (foldl_max ns (max a n)) fun h1 h2 h3 => ?_
  refine ⟨by simp only [List.foldl_cons]; omega, fun m hm => ?_, ?_⟩
  ·rcases List.mem_cons.mp hm with rfl | hm
   ·simp only [List.foldl_cons]; omega
   ·exact h2 m hm
  ·simp only [List.foldl_cons]
   rcases h3 with h3 | h3
   ·rw [h3]
    rcases Nat.le_total a n with q | q
    ·right; rw [Nat.max_eq_right q]; exact .head _
    ·left; exact Nat.max_eq_left q
   ·right; exact .tail _ h3
theorem foldl_min : ∀ (ns : List Nat) (a : Nat), ns.foldl min a ≤ a ∧ (∀ n ∈ ns, ns.foldl min a ≤ n) ∧ (ns.foldl min a = a ∨ ns.foldl min a ∈ ns)
 | [], a => ⟨Nat.le_refl _, (fun _ h => nomatch h), .inl rfl⟩
 | n :: ns, a => by
  refine bx (foldl_min ns (min a n)) fun h1 h2 h3 => ?_
  refine ⟨by simp only [List.foldl_cons]; omega, fun m hm => ?_, ?_⟩
  ·rcases List.mem_cons.mp hm with rfl | hm
   ·simp only [List.foldl_cons]; omega
   ·exact h2 m hm
  ·simp only [List.foldl_cons]
   rcases h3 with h3 | h3
   ·rw [h3]
    rcases Nat.le_total a n with q | q
    ·left; exact Nat.min_eq_left q
    ·right; rw [Nat.min_eq_right q]; exact .head _
   ·right; exact .tail _ h3
theorem kj {ns : List Nat} (h : ns ≠ []) : c9 ns ∈ ns ∧ ∀ n ∈ ns, n ≤ c9 ns := by
 refine bx (foldl_max ns 0) fun h1 h2 h3 => ?_
 refine ⟨?_, h2⟩
 rcases h3 with h3 | h3
 ·cases ns with
  | nil => exact absurd rfl h
  | cons n ns =>
   have := h2 n (.head _)
   have e : c9 (n :: ns) = n := by unfold c9; omega
   rw [e]; exact .head _
 ·exact h3
theorem kr {ns : List Nat} (h : ns ≠ []) : jK ns ∈ ns ∧ ∀ n ∈ ns, jK ns ≤ n := by
 cases ns with
 | nil => exact absurd rfl h
 | cons n ns =>
  refine bx (foldl_min ns n) fun h1 h2 h3 => ?_
  refine ⟨?_, fun m hm => ?_⟩
  ·rcases h3 with h3 | h3
   ·show ns.foldl min n ∈ _
    rw [h3]; exact .head _
   ·exact .tail _ h3
  ·rcases List.mem_cons.mp hm with rfl | hm
   ·exact h1
   ·exact h2 m hm
theorem aw.c9 {ns : List Nat} (h : ns ≠ []) : aw G k (.builtin "max") [ae (aa ns)] [] [] (vInt (c9 ns)) := by
 obtain ⟨h1, h2⟩ := kj h
 rw [bG]
 exact .uJ (List.mem_map_of_mem (f := fun (n : Nat) => (n : Int)) h1) fun a ha => by
  refine ag (List.mem_map.mp ha) fun n hn re0 => ?_; subst re0
  have := h2 n hn
  exact Z37
theorem aw.jK {ns : List Nat} (h : ns ≠ []) : aw G k (.builtin "min") [ae (aa ns)] [] [] (vInt (jK ns)) := by
 obtain ⟨h1, h2⟩ := kr h
 rw [bG]
 exact .uk (List.mem_map_of_mem (f := fun (n : Nat) => (n : Int)) h1) fun a ha => by
  refine ag (List.mem_map.mp ha) fun n hn re0 => ?_; subst re0
  have := h2 n hn
  exact Z37
noncomputable def nf (x : Int) (c : Nat) : Bool := Builtin.bitAnd (x.fdiv (2 ^ c)) 1 != 0
noncomputable def aj (n : Nat) (x : Int) : List Nat := (List.range n).filter fun c => nf x c
theorem TsT.bit {e f : Expr} {x : Int} {c kk : Nat} {p1 p2 p3 : Pos} (he : EvT G k C σ e (vInt x)) (hf : EvT G k C σ f (vInt c)) : TsT G k C σ (.BinOp (.BinOp e .RShift f p1) .BitAnd (.Constant (.int 1) kk p2) p3) (nf x c) :=
 .val (.bin (.bin he hf (.shr Z33)) .int .qJ) .int
section
set_option maxHeartbeats 4000000
noncomputable def kh (W : List Nat) (S : Nat → Bool) : Nat := ((elems S).filter fun c => W.contains c).length
noncomputable def aT (rs : List Row) (W : List Nat) : List Nat := rs.map fun r => kh W r.1
noncomputable def dJ (g h : List Nat) (i : Nat) : Bool := decide (((g.getD i 0 : Nat) : Int) < ((h.getD i 0 : Nat) : Int))
noncomputable def dv (rs : List Row) (n : Nat) (M : Nat → Bool) (p : Nat) : Bool :=
 ((((aj n ((p + 1 : Nat) : Int)).length : Int) == ((elems M).length : Int))) && ((!decide (aT rs (aj n ((p + 1 : Nat) : Int)) = aT rs (elems M))) && decide (((List.range rs.length).filter (dJ (aT rs (aj n ((p + 1 : Nat) : Int))) (aT rs (elems M)))).map (fun _ => 1) = ([] : List Nat)))
noncomputable def j9 (rs : List Row) (n : Nat) (M : Nat → Bool) : Bool := (List.range (2 ^ n - 1)).any (dv rs n M)
noncomputable def lA (r : Row) : VP := aQ [ae (aa (elems r.1)), vInt r.2]
noncomputable def aP (rs : List Row) : List VP := rs.map lA
theorem c0 {rs : List Row} {W : List Nat} : (aT rs W).length = rs.length := by unfold aT; rw [List.length_map]
theorem nS {l : List Nat} {i : Nat} (h : i < l.length) : (aa l)[i]? = some (vInt (l.getD i 0 : Nat)) := by
 unfold aa
 rw [List.getElem?_map, List.getElem?_eq_getElem h, List.getD_eq_getElem?_getD, List.getElem?_eq_getElem h]; rfl
theorem iP.nat {value slice : Expr} {l : List Nat} {i : Nat} (h : i < l.length) (hz : l.length ≤ 1000000) (hs : iF slice := by intro _ _ _; with_unfolding_all rfl) : iP G k value slice (ae (aa l)) (vInt i) (vInt (l.getD i 0 : Nat)) :=
 .list Z33 Z42 (by rw [Int.toNat_natCast]; exact nS h) hs
theorem oC (hG : G.Main) {n : Nat} {rs : List Row} {M : Nat → Bool} (hn : n ≤ 4) (hz : rs.length ≤ 4) : FnT G 20 (.ref 496) [ae (aP rs), vInt n, ae (aa (elems M))] [] [] (vBool (j9 rs n M)) := by
 refine FnT.fn hG (pn := ["rows", "n", "members"]) (bv := [ae (aP rs), vInt n, ae (aa (elems M))]) (σ0 := [("rows", some (ae (aP rs))), ("n", some (vInt n)), ("members", some (ae (aa (elems M)))), ("hits", none), ("part", none), ("wish", none), ("gets", none)]) rfl (by kernel_rfl) rfl rfl ⟨rfl, rfl, rfl, rfl, rfl, rfl⟩ (ig fun y z u s w => BindsTo.of_eq rfl) (by decide) ?_
 intro s₀ F₀ st
 have hM := ax M
 have p4 : 2 ^ n ≤ 16 := Nat.pow_le_pow_right Z5 hn
 have p1 : 1 ≤ 2 ^ n := Nat.one_le_two_pow
 refine .assign (v := ae (aa (aT rs (elems M)))) (.aJ (Sp := (· = aP rs)) (cl := [("members", s₀.heap.objs.size + 1)]) (σc := [("ballot", none), ("weight", none), ("members", some (ae (aa (elems M))))])
  (.of (.var (.head _)) .list (Nat.le_refl _)) (.of ["ballot", "weight"] ["members"] [ae (aa (elems M))]) ?_) (st _ (by simp)) U3 ?_
 ·rintro _ rfl
  have e : aa (aT rs (elems M)) = rs.map fun r => vInt (kh (elems M) r.1) := by unfold aa aT; rw [List.map_map]; rfl
  rw [e]
  refine .all Z1 fun s0 F0 xa xg st r hr => ⟨_, .pair (.name (.inl rfl) .here) (.name (.inl rfl) U1), .drop (.drop (.refl _)), ?_⟩
  have hr4 := ax r.1
  refine .as (.call (.b hG) (.aN (l := ((elems r.1).filter fun c => (elems M).contains c).map fun (c : Nat) => vInt c) ?_) .bi (af.cons (.aJ (Sp := (· = aa (elems r.1))) (cl := [("members", s₀.heap.objs.size + 1)]) (σc := [("cand", none), ("members", some (ae (aa (elems M))))]) (.of (.var (.head _)) .list (Nat.le_refl _)) (.of ["cand"] ["members"] [ae (aa (elems M))]) ?_) .nil) .nil) ?_
  ·have := List.length_filter_le (fun c => (elems M).contains c) (elems r.1)
   rw [List.length_map]; exact Z18
  ·rintro _ rfl
   exact .sel Z1 fun s1 F1 xa1 xg1 st1 c hc => ⟨_, .name (.inl rfl) .here, .drop (.refl _), .cmp (.var (.head _)) (.var M1) .inN .bool, .var (.head _)⟩
  ·rw [List.length_map]; rfl
 refine .cH (Sp := (· = aG 1 (2 ^ n - 1))) (.of (.call (v := b6 1 ((2 ^ n : Nat) : Int)) (.b hG) .eC .ty (af.cons .int (af.cons (.as (.bin .int (.var M1) (.pow Z33 Z40 (by decide))) (congrArg vInt (by rw [Int.toNat_natCast]; simp))) .nil)) .nil) (cm tI Z60 Z61) (Nat.le_refl _)) ?_
 rintro _ rfl
 refine ⟨fun i => (List.range i).any (dv rs n M) = false, fun _ => [("rows", some (ae (aP rs))), ("n", some (vInt n)), ("members", some (ae (aa (elems M)))), ("hits", some (ae (aa (aT rs (elems M))))), ("part", none), ("wish", none), ("gets", none)], fun _ => [], rfl, .refl _, rfl, ?_, ?_⟩
 ·intro p v hv hp
  obtain ⟨hp4, rfl⟩ := bh hv
  rw [show (1 : Int) + p = ((p + 1 : Nat) : Int) from Z30]
  refine ⟨_, .name (st _ (by simp)) U4, fun Xf Yf => ?_⟩
  have hb4 : (aj n ((p + 1 : Nat) : Int)).length ≤ 4 := by
   have := List.length_filter_le (fun c => nf ((p + 1 : Nat) : Int) c) (List.range n)
   rw [List.length_range] at this
   unfold aj; exact Z11
  refine .assign (v := ae (aa (aj n ((p + 1 : Nat) : Int)))) (.aJ (Sp := (· = (List.range n).map fun (i : Nat) => vInt (i : Int))) (cl := [("part", s₀.heap.objs.size + 1 + 1 + 1)]) (σc := [("cand", none), ("part", some (vInt ((p + 1 : Nat) : Int)))])
   (.of (.call (.b hG) .cf .ty (af.cons (.var M1) .nil) .nil) (bA Z1) (Nat.le_refl _)) (.of ["cand"] ["part"] [vInt ((p + 1 : Nat) : Int)]) ?_) (st _ (by simp)) U5 ?_
  ·rintro _ rfl
   exact .sel (by simp; exact Z1) fun s1 F1 xa1 xg1 st1 c hc => ⟨_, .name (.inl rfl) .here, .drop (.refl _), .bit (.var M1) (.var (.head _)), .var (.head _)⟩
  refine .if_ (b := (((aj n ((p + 1 : Nat) : Int)).length : Int) == ((elems M).length : Int))) (.as (.cmp (.call (.b hG) (.aN (by rw [aI]; exact Z2)) .bi (af.cons (.var M5) .nil) .nil) (.call (.b hG) (.aN (by rw [aI]; exact Z2)) .bi (af.cons (.var M2) .nil) .nil) .eq .bool) (by rw [aI, aI])) (fun hb => ?_) (fun hb => ?_)
  ·refine .assign (v := ae (aa (aT rs (aj n ((p + 1 : Nat) : Int))))) (.aJ (Sp := (· = aP rs)) (cl := [("wish", s₀.heap.objs.size + 1 + 1 + 1 + 1)]) (σc := [("ballot", none), ("weight", none), ("wish", some (ae (aa (aj n ((p + 1 : Nat) : Int)))))])
    (.of (.var (.head _)) .list (Nat.le_refl _)) (.of ["ballot", "weight"] ["wish"] [ae (aa (aj n ((p + 1 : Nat) : Int)))]) ?_) (st _ (by simp)) U6 ?_
   ·rintro _ rfl
    have e : aa (aT rs (aj n ((p + 1 : Nat) : Int))) = rs.map fun r => vInt (kh (aj n ((p + 1 : Nat) : Int)) r.1) := by unfold aa aT; rw [List.map_map]; rfl
    rw [e]
    refine .all Z1 fun s0 F0 xa xg st r hr => ⟨_, .pair (.name (.inl rfl) .here) (.name (.inl rfl) U1), .drop (.drop (.refl _)), ?_⟩
    have hr4 := ax r.1
    refine .as (.call (.b hG) (.aN (l := ((elems r.1).filter fun c => (aj n ((p + 1 : Nat) : Int)).contains c).map fun (c : Nat) => vInt c) ?_) .bi (af.cons (.aJ (Sp := (· = aa (elems r.1))) (cl := [("wish", s₀.heap.objs.size + 1 + 1 + 1 + 1)]) (σc := [("cand", none), ("wish", some (ae (aa (aj n ((p + 1 : Nat) : Int)))))]) (.of (.var (.head _)) .list (Nat.le_refl _)) (.of ["cand"] ["wish"] [ae (aa (aj n ((p + 1 : Nat) : Int)))]) ?_) .nil) .nil) ?_
    ·have := List.length_filter_le (fun c => (aj n ((p + 1 : Nat) : Int)).contains c) (elems r.1)
     rw [List.length_map]; exact Z18
    ·rintro _ rfl
     exact .sel Z1 fun s1 F1 xa1 xg1 st1 c hc => ⟨_, .name (.inl rfl) .here, .drop (.refl _), .cmp (.var (.head _)) (.var M1) .inN .bool, .var (.head _)⟩
    ·rw [List.length_map]; rfl
   refine .if_ (b := (!decide (aT rs (aj n ((p + 1 : Nat) : Int)) = aT rs (elems M))) && decide (((List.range rs.length).filter (dJ (aT rs (aj n ((p + 1 : Nat) : Int))) (aT rs (elems M)))).map (fun _ => 1) = ([] : List Nat))) (.j3 (.cmp (.var M6) (.var M3) .neN .bool) fun _ => .cmp (va := ae (aa (((List.range rs.length).filter (dJ (aT rs (aj n ((p + 1 : Nat) : Int))) (aT rs (elems M)))).map (fun _ => 1)))) (vb := ae (aa [])) ?_ (.list .nil) .eqN .bool) (fun hb2 => ?_) (fun hb2 => ?_)
   ·have e : aa (((List.range rs.length).filter (dJ (aT rs (aj n ((p + 1 : Nat) : Int))) (aT rs (elems M)))).map (fun _ => 1)) = ((List.range rs.length).filter (dJ (aT rs (aj n ((p + 1 : Nat) : Int))) (aT rs (elems M)))).map fun _ => vInt 1 := by unfold aa; rw [List.map_map]; rfl
    rw [e]
    refine .aJ (Sp := (· = (List.range rs.length).map fun (i : Nat) => vInt (i : Int))) (cl := [("hits", s₀.heap.objs.size + 1 + 1), ("gets", s₀.heap.objs.size + 1 + 1 + 1 + 1 + 1)]) (σc := [("i", none), ("gets", some (ae (aa (aT rs (aj n ((p + 1 : Nat) : Int)))))), ("hits", some (ae (aa (aT rs (elems M)))))])
     (.of (.call (v := b6 0 ((rs.length : Nat) : Int)) (.b hG) .cf .ty (af.cons (.as (.call (.b hG) (.aN (by rw [aI, c0]; exact Z2)) .bi (af.cons (.var M6) .nil) .nil) (by rw [aI, c0])) .nil) .nil) (bA Z1) (Nat.le_refl _)) (.of ["i"] ["gets", "hits"] [ae (aa (aT rs (aj n ((p + 1 : Nat) : Int)))), ae (aa (aT rs (elems M)))]) ?_
    rintro _ rfl
    refine .sel (by simp; exact Z1) fun s1 F1 xa1 xg1 st1 i hi => ⟨_, .name (.inl rfl) .here, .drop (.refl _), ?_, .int⟩
    have hi' := List.mem_range.mp hi
    exact .cmp (.sub (.var M1) (.var (.head _)) (.nat (by rw [c0]; exact hi') (by rw [c0]; exact Z1))) (.sub (.var M2) (.var (.head _)) (.nat (by rw [c0]; exact hi') (by rw [c0]; exact Z1))) .lt .bool
   ·refine .ret (.as .bool ?_) fun y s h => .of h
    have e2 : dv rs n M p = true := by unfold dv; rw [hb, hb2]; rfl
    unfold j9
    rw [aF hp4 e2]
   ·have e2 : dv rs n M p = false := by unfold dv; rw [hb2, Bool.and_false]
    exact .th (.th (.aW (aA hp e2) (K4 (D3 (.refl _))) rfl rfl))
  ·have e2 : dv rs n M p = false := by unfold dv; rw [hb]; rfl
   exact .th (.aW (aA hp e2) (K4 (D2 (.refl _))) rfl rfl)
 ·intro hp
  rw [bk] at hp
  refine .ret (.as .bool ?_) fun y s h => .of h
  unfold j9
  rw [hp]
end
section
set_option maxHeartbeats 8000000
noncomputable def i5 (S : Nat → Bool) (w : List Nat) : Nat := (w.filter fun c => (elems S).contains c).length
noncomputable def ak (nm : Str) (n : Nat) : List (List Nat) := if ((nm == ("fjr" : Str)) || (nm == ("core" : Str))) = true then (List.range (2 ^ n)).map fun (p : Nat) => aj n p else []
noncomputable def dP (rs : List Row) (ws : List (List Nat)) (i : Nat) : List Nat := ws.map (i5 (bal rs i))
noncomputable def ones (l : List Nat) : List Nat := l.map fun _ => 1
noncomputable def bf (rs : List Row) (n : Nat) (g : List Nat) : List Nat := (List.range n).filter fun c => decide (ones (g.filter fun i => !(elems (bal rs i)).contains c) = [])
noncomputable def b8 (rs : List Row) (M : Nat → Bool) (g : List Nat) : List Nat := (elems M).filter fun c => !decide (ones (g.filter fun i => (elems (bal rs i)).contains c) = [])
noncomputable def bp (rs : List Row) (M : Nat → Bool) (g : List Nat) : List Nat := g.map fun i => kh (elems M) (bal rs i)
noncomputable def aE (rs : List Row) (g : List Nat) (a b : Int) : Int := ((g.map (wt rs)).sum * b).fdiv a
noncomputable def di (rs : List Row) (ws : List (List Nat)) (g : List Nat) (p : Nat) : List Nat := g.map fun i => (dP rs ws i).getD p 0
noncomputable def lY (g h : List Nat) (i : Nat) : Bool := decide (((g.getD i 0 : Nat) : Int) ≤ ((h.getD i 0 : Nat) : Int))
noncomputable def nr (nm : Str) (rs : List Row) (M : Nat → Bool) (ws : List (List Nat)) (g : List Nat) (p : Nat) : Bool := (nm == ("fjr" : Str)) && decide (((c9 (bp rs M g) : Nat) : Int) < ((jK (di rs ws g p) : Nat) : Int))
noncomputable def jX (nm : Str) (rs : List Row) (M : Nat → Bool) (ws : List (List Nat)) (g : List Nat) (p : Nat) : Bool := (nm == ("core" : Str)) && decide (ones ((List.range g.length).filter (lY (di rs ws g p) (bp rs M g))) = [])
noncomputable def bQ (nm : Str) (rs : List Row) (M : Nat → Bool) (ws : List (List Nat)) (g : List Nat) (seats : Int) (d : Nat) : Bool := decide (((ws.getD (d + 1) []).length : Int) ≤ seats) && (nr nm rs M ws g (d + 1) || jX nm rs M ws g (d + 1))
noncomputable def jrB (nm : Str) (rs : List Row) (n : Nat) (M : Nat → Bool) (g : List Nat) : Bool := (nm == ("jr" : Str)) && ((!decide (bf rs n g = [])) && decide (b8 rs M g = []))
noncomputable def ib (nm : Str) (rs : List Row) (n : Nat) (M : Nat → Bool) (g : List Nat) (seats : Int) : Bool := (nm == ("pjr" : Str)) && decide (((b8 rs M g).length : Int) < min seats ((bf rs n g).length : Int))
noncomputable def hZ (nm : Str) (rs : List Row) (n : Nat) (M : Nat → Bool) (g : List Nat) (seats : Int) : Bool := (nm == ("ejr" : Str)) && decide (((c9 (bp rs M g) : Nat) : Int) < min seats ((bf rs n g).length : Int))
noncomputable def eE (nm : Str) (rs : List Row) (n : Nat) (M : Nat → Bool) (g : List Nat) (seats : Int) : Bool := (nm == ("ejr+" : Str)) && (decide (((c9 (bp rs M g) : Nat) : Int) < seats) && !decide ((bf rs n g).filter (fun c => !(elems M).contains c) = []))
noncomputable def br (nm : Str) (rs : List Row) (n : Nat) (M : Nat → Bool) (a b : Int) (d : Nat) : Bool :=
 let g := aj rs.length ((d + 1 : Nat) : Int)
 decide (0 < aE rs g a b) && (jrB nm rs n M g || (ib nm rs n M g (aE rs g a b) || (hZ nm rs n M g (aE rs g a b) || (eE nm rs n M g (aE rs g a b) || (List.range ((ak nm n).length - 1)).any (bQ nm rs M (ak nm n) g (aE rs g a b))))))
noncomputable def b9 (nm : Str) (rs : List Row) (n : Nat) (M : Nat → Bool) (a b : Int) : Bool := (List.range (2 ^ rs.length - 1)).any (br nm rs n M a b)
theorem gn : ∀ N < 5, ∀ m < 15, m < 2 ^ N - 1 → (aj N ((m + 1 : Nat) : Int)).isEmpty = false := by decide +kernel
theorem nZ {n : Nat} {x : Int} : ∀ c ∈ aj n x, c < n := fun c hc => List.mem_range.mp (List.mem_filter.mp hc).1
theorem jc {n : Nat} {x : Int} : (aj n x).length ≤ n := by
 have := List.length_filter_le (fun c => nf x c) (List.range n)
 rw [List.length_range] at this
 exact this
theorem eM {l : List Nat} : aa (ones l) = l.map fun _ => vInt 1 := by unfold aa ones; rw [List.map_map]; rfl
theorem i3 {rs : List Row} {i : Nat} (h : i < rs.length) : (aP rs)[i]? = some (aQ [ae (aa (elems (bal rs i))), vInt (wt rs i)]) := by
 obtain ⟨r, hr⟩ := dc h
 unfold aP
 rw [List.getElem?_map, hr, cX hr, dK hr]; rfl
noncomputable def fU (rs : List Row) (g : List Nat) : List VP := g.map fun i => ae (aa (elems (bal rs i)))
noncomputable def dA (ws : List (List Nat)) : List VP := ws.map fun w => ae (aa w)
noncomputable def fM (rs : List Row) (ws : List (List Nat)) : List VP := (List.range rs.length).map fun i => ae (aa (dP rs ws i))
theorem jW {rs : List Row} : aP rs = (List.range rs.length).map fun i => aQ [ae (aa (elems (bal rs i))), vInt (wt rs i)] := by
 apply List.ext_getElem?
 intro i
 rcases Nat.lt_or_ge i rs.length with h | h
 ·rw [i3 h, List.getElem?_map, List.getElem?_range h]; rfl
 ·rw [List.getElem?_eq_none (by unfold aP; rw [List.length_map]; exact h), List.getElem?_eq_none (by simpa using h)]
theorem m8 {ws : List (List Nat)} {i : Nat} (h : i < ws.length) : (dA ws)[i]? = some (ae (aa (ws.getD i []))) := by
 unfold dA
 rw [List.getElem?_map, List.getElem?_eq_getElem h, List.getD_eq_getElem?_getD, List.getElem?_eq_getElem h]; rfl
theorem lF {rs : List Row} {ws : List (List Nat)} {i : Nat} (h : i < rs.length) : (fM rs ws)[i]? = some (ae (aa (dP rs ws i))) := by
 unfold fM
 rw [List.getElem?_map, List.getElem?_range h]; rfl
theorem EvT.row {rs : List Row} (hz : rs.length ≤ 4) {e f : Expr} {i : Nat} {p : Pos} (he : EvT G k C σ e (ae (aP rs))) (hf : EvT G k C σ f (vInt i)) (hi : i < rs.length) (hs : iF f := by intro _ _ _; with_unfolding_all rfl) : EvT G k C σ (.Subscript e f p) (aQ [ae (aa (elems (bal rs i))), vInt (Mine.wt rs i)]) :=
 .sub he hf (.list Z33 Z42 (by rw [Int.toNat_natCast]; exact i3 hi) hs)
theorem gm (hG : G.Main) {nm : Str} {n : Nat} {rs : List Row} {M : Nat → Bool} {qa qb : Int} (hn : n ≤ 4) (hz : rs.length ≤ 4) (ha : 0 < qa) (ha2 : qa ≤ 1000) (hb1 : 0 ≤ qb) (hb2 : qb ≤ 1000) : FnT G 30 (.ref 491) [vStr nm, ae (aP rs), vInt n, ae (aa (elems M)), vInt qa, vInt qb] [] [] (vBool (b9 nm rs n M qa qb)) := by
 refine FnT.fn hG (pn := ["name", "rows", "n", "members", "a", "b"]) (bv := [vStr nm, ae (aP rs), vInt n, ae (aa (elems M)), vInt qa, vInt qb]) (σ0 := [("name", some (vStr nm)), ("rows", some (ae (aP rs))), ("n", some (vInt n)), ("members", some (ae (aa (elems M)))), ("a", some (vInt qa)), ("b", some (vInt qb)), ("wishes", none), ("part", none), ("likes", none), ("mask", none), ("group", none), ("ballots", none), ("seats", none), ("agreed", none), ("joint", none), ("hits", none), ("gets", none)]) rfl (by kernel_rfl) rfl rfl ⟨rfl, rfl, rfl, rfl, rfl, rfl⟩ (bindG r0 r0 (rR fun _ _ _ _ _ _ s w => BindsTo.of_eq rfl) rfl) (by decide) ?_
 intro s₀ F₀ st
 have hM := ax M
 have p4 : 2 ^ n ≤ 16 := Nat.pow_le_pow_right Z5 hn
 have p1 : 1 ≤ 2 ^ n := Nat.one_le_two_pow
 have r4 : 2 ^ rs.length ≤ 16 := Nat.pow_le_pow_right Z5 hz
 have r1 : 1 ≤ 2 ^ rs.length := Nat.one_le_two_pow
 have hwl : (ak nm n).length ≤ 16 := by
  unfold ak
  split
  ·rw [List.length_map, List.length_range]; assumption
  ·simp
 have hwm : ∀ w ∈ (ak nm n), w.length ≤ 4 := fun w hw => by
  unfold ak at hw
  split at hw
  ·refine ag (List.mem_map.mp hw) fun p _ re0 => ?_; subst re0
   exact Nat.le_trans jc hn
  ·cases hw
 refine .assign (v := ae []) (.list .nil) (st _ (by simp)) U6 ?_
 refine .ifJ [("name", some (vStr nm)), ("rows", some (ae (aP rs))), ("n", some (vInt n)), ("members", some (ae (aa (elems M)))), ("a", some (vInt qa)), ("b", some (vInt qb)), ("wishes", some (ae (dA (ak nm n)))), ("part", none), ("likes", none), ("mask", none), ("group", none), ("ballots", none), ("seats", none), ("agreed", none), ("joint", none), ("hits", none), ("gets", none)] (b := ((nm == ("fjr" : Str)) || (nm == ("core" : Str)))) (.or_ (.cmp (.var (.head _)) .str .eqS .bool) fun _ => .cmp (.var (.head _)) .str .eqS .bool) (fun e => ?_) (fun e => ?_) ?_
 ·refine .assign (v := ae (dA (ak nm n))) (.as (.aJ (Sp := (· = (List.range (2 ^ n)).map fun (i : Nat) => vInt (i : Int))) (res := (List.range (2 ^ n)).map fun (p : Nat) => ae (aa (aj n p))) (cl := [("n", s₀.heap.objs.size + 1 + 1)]) (σc := [("part", none), ("n", some (vInt n))])
   (.of (.call (v := b6 0 ((2 ^ n : Nat) : Int)) (.b hG) .cf .ty (af.cons (.as (.bin .int (.var M2) (.pow Z33 Z40 (by decide))) (congrArg vInt (by rw [Int.toNat_natCast]; simp))) .nil) .nil) (bA Z1) (Nat.le_refl _)) (.of ["part"] ["n"] [vInt n]) ?_) ?_) (st _ (by simp)) U6 (.jn (.refl _))
  ·rintro _ rfl
   refine .all (by simp; exact Z1) fun s0 F0 xa xg st' p hp => ⟨_, .name (st' _ (by decide)) .here, .drop (.refl _), ?_⟩
   refine .aJ (Sp := (· = (List.range n).map fun (i : Nat) => vInt (i : Int))) (cl := [("part", s0.heap.objs.size + 1)]) (σc := [("cand", none), ("part", some (vInt p))]) (.of (.call (.b hG) .cf .ty (af.cons (.var M1) .nil) .nil) (bA Z1) (Nat.le_refl _)) (.of ["cand"] ["part"] [vInt p]) ?_
   rintro _ rfl
   exact .sel (by simp; exact Z1) fun s1 F1 xa1 xg1 st1 c hc => ⟨_, .name (.inl rfl) .here, .drop (.refl _), .bit (.var M1) (.var (.head _)), .var (.head _)⟩
  ·unfold dA ak
   rw [if_pos e, List.map_map]; rfl
 ·refine .jn ?_
  have e2 : ae (dA (ak nm n)) = ae [] := by unfold dA ak; rw [if_neg (by rw [e]; decide)]; rfl
  rw [e2]
  exact .refl _
 refine .assign (v := ae (fM rs (ak nm n))) (.aJ (Sp := (· = aP rs)) (cl := [("wishes", s₀.heap.objs.size + 1 + 1 + 1 + 1)]) (σc := [("ballot", none), ("weight", none), ("wishes", some (ae (dA (ak nm n))))]) (.of (.var M1) .list (Nat.le_refl _)) (.of ["ballot", "weight"] ["wishes"] [ae (dA (ak nm n))]) ?_) (st _ (by simp)) U8 ?_
 ·rintro _ rfl
  rw [jW]
  refine .all (by simp; exact Z1) fun s0 F0 xa xg st' i hi => ⟨_, .pair (.name (st' _ (by decide)) .here) (.name (.inl rfl) U1), .drop (.drop (.refl _)), ?_⟩
  have e : aa (dP rs (ak nm n) i) = (ak nm n).map fun w => vInt (i5 (bal rs i) w) := by unfold aa dP; rw [List.map_map]; rfl
  rw [e]
  refine .aJ (Sp := (· = dA (ak nm n))) (cl := [("ballot", s0.heap.objs.size + 1)]) (σc := [("wish", none), ("ballot", some (ae (aa (elems (bal rs i)))))]) (.of (.var M2) .list (Nat.le_refl _)) (.of ["wish"] ["ballot"] [ae (aa (elems (bal rs i)))]) ?_
  rintro _ rfl
  refine .all Z1 fun s1 F1 xa1 xg1 st1 w hw => ⟨_, .name (.inl rfl) .here, .drop (.refl _), ?_⟩
  have hw4 := hwm w hw
  refine .as (.call (.b hG) (.aN (l := (w.filter fun c => (elems (bal rs i)).contains c).map fun (c : Nat) => vInt c) ?_) .bi (af.cons (.aJ (Sp := (· = aa w)) (cl := [("ballot", s0.heap.objs.size + 1)]) (σc := [("cand", none), ("ballot", some (ae (aa (elems (bal rs i)))))]) (.of (.var (.head _)) .list (Nat.le_refl _)) (.of ["cand"] ["ballot"] [ae (aa (elems (bal rs i)))]) ?_) .nil) .nil) ?_
  ·have := List.length_filter_le (fun c => (elems (bal rs i)).contains c) w
   rw [List.length_map]; exact Z18
  ·rintro _ rfl
   exact .sel Z1 fun s2 F2 xa2 xg2 st2 c hc => ⟨_, .name (.inl rfl) .here, .drop (.refl _), .cmp (.var (.head _)) (.var M1) .inN .bool, .var (.head _)⟩
  ·rw [List.length_map]; rfl
 refine .cH (Sp := (· = aG 1 (2 ^ rs.length - 1))) (.of (.call (v := b6 1 ((2 ^ rs.length : Nat) : Int)) (.b hG) .eC .ty (af.cons .int (af.cons (.as (.bin .int (.call (.b hG) (.aN (l := aP rs) (by unfold aP; rw [List.length_map]; exact Z2)) .bi (af.cons (.var M1) .nil) .nil) (.pow Z33 (by unfold aP; rw [List.length_map]; exact Z40) (by decide))) (congrArg vInt (by unfold aP; rw [List.length_map, Int.toNat_natCast]; simp))) .nil)) .nil) (cm tI Z60 Z61) (Nat.le_refl _)) ?_
 rintro _ rfl
 refine ⟨fun i => (List.range i).any (br nm rs n M qa qb) = false, fun _ => [("name", some (vStr nm)), ("rows", some (ae (aP rs))), ("n", some (vInt n)), ("members", some (ae (aa (elems M)))), ("a", some (vInt qa)), ("b", some (vInt qb)), ("wishes", some (ae (dA (ak nm n)))), ("part", none), ("likes", some (ae (fM rs (ak nm n)))), ("mask", none), ("group", none), ("ballots", none), ("seats", none), ("agreed", none), ("joint", none), ("hits", none), ("gets", none)], fun _ => [], rfl, .refl _, rfl, ?_, ?_⟩
 ·intro d v hv hp
  obtain ⟨hd4, rfl⟩ := bh hv
  rw [show (1 : Int) + d = ((d + 1 : Nat) : Int) from Z30]
  have hg4 : (aj rs.length ((d + 1 : Nat) : Int)).length ≤ 4 := Nat.le_trans jc hz
  have hgm : ∀ i ∈ (aj rs.length ((d + 1 : Nat) : Int)), i < rs.length := nZ
  have hgn : (aj rs.length ((d + 1 : Nat) : Int)) ≠ [] := fun e => by
   have := gn rs.length Z27 d Z95 hd4
   rw [e] at this; cases this
  have hhl : (bp rs M (aj rs.length ((d + 1 : Nat) : Int))).length = (aj rs.length ((d + 1 : Nat) : Int)).length := by unfold bp; rw [List.length_map]
  have hhn : bp rs M (aj rs.length ((d + 1 : Nat) : Int)) ≠ [] := fun e => hgn (by have := hhl; rw [e] at this; exact List.length_eq_zero_iff.mp this.symm)
  refine ⟨_, .name (st _ (by simp)) U9, fun Xf Yf => ?_⟩
  refine .c8 (Sp := (· = (List.range rs.length).map fun (i : Nat) => vInt (i : Int))) (res := aa (aj rs.length ((d + 1 : Nat) : Int))) (cl := [("mask", s₀.heap.objs.size + 1 + 1 + 1 + 1 + 1 + 1 + 1)]) (σc := [("i", none), ("mask", some (vInt ((d + 1 : Nat) : Int)))])
   (.of (.call (v := b6 0 ((rs.length : Nat) : Int)) (.b hG) .cf .ty (af.cons (.as (.call (.b hG) (.aN (l := aP rs) (by unfold aP; rw [List.length_map]; exact Z2)) .bi (af.cons (.var M1) .nil) .nil) (by unfold aP; rw [List.length_map])) .nil) .nil) (bA Z1) (Nat.le_refl _)) (.of ["i"] ["mask"] [vInt ((d + 1 : Nat) : Int)]) ?_ (.inl rfl) U10 ?_
  ·rintro _ rfl
   exact .sel (by simp; exact Z1) fun s1 F1 xa1 xg1 st1 c hc => ⟨_, .name (.inl rfl) .here, .drop (.refl _), .bit (.var M1) (.var (.head _)), .var (.head _)⟩
  refine .assign (v := ae (fU rs (aj rs.length ((d + 1 : Nat) : Int)))) (.aJ (Sp := (· = aa (aj rs.length ((d + 1 : Nat) : Int)))) (cl := [("rows", s₀.heap.objs.size + 1)]) (σc := [("i", none), ("rows", some (ae (aP rs)))]) (.of (.var M10) .list (Nat.le_refl _)) (.of ["i"] ["rows"] [ae (aP rs)]) ?_) (st _ (by simp)) U11 ?_
  ·rintro _ rfl
   exact .all Z1 fun s1 F1 xa1 xg1 st1 i hi => ⟨_, .name (.inl rfl) .here, .drop (.refl _), .sub (.row hz (.var M1) (.var (.head _)) (hgm i hi)) (.as .int rfl) (.tup (i := 0) (show 0 < 2 by decide) rfl (show 2 < 2 ^ 62 by decide))⟩
  refine .assign (v := vInt (aE rs (aj rs.length ((d + 1 : Nat) : Int)) qa qb)) (.bin (.bin (.call (.b hG) (.sy (p := (aj rs.length ((d + 1 : Nat) : Int)).map (wt rs))) .bi (af.cons (.as (.aJ (Sp := (· = aa (aj rs.length ((d + 1 : Nat) : Int)))) (res := (aj rs.length ((d + 1 : Nat) : Int)).map fun i => vInt (wt rs i)) (cl := [("rows", s₀.heap.objs.size + 1)]) (σc := [("i", none), ("rows", some (ae (aP rs)))]) (.of (.var M10) .list (Nat.le_refl _)) (.of ["i"] ["rows"] [ae (aP rs)]) ?_) ?_) .nil) .nil) (.var M5) (.mul (cS Z54 Z50))) (.var M4) (.div iT (PyProof.noPylong_small (by omega)))) (.inl rfl) U12 ?_
  ·rintro _ rfl
   exact .all Z1 fun s1 F1 xa1 xg1 st1 i hi => ⟨_, .name (.inl rfl) .here, .drop (.refl _), .sub (.row hz (.var M1) (.var (.head _)) (hgm i hi)) (.as .int rfl) (.tup (i := 1) (show 1 < 2 by decide) rfl (show 2 < 2 ^ 62 by decide))⟩
  ·rw [List.map_map]; rfl
  refine .if_ (b := decide (0 < (aE rs (aj rs.length ((d + 1 : Nat) : Int)) qa qb))) (.cmp (.var M12) .int .gt .bool) (fun hs => ?_) (fun hs => ?_)
  rotate_left
  ·have hm : br nm rs n M qa qb d = false := by unfold br; simp only [hs, Bool.false_and]
   exact .th (.aW (aA hp hm) (K9 (D4 (.refl _))) rfl rfl)
  refine .c8 (Sp := (· = (List.range n).map fun (i : Nat) => vInt (i : Int))) (res := aa (bf rs n (aj rs.length ((d + 1 : Nat) : Int)))) (cl := [("ballots", s₀.heap.objs.size + 1 + 1 + 1 + 1 + 1 + 1 + 1 + 1)]) (σc := [("cand", none), ("ballots", some (ae (fU rs (aj rs.length ((d + 1 : Nat) : Int)))))])
   (.of (.call (.b hG) .cf .ty (af.cons (.var M2) .nil) .nil) (bA Z1) (Nat.le_refl _)) (.of ["cand"] ["ballots"] [ae (fU rs (aj rs.length ((d + 1 : Nat) : Int)))]) ?_ (.inl rfl) U13 ?_
  ·rintro _ rfl
   refine .sel (by simp; exact Z1) fun s1 F1 xa1 xg1 st1 c hc => ⟨_, .name (st1 _ (by decide)) .here, .drop (.refl _), ?_, .var (.head _)⟩
   refine .cmp (va := ae (aa (ones ((aj rs.length ((d + 1 : Nat) : Int)).filter fun i => !(elems (bal rs i)).contains c)))) (vb := ae (aa [])) (.as (.aJ (Sp := (· = fU rs (aj rs.length ((d + 1 : Nat) : Int)))) (res := ((aj rs.length ((d + 1 : Nat) : Int)).filter fun i => !(elems (bal rs i)).contains c).map fun _ => vInt 1) (cl := [("cand", s1.heap.objs.size + 1)]) (σc := [("ballot", none), ("cand", some (vInt c))]) (.of (.var M1) .list (Nat.le_refl _)) (.of ["ballot"] ["cand"] [vInt c]) ?_) (congrArg ae eM.symm)) (.list .nil) .eqN .bool
   rintro _ rfl
   exact .sel Z1 fun s2 F2 xa2 xg2 st2 i hi => ⟨_, .name (.inl rfl) .here, .drop (.refl _), .cmp (.var M1) (.var (.head _)) .oK .bool, .int⟩
  refine .c8 (Sp := (· = aa (elems M))) (res := aa (b8 rs M (aj rs.length ((d + 1 : Nat) : Int)))) (cl := [("ballots", s₀.heap.objs.size + 1 + 1 + 1 + 1 + 1 + 1 + 1 + 1)]) (σc := [("cand", none), ("ballots", some (ae (fU rs (aj rs.length ((d + 1 : Nat) : Int)))))])
   (.of (.var M3) .list (Nat.le_refl _)) (.of ["cand"] ["ballots"] [ae (fU rs (aj rs.length ((d + 1 : Nat) : Int)))]) ?_ (.inl rfl) U14 ?_
  ·rintro _ rfl
   refine .sel Z1 fun s1 F1 xa1 xg1 st1 c hc => ⟨_, .name (st1 _ (by decide)) .here, .drop (.refl _), ?_, .var (.head _)⟩
   refine .cmp (va := ae (aa (ones ((aj rs.length ((d + 1 : Nat) : Int)).filter fun i => (elems (bal rs i)).contains c)))) (vb := ae (aa [])) (.as (.aJ (Sp := (· = fU rs (aj rs.length ((d + 1 : Nat) : Int)))) (res := ((aj rs.length ((d + 1 : Nat) : Int)).filter fun i => (elems (bal rs i)).contains c).map fun _ => vInt 1) (cl := [("cand", s1.heap.objs.size + 1)]) (σc := [("ballot", none), ("cand", some (vInt c))]) (.of (.var M1) .list (Nat.le_refl _)) (.of ["ballot"] ["cand"] [vInt c]) ?_) (congrArg ae eM.symm)) (.list .nil) .neN .bool
   rintro _ rfl
   exact .sel Z1 fun s2 F2 xa2 xg2 st2 i hi => ⟨_, .name (.inl rfl) .here, .drop (.refl _), .cmp (.var M1) (.var (.head _)) .inN .bool, .int⟩
  refine .assign (v := ae (aa (bp rs M (aj rs.length ((d + 1 : Nat) : Int))))) (.aJ (Sp := (· = fU rs (aj rs.length ((d + 1 : Nat) : Int)))) (cl := [("members", s₀.heap.objs.size + 1 + 1 + 1)]) (σc := [("ballot", none), ("members", some (ae (aa (elems M))))]) (.of (.var M11) .list (Nat.le_refl _)) (.of ["ballot"] ["members"] [ae (aa (elems M))]) ?_) (st _ (by simp)) U15 ?_
  ·rintro _ rfl
   have e : aa (bp rs M (aj rs.length ((d + 1 : Nat) : Int))) = (aj rs.length ((d + 1 : Nat) : Int)).map fun i => vInt (kh (elems M) (bal rs i)) := by unfold aa bp; rw [List.map_map]; rfl
   rw [e]
   refine .all Z1 fun s0 F0 xa xg st i hi => ⟨_, .name (.inl rfl) .here, .drop (.refl _), ?_⟩
   have hr4 := ax (bal rs i)
   refine .as (.call (.b hG) (.aN (l := ((elems (bal rs i)).filter fun c => (elems M).contains c).map fun (c : Nat) => vInt c) ?_) .bi (af.cons (.aJ (Sp := (· = aa (elems (bal rs i)))) (cl := [("members", s₀.heap.objs.size + 1 + 1 + 1)]) (σc := [("cand", none), ("members", some (ae (aa (elems M))))]) (.of (.var (.head _)) .list (Nat.le_refl _)) (.of ["cand"] ["members"] [ae (aa (elems M))]) ?_) .nil) .nil) ?_
   ·have := List.length_filter_le (fun c => (elems M).contains c) (elems (bal rs i))
    rw [List.length_map]; exact Z18
   ·rintro _ rfl
    exact .sel Z1 fun s1 F1 xa1 xg1 st1 c hc => ⟨_, .name (.inl rfl) .here, .drop (.refl _), .cmp (.var (.head _)) (.var M1) .inN .bool, .var (.head _)⟩
   ·rw [List.length_map]; rfl
  have hal : (bf rs n (aj rs.length ((d + 1 : Nat) : Int))).length ≤ 4 := by
   have := List.length_filter_le (fun c => decide (ones ((aj rs.length ((d + 1 : Nat) : Int)).filter fun i => !(elems (bal rs i)).contains c) = [])) (List.range n)
   rw [List.length_range] at this
   unfold bf; exact Z11
  have hjl : (b8 rs M (aj rs.length ((d + 1 : Nat) : Int))).length ≤ 4 := by
   have := List.length_filter_le (fun c => !decide (ones ((aj rs.length ((d + 1 : Nat) : Int)).filter fun i => (elems (bal rs i)).contains c) = [])) (elems M)
   unfold b8; exact Z11
  refine .if_ (b := jrB nm rs n M (aj rs.length ((d + 1 : Nat) : Int))) (.sJ (.cmp (.var (.head _)) .str .eqS .bool) (fun _ => .cmp (vb := ae (aa [])) (.var M13) (.list .nil) .neN .bool) (fun _ _ => .cmp (vb := ae (aa [])) (.var M14) (.list .nil) .eqN .bool)) (fun h1 => ?_) (fun h1 => .th ?_)
  ·have hm : br nm rs n M qa qb d = true := by unfold br; simp only [hs, h1, Bool.true_or, Bool.or_true, Bool.and_self]
   refine .ret (.as .bool ?_) fun y s h => .of h
   unfold b9
   rw [aF hd4 hm]
  refine .if_ (b := ib nm rs n M (aj rs.length ((d + 1 : Nat) : Int)) (aE rs (aj rs.length ((d + 1 : Nat) : Int)) qa qb)) (.j3 (.cmp (.var (.head _)) .str .eqS .bool) (fun _ => .as (.cmp (.call (.b hG) (.aN (by rw [aI]; exact Z2)) .bi (af.cons (.var M14) .nil) .nil) (.call (.b hG) .min2 .bi (af.cons (.var M12) (af.cons (.call (.b hG) (.aN (by rw [aI]; exact Z2)) .bi (af.cons (.var M13) .nil) .nil) .nil)) .nil) .lt .bool) (by rw [aI, aI]))) (fun h2 => ?_) (fun h2 => .th ?_)
  ·have hm : br nm rs n M qa qb d = true := by unfold br; simp only [hs, h2, Bool.true_or, Bool.or_true, Bool.and_self]
   refine .ret (.as .bool ?_) fun y s h => .of h
   unfold b9
   rw [aF hd4 hm]
  refine .if_ (b := hZ nm rs n M (aj rs.length ((d + 1 : Nat) : Int)) (aE rs (aj rs.length ((d + 1 : Nat) : Int)) qa qb)) (.j3 (.cmp (.var (.head _)) .str .eqS .bool) (fun _ => .as (.cmp (.call (.b hG) (.c9 hhn) .bi (af.cons (.var M15) .nil) .nil) (.call (.b hG) .min2 .bi (af.cons (.var M12) (af.cons (.call (.b hG) (.aN (by rw [aI]; exact Z2)) .bi (af.cons (.var M13) .nil) .nil) .nil)) .nil) .lt .bool) (by rw [aI]))) (fun h3 => ?_) (fun h3 => .th ?_)
  ·have hm : br nm rs n M qa qb d = true := by unfold br; simp only [hs, h3, Bool.true_or, Bool.or_true, Bool.and_self]
   refine .ret (.as .bool ?_) fun y s h => .of h
   unfold b9
   rw [aF hd4 hm]
  refine .if_ (b := eE nm rs n M (aj rs.length ((d + 1 : Nat) : Int)) (aE rs (aj rs.length ((d + 1 : Nat) : Int)) qa qb)) (.sJ (.cmp (.var (.head _)) .str .eqS .bool) (fun _ => .cmp (.call (.b hG) (.c9 hhn) .bi (af.cons (.var M15) .nil) .nil) (.var M12) .lt .bool) (fun _ _ => .cmp (va := ae (aa ((bf rs n (aj rs.length ((d + 1 : Nat) : Int))).filter fun c => !(elems M).contains c))) (vb := ae (aa [])) (.aJ (Sp := (· = aa (bf rs n (aj rs.length ((d + 1 : Nat) : Int))))) (cl := [("members", s₀.heap.objs.size + 1 + 1 + 1)]) (σc := [("cand", none), ("members", some (ae (aa (elems M))))]) (.of (.var M13) .list (Nat.le_refl _)) (.of ["cand"] ["members"] [ae (aa (elems M))]) ?_) (.list .nil) .neN .bool)) (fun h4 => ?_) (fun h4 => .th ?_)
  ·rintro _ rfl
   exact .sel Z1 fun s1 F1 xa1 xg1 st1 c hc => ⟨_, .name (.inl rfl) .here, .drop (.refl _), .cmp (.var (.head _)) (.var M1) .oK .bool, .var (.head _)⟩
  ·have hm : br nm rs n M qa qb d = true := by unfold br; simp only [hs, h4, Bool.true_or, Bool.or_true, Bool.and_self]
   refine .ret (.as .bool ?_) fun y s h => .of h
   unfold b9
   rw [aF hd4 hm]
  have hwl2 : (dA (ak nm n)).length = (ak nm n).length := by unfold dA; rw [List.length_map]
  refine .cH (Sp := (· = aG 1 ((ak nm n).length - 1))) (.of (.call (v := b6 1 (((ak nm n).length : Nat) : Int)) (.b hG) .eC .ty (af.cons .int (af.cons (.as (.call (.b hG) (.aN (by rw [hwl2]; exact Z2)) .bi (af.cons (.var M6) .nil) .nil) (by rw [hwl2])) .nil)) .nil) (cm (by omega) Z60 Z61) (Nat.le_refl _)) ?_
  rintro _ rfl
  refine ⟨fun i => (List.range i).any (bQ nm rs M (ak nm n) (aj rs.length ((d + 1 : Nat) : Int)) (aE rs (aj rs.length ((d + 1 : Nat) : Int)) qa qb)) = false, fun _ => [("name", some (vStr nm)), ("rows", some (ae (aP rs))), ("n", some (vInt n)), ("members", some (ae (aa (elems M)))), ("a", some (vInt qa)), ("b", some (vInt qb)), ("wishes", some (ae (dA (ak nm n)))), ("part", none), ("likes", some (ae (fM rs (ak nm n)))), ("mask", some (vInt ((d + 1 : Nat) : Int))), ("group", some (ae (aa (aj rs.length ((d + 1 : Nat) : Int))))), ("ballots", some (ae (fU rs (aj rs.length ((d + 1 : Nat) : Int))))), ("seats", some (vInt (aE rs (aj rs.length ((d + 1 : Nat) : Int)) qa qb))), ("agreed", some (ae (aa (bf rs n (aj rs.length ((d + 1 : Nat) : Int)))))), ("joint", some (ae (aa (b8 rs M (aj rs.length ((d + 1 : Nat) : Int)))))), ("hits", some (ae (aa (bp rs M (aj rs.length ((d + 1 : Nat) : Int)))))), ("gets", none)], fun _ => Xf ++ [], rfl, .refl _, rfl, ?_, ?_⟩
  ·intro e v hv hq
   obtain ⟨he, rfl⟩ := bh hv
   have he2 : e + 1 < (ak nm n).length := by omega
   have hwe : ((ak nm n).getD (e + 1) []).length ≤ 4 := by
    rw [List.getD_eq_getElem?_getD, List.getElem?_eq_getElem he2]
    exact hwm _ (List.getElem_mem he2)
   have hll : ∀ i, (dP rs (ak nm n) i).length = (ak nm n).length := fun i => by unfold dP; rw [List.length_map]
   have hgl : (di rs (ak nm n) (aj rs.length ((d + 1 : Nat) : Int)) (e + 1)).length = (aj rs.length ((d + 1 : Nat) : Int)).length := by unfold di; rw [List.length_map]
   have hggn : di rs (ak nm n) (aj rs.length ((d + 1 : Nat) : Int)) (e + 1) ≠ [] := fun e' => hgn (by have := hgl; rw [e'] at this; exact List.length_eq_zero_iff.mp this.symm)
   rw [show (1 : Int) + e = ((e + 1 : Nat) : Int) from Z30]
   refine ⟨_, .name (st _ (by simp)) U7, fun Xg Yg => ?_⟩
   refine .if_ (b := decide ((((ak nm n).getD (e + 1) []).length : Int) ≤ (aE rs (aj rs.length ((d + 1 : Nat) : Int)) qa qb))) (.as (.cmp (.call (.b hG) (.aN (l := aa ((ak nm n).getD (e + 1) [])) (by rw [aI]; exact Z2)) .bi (af.cons (.sub (.var M6) (.var M7) (.list Z33 Z42 (by rw [Int.toNat_natCast]; exact m8 he2))) .nil) .nil) (.var M12) .le .bool) (by rw [aI])) (fun h5 => ?_) (fun h5 => ?_)
   rotate_left
   ·have hpb : bQ nm rs M (ak nm n) (aj rs.length ((d + 1 : Nat) : Int)) (aE rs (aj rs.length ((d + 1 : Nat) : Int)) qa qb) e = false := by unfold bQ; rw [h5]; rfl
    exact .th (.aW (aA hq hpb) (K7 (.drop (.refl _))) rfl rfl)
   refine .assign (v := ae (aa (di rs (ak nm n) (aj rs.length ((d + 1 : Nat) : Int)) (e + 1)))) (.aJ (Sp := (· = aa (aj rs.length ((d + 1 : Nat) : Int)))) (cl := [("part", s₀.heap.objs.size + 1 + 1 + 1 + 1 + 1), ("likes", s₀.heap.objs.size + 1 + 1 + 1 + 1 + 1 + 1)]) (σc := [("i", none), ("likes", some (ae (fM rs (ak nm n)))), ("part", some (vInt ((e + 1 : Nat) : Int)))]) (.of (.var M10) .list (Nat.le_refl _)) (.of ["i"] ["likes", "part"] [ae (fM rs (ak nm n)), vInt ((e + 1 : Nat) : Int)]) ?_) (st _ (by simp)) U16 ?_
   ·rintro _ rfl
    have e' : aa (di rs (ak nm n) (aj rs.length ((d + 1 : Nat) : Int)) (e + 1)) = (aj rs.length ((d + 1 : Nat) : Int)).map fun i => vInt ((dP rs (ak nm n) i).getD (e + 1) 0 : Nat) := by unfold aa di; rw [List.map_map]; rfl
    rw [e']
    exact .all (Nat.le_trans hg4 (by decide)) fun s1 F1 xa1 xg1 st1 i hi => ⟨_, .name (.inl rfl) .here, .drop (.refl _), .sub (.sub (.var M1) (.var (.head _)) (.list (v := ae (aa (dP rs (ak nm n) i))) Z33 (by have := hgm i hi; exact Z42) (by rw [Int.toNat_natCast]; exact lF (hgm i hi)))) (.var M2) (.nat (by rw [hll]; exact he2) (by rw [hll]; exact Z1))⟩
   refine .if_ (b := nr nm rs M (ak nm n) (aj rs.length ((d + 1 : Nat) : Int)) (e + 1)) (.j3 (.cmp (.var (.head _)) .str .eqS .bool) (fun _ => .cmp (.call (.b hG) (.jK hggn) .bi (af.cons (.var M16) .nil) .nil) (.call (.b hG) (.c9 hhn) .bi (af.cons (.var M15) .nil) .nil) .gt .bool)) (fun h6 => ?_) (fun h6 => .th ?_)
   ·have hpb : bQ nm rs M (ak nm n) (aj rs.length ((d + 1 : Nat) : Int)) (aE rs (aj rs.length ((d + 1 : Nat) : Int)) qa qb) e = true := by unfold bQ; rw [h5, h6]; rfl
    have hm : br nm rs n M qa qb d = true := by unfold br; simp only [hs, aF he hpb, Bool.or_true, Bool.and_self]
    refine .ret (.as .bool ?_) fun y s h => .of h
    unfold b9
    rw [aF hd4 hm]
   refine .if_ (b := jX nm rs M (ak nm n) (aj rs.length ((d + 1 : Nat) : Int)) (e + 1)) (.j3 (.cmp (.var (.head _)) .str .eqS .bool) (fun _ => .cmp (va := ae (aa (ones ((List.range (aj rs.length ((d + 1 : Nat) : Int)).length).filter (lY (di rs (ak nm n) (aj rs.length ((d + 1 : Nat) : Int)) (e + 1)) (bp rs M (aj rs.length ((d + 1 : Nat) : Int)))))))) (vb := ae (aa [])) (.as (.aJ (Sp := (· = (List.range (aj rs.length ((d + 1 : Nat) : Int)).length).map fun (i : Nat) => vInt (i : Int))) (res := ((List.range (aj rs.length ((d + 1 : Nat) : Int)).length).filter (lY (di rs (ak nm n) (aj rs.length ((d + 1 : Nat) : Int)) (e + 1)) (bp rs M (aj rs.length ((d + 1 : Nat) : Int))))).map fun _ => vInt 1) (cl := [("hits", s₀.heap.objs.size + 1 + 1 + 1 + 1 + 1 + 1 + 1 + 1 + 1), ("gets", s₀.heap.objs.size + 1 + 1 + 1 + 1 + 1 + 1 + 1 + 1 + 1 + 1)]) (σc := [("i", none), ("gets", some (ae (aa (di rs (ak nm n) (aj rs.length ((d + 1 : Nat) : Int)) (e + 1))))), ("hits", some (ae (aa (bp rs M (aj rs.length ((d + 1 : Nat) : Int))))))])
     (.of (.call (v := b6 0 (((aj rs.length ((d + 1 : Nat) : Int)).length : Nat) : Int)) (.b hG) .cf .ty (af.cons (.as (.call (.b hG) (.aN (by rw [aI, hgl]; exact Z2)) .bi (af.cons (.var M16) .nil) .nil) (by rw [aI, hgl])) .nil) .nil) (bA Z1) (Nat.le_refl _)) (.of ["i"] ["gets", "hits"] [ae (aa (di rs (ak nm n) (aj rs.length ((d + 1 : Nat) : Int)) (e + 1))), ae (aa (bp rs M (aj rs.length ((d + 1 : Nat) : Int))))]) ?_) (congrArg ae eM.symm)) (.list .nil) .eqN .bool)) (fun h7 => ?_) (fun h7 => ?_)
   ·rintro _ rfl
    refine .sel (by rw [List.length_range]; exact Nat.le_trans hg4 (by decide)) fun s1 F1 xa1 xg1 st1 i hi => ⟨_, .name (.inl rfl) .here, .drop (.refl _), ?_, .int⟩
    have hi' := List.mem_range.mp hi
    exact .cmp (.sub (.var M1) (.var (.head _)) (.nat (by rw [hgl]; exact hi') (by rw [hgl]; exact Z1))) (.sub (.var M2) (.var (.head _)) (.nat (by rw [hhl]; exact hi') (by rw [hhl]; exact Z1))) .le .bool
   ·have hpb : bQ nm rs M (ak nm n) (aj rs.length ((d + 1 : Nat) : Int)) (aE rs (aj rs.length ((d + 1 : Nat) : Int)) qa qb) e = true := by unfold bQ; rw [h5, h7, Bool.or_true]; rfl
    have hm : br nm rs n M qa qb d = true := by unfold br; simp only [hs, aF he hpb, Bool.or_true, Bool.and_self]
    refine .ret (.as .bool ?_) fun y s h => .of h
    unfold b9
    rw [aF hd4 hm]
   ·have hpb : bQ nm rs M (ak nm n) (aj rs.length ((d + 1 : Nat) : Int)) (aE rs (aj rs.length ((d + 1 : Nat) : Int)) qa qb) e = false := by unfold bQ; rw [h6, h7]; simp
    exact .th (.th (.aW (aA hq hpb) (K7 (.drop (K8 (.drop (.refl _))))) rfl rfl))
  ·intro hq
   rw [bk] at hq
   have hm : br nm rs n M qa qb d = false := by unfold br; simp only [h1, h2, h3, h4, hq, Bool.or_self, Bool.and_false]
   exact .th (.aW (aA hp hm) (K9 (D7 (.refl _))) rfl rfl)
 ·intro hp
  rw [bk] at hp
  refine .ret (.as .bool ?_) fun y s h => .of h
  unfold b9
  rw [hp]
end
noncomputable def bR (n : Nat) (x : Int) : Nat → Bool := fun c => decide (c < n) && nf x c
noncomputable def wOf (nm : Str) (x : Int) : Int := if ((nm == ("pjr" : Str)) || (nm == ("ejr" : Str))) = true then 1 else 1 + ((x.natAbs : Int).fdiv 16).fmod 4
noncomputable def rowsOf (nm : Str) (n : Nat) (ys : List Int) : List Row := ys.map fun x => (bR n x, wOf nm x)
noncomputable def bq (ns : List Int) : List Int := if (ns.drop 2).isEmpty = true then [1] else ns.drop 2
noncomputable def nOf (size : Int) : Nat := [4, 3, 4, 2].getD (size.fmod 4).toNat 0
noncomputable def placeOf (size : Int) : Int := 1 + (size.fdiv 4).fmod (2 ^ nOf size - 1)
structure bC (n : Nat) (rs : List Row) (M : Nat → Bool) : Prop where
 n2 : 2 ≤ n
 n4 : n ≤ 4
 ne : rs ≠ []
 hz : rs.length ≤ 4
 w1 : ∀ r ∈ rs, 1 ≤ r.2
 w4 : ∀ r ∈ rs, r.2 ≤ 4
 hb : ∀ r ∈ rs, ∀ c, r.1 c = true → c < n
 hM : ∀ c, M c = true → c < n
 m0 : ∃ c, M c = true
noncomputable def nj : Prop := ∀ (n : Nat) (rs : List Row) (M : Nat → Bool), bC n rs M → fN rs M n = j9 rs n M
noncomputable def ny : Prop := ∀ (p n : Nat) (rs : List Row) (M : Nat → Bool) (q : Num) (a b : Int), p < 6 → bC n rs M → (p = 1 ∨ p = 2 → ∀ r ∈ rs, r.2 = 1) → 0 < q.n → 0 < q.d → 0 < a → 0 < b → q.n * b = a * q.d → kc p rs M q n = b9 (ai p) rs n M a b
theorem fK {n : Nat} {x : Int} (h : n ≤ 4) : elems (bR n x) = aj n x := by
 unfold elems bR aj
 have : n = 0 ∨ n = 1 ∨ n = 2 ∨ n = 3 ∨ n = 4 := Z73
 rcases this with rfl | rfl | rfl | rfl | rfl <;> simp [List.range_succ, List.filter_append, List.filter_cons]
theorem jr {n : Nat} {x : Int} {c : Nat} (h : bR n x c = true) : c < n := by
 unfold bR at h
 rw [Bool.and_eq_true] at h
 simpa using h.1
theorem kL (size : Int) : 2 ≤ nOf size ∧ nOf size ≤ 4 := by
 unfold nOf
 have h1 := Int.fmod_nonneg_of_pos size (show (0 : Int) < 4 by decide)
 have h2 := Int.fmod_lt_of_pos size (show (0 : Int) < 4 by decide)
 generalize size.fmod 4 = m at *
 have : m = 0 ∨ m = 1 ∨ m = 2 ∨ m = 3 := by omega
 rcases this with rfl | rfl | rfl | rfl <;> decide
theorem pQ {n : Nat} (h2 : 2 ≤ n) (h4 : n ≤ 4) : (3 : Int) ≤ 2 ^ n - 1 ∧ (2 : Int) ^ n - 1 ≤ 15 ∧ ((2 ^ n : Nat) : Int) = 2 ^ n := by
 have : n = 2 ∨ n = 3 ∨ n = 4 := by omega
 rcases this with rfl | rfl | rfl <;> decide
theorem pF (size : Int) : ∃ m : Nat, placeOf size = ((m + 1 : Nat) : Int) ∧ m < 2 ^ nOf size - 1 := by
 obtain ⟨h2, h4⟩ := kL size
 refine bx (pQ h2 h4) fun p1 p2 p3 => ?_
 have a1 := Int.fmod_nonneg_of_pos (size.fdiv 4) (show (0 : Int) < 2 ^ nOf size - 1 by omega)
 have a2 := Int.fmod_lt_of_pos (size.fdiv 4) (show (0 : Int) < 2 ^ nOf size - 1 by omega)
 unfold placeOf
 generalize (size.fdiv 4).fmod (2 ^ nOf size - 1) = f at *
 refine ⟨f.toNat, by omega, ?_⟩
 have : ((f.toNat : Nat) : Int) < ((2 ^ nOf size : Nat) : Int) - 1 := by omega
 omega
theorem ox (nm : Str) (x : Int) : 1 ≤ wOf nm x ∧ wOf nm x ≤ 4 := by
 unfold wOf
 split
 ·exact ⟨by decide, by decide⟩
 ·have a1 := Int.fmod_nonneg_of_pos ((x.natAbs : Int).fdiv 16) (show (0 : Int) < 4 by decide)
  have a2 := Int.fmod_lt_of_pos ((x.natAbs : Int).fdiv 16) (show (0 : Int) < 4 by decide)
  omega
theorem ql {ns : List Int} (h : ns.length ≤ 6) : bq ns ≠ [] ∧ (bq ns).length ≤ 4 := by
 unfold bq
 split
 ·exact ⟨by simp, by decide⟩
 ·rename_i q
  refine ⟨fun e => q (by rw [e]; rfl), by rw [List.length_drop]; omega⟩
theorem tM {nm : Str} {size : Int} {ns : List Int} (h : ns.length ≤ 6) : bC (nOf size) (rowsOf nm (nOf size) (bq ns)) (bR (nOf size) (placeOf size)) where
 n2 := (kL size).1
 n4 := (kL size).2
 ne := fun e => (ql h).1 (List.map_eq_nil_iff.mp e)
 hz := by unfold rowsOf; rw [List.length_map]; exact (ql h).2
 w1 := fun r hr => by
  refine ag (List.mem_map.mp hr) fun x _ re0 => ?_; subst re0
  exact (ox nm x).1
 w4 := fun r hr => by
  refine ag (List.mem_map.mp hr) fun x _ re0 => ?_; subst re0
  exact (ox nm x).2
 hb := fun r hr c hc => by
  refine ag (List.mem_map.mp hr) fun x _ re0 => ?_; subst re0
  exact jr hc
 hM := fun c hc => jr hc
 m0 := by
  refine ag (pF size) fun m e hm => ?_
  obtain ⟨h2, h4⟩ := kL size
  have hp : 2 ^ nOf size ≤ 16 := Nat.pow_le_pow_right Z5 h4
  have := gn (nOf size) Z27 m Z95 hm
  rw [← e, ← fK h4] at this
  cases q : elems (bR (nOf size) (placeOf size)) with
  | nil => rw [q] at this; cases this
  | cons c r =>
   refine ⟨c, (ay.mp ?_).2⟩
   rw [q]; exact .head _
theorem um {rs : List Row} (hz : rs.length ≤ 4) (hne : rs ≠ []) (w1 : ∀ r ∈ rs, 1 ≤ r.2) (w4 : ∀ r ∈ rs, r.2 ≤ 4) : 1 ≤ tw rs ∧ tw rs ≤ 16 := by
 unfold tw
 match rs, hz, hne with
 | [a], _, _ => have := w1 a (by simp); have := w4 a (by simp); simp; exact Z62
 | [a, b], _, _ => have := w1 a (by simp); have := w4 a (by simp); have := w1 b (by simp); have := w4 b (by simp); simp; omega
 | [a, b, c], _, _ => have := w1 a (by simp); have := w4 a (by simp); have := w1 b (by simp); have := w4 b (by simp); have := w1 c (by simp); have := w4 c (by simp); simp; omega
 | [a, b, c, d], _, _ => have := w1 a (by simp); have := w4 a (by simp); have := w1 b (by simp); have := w4 b (by simp); have := w1 c (by simp); have := w4 c (by simp); have := w1 d (by simp); have := w4 d (by simp); simp; omega
 | a :: b :: c :: d :: e :: r, h, _ => simp at h
theorem bC.tw {n : Nat} {rs : List Row} {M : Nat → Bool} (h : bC n rs M) : 1 ≤ tw rs ∧ tw rs ≤ 16 := um h.hz h.ne h.w1 h.w4
theorem bC.mem {n : Nat} {rs : List Row} {M : Nat → Bool} (h : bC n rs M) : 0 < (elems M).length ∧ (elems M).length ≤ 4 ∧ ∀ c ∈ elems M, c < n := by
 refine ⟨?_, ax M, fun c hc => h.hM c (ay.mp hc).2⟩
 obtain ⟨c, hc⟩ := h.m0
 exact List.length_pos_of_mem (ay.mpr ⟨Nat.lt_of_lt_of_le (h.hM c hc) h.n4, hc⟩)
theorem nI {t : Int} {q : Num} (t0 : 0 ≤ t) (t1 : t ≤ 16) (n0 : 0 < q.n) (d0 : 0 < q.d) (d1 : q.d ≤ 16) : aH t q ≤ 900 := by
 unfold aH
 have a0 : 0 ≤ t * q.d := Int.mul_nonneg t0 (Int.le_of_lt d0)
 have a1 : t * q.d ≤ 16 * 16 := Int.mul_le_mul t1 d1 (Int.le_of_lt d0) Z59
 rw [Int.fdiv_eq_ediv_of_nonneg _ (Int.le_of_lt n0)]
 have := Int.ediv_le_self q.n a0
 omega
theorem giv {n : Nat} {rs : List Row} {M : Nat → Bool} {oq : Option Num} (h : bC n rs M) (hq : ∀ q, oq = some q → 0 < q.n ∧ 0 < q.d ∧ q.n ≤ 16 ∧ q.d ≤ 16) : Giv rs M oq n ∧ 0 < (cq rs M oq).n ∧ 0 < (cq rs M oq).d := by
 obtain ⟨t1, t2⟩ := h.tw
 refine bx (h.mem) fun m0 m4 hM => ?_
 have key : 0 < (cq rs M oq).n ∧ 0 < (cq rs M oq).d ∧ (cq rs M oq).n ≤ 16 ∧ (cq rs M oq).d ≤ 16 := by
  cases oq with
  | none =>
   refine bY (eY (u := Mine.tw rs) (l := ((elems M).length : Int)) (B := 16) Z36 Z54 (by assumption) Z40) fun a b c d => ?_
   exact ⟨a, c, b, d⟩
  | some q => exact hq q rfl
 refine bY (key) fun k1 k2 k3 k4 => ?_
 exact ⟨⟨⟨⟨k1, k2, Z50, Z50⟩, h.hz, Z54, Z50, nI Z54 t2 k1 k2 k4⟩, h.n4, hM, m0⟩, k1, k2⟩
noncomputable def il (G : Gd) (k : Nat) (f : Value) (pos : List VP) (kn : List Str) (kv : List VP) (v : VP) : Prop :=
 ∀ A s ys zs F, AOk k A → Wd G s → (∀ a o, F a = some o → s.heap.get? a = some o ∧ ¬ G.gb a) → Rel2 F pos ys → Rel2 F kv zs → codeAny G.M A (.call f ⟨ys, kn.zip zs⟩) (fun r s' => ∃ y F', r = .ok (.ret y) ∧ v.p F' y ∧ Wd G s') s
theorem il.of_body {a : Addr} {oc : Value} {od : Option Addr} {osl : Array (Option Value)} {fd : FuncData} {stmts : List Stmt} {pos kv bv : List VP} {kn pn : List Str} {v : VP} {σ0 : Sto}
  (hK : G.K.lookup a = some ⟨oc, od, .func fd, osl⟩) (hcd : codeIn G.K fd.code fd.qualname = true) (hbody : fd.body = .stmts stmts)
  (hg : fd.globals = mainGlobals ∧ fd.builtins = builtinsNs) (hcl : fd.closure = []) (hk : fd.scope.kind = .function) (hco : fd.scope.isCoroutine = false) (hgen : fd.scope.isGenerator = false)
  (hbind : ∀ (ys zs : List Value) (s : Shared), ys.length = pos.length → zs.length = kv.length → Wd G s → ∃ bs : List Value, BindsTo s fd ⟨ys, kn.zip zs⟩ (pn.zip bs) ∧ bs.length = pn.length ∧ ∀ F, Rel2 F pos ys → Rel2 F kv zs → Rel2 F bv bs)
  (hnd : (fd.scope.names.map (·.1)).Nodup) (hpn : pn.Nodup) (hpl : ∀ x ∈ pn, x ∈ av fd.scope) (hσn : σ0.map (·.1) = av fd.scope) (hσ : ∀ x v, (x, some v) ∈ σ0 → (x, v) ∈ pn.zip bv)
  (body : ∀ (s₀ : Shared) (F₀ : Fz), (∀ x ∈ σ0.map (·.1), Cx.st ⟨callEnvC fd s₀.heap.objs.size a, s₀, F₀, [], []⟩ x) → ExT G k ⟨callEnvC fd s₀.heap.objs.size a, s₀, F₀, [], []⟩ σ0 [] [] stmts (j2 G ⟨callEnvC fd s₀.heap.objs.size a, s₀, F₀, [], []⟩ v)) :
  il G (k + 1) (.ref a) pos kn kv v := by
 intro A s ys zs F hA wd hF r1 r2
 refine cx (hbind ys zs s r1.length r2.length wd) fun bs hb hlen hbr => ?_
 have kinds : ∀ p ∈ fd.scope.names, fd.scope.names.lookup p.1 = some p.2 := fun p hp => aO hnd hp
 have locs : ∀ n, n ∈ av fd.scope → fd.scope.names.lookup n = some .local ∨ (fd.scope.names.lookup n = some .cell ∧ ((cellsFrom (s.heap.objs.size + 1) fd.scope.names []).lookup n).isSome = true) := fun n hn => by
  refine ag (List.mem_map.mp hn) fun p hp e => ?_
  have hp2 := List.mem_filter.mp hp
  have hl := kinds p hp2.1
  subst e
  rcases Bool.or_eq_true_iff.mp hp2.2 with q | q
  ·exact .inl (by rw [hl]; exact congrArg some (eq_of_beq q))
  ·have q' := eq_of_beq q
   refine .inr ⟨by rw [hl, q'], aR _ _ _ (.inl ?_)⟩
   obtain ⟨p1, p2⟩ := p
   dsimp only at q' ⊢
   subst q'
   exact hp2.1
 refine codeAny_call_function hA.room (wd.K _ _ hK) rfl hco hgen hbody (codeRec_of wd.K hcd) (hb _ _ _ _ ?_)
 rw [hcl]
 refine wpAny_newFunctionEnv_cells hk (fun p hp => ?_) fun env he s' x => ?_
 ·obtain ⟨p1, p2⟩ := p
  exact locs p1 (hpl p1 (List.of_mem_zip hp).1)
 subst he
 refine ez (x.done) fun h' tk re0 keep => ?_; subst re0
 have en := FS.gq (X0 := []) (Y0 := []) (xa := []) (xg := []) (τ' := MP.tt) wd hF (fun _ h => nomatch h) (fun _ h => nomatch h) (fun _ h => nomatch h) List.nodup_nil (fun _ h => nomatch h) List.nodup_nil hg hk hnd hpn hσn hσ (hbr F r1 r2) hlen trivial x
 have hlim : Heap.NoLimit h' := wd.lim.keeps keep
 refine ⟨hlim, codeAny_func ?_⟩
 have bd := body s F (fun n hn => by
  rw [hσn] at hn
  rcases locs n hn with q | ⟨q, q2⟩
  ·exact .inl q
  ·obtain ⟨c, hc⟩ := Option.isSome_iff_exists.mp q2
   exact .inr ⟨q, c, hc, .inl (Nat.le_of_lt (x.above n c (mem_of_lookup hc)))⟩) _ _ (hA.deeper (env := callEnvC fd s.heap.objs.size a)) en
 refine wpAny_mono bd (fun fl s'' hp => ?_) fun _ _ z => z.elim
 obtain ⟨y, σ', X', Y', rfl, hf⟩ := hp
 obtain ⟨F', m', w'⟩ := hf
 exact ⟨y, F', rfl, w'.tmp, w'.wd⟩
theorem il.fn {a : Addr} {oc : Value} {od : Option Addr} {osl : Array (Option Value)} {fd : FuncData} {stmts : List Stmt} {pos kv bv : List VP} {kn pn : List Str} {v : VP} {σ0 : Sto} (hG : G.Main)
  (hK : (KK G.w.params).lookup a = some ⟨oc, od, .func fd, osl⟩) (hcd : codeIn (KK G.w.params) fd.code fd.qualname = true) (hσ0 : σ0 = (av fd.scope).map fun n => (n, (pn.zip bv).lookup n)) (hbody : fd.body = .stmts stmts)
  (hc : fd.globals = mainGlobals ∧ fd.builtins = builtinsNs ∧ fd.closure = [] ∧ fd.scope.kind = .function ∧ fd.scope.isCoroutine = false ∧ fd.scope.isGenerator = false)
  (hbind : ∀ (ys zs : List Value) (s : Shared), ys.length = pos.length → zs.length = kv.length → Wd G s → ∃ bs : List Value, BindsTo s fd ⟨ys, kn.zip zs⟩ (pn.zip bs) ∧ bs.length = pn.length ∧ ∀ F, Rel2 F pos ys → Rel2 F kv zs → Rel2 F bv bs)
  (hnd : (fd.scope.names.map (·.1)).Nodup ∧ pn.Nodup ∧ ∀ x ∈ pn, x ∈ av fd.scope)
  (body : ∀ (s₀ : Shared) (F₀ : Fz), (∀ x ∈ σ0.map (·.1), Cx.st ⟨callEnvC fd s₀.heap.objs.size a, s₀, F₀, [], []⟩ x) → ExT G k ⟨callEnvC fd s₀.heap.objs.size a, s₀, F₀, [], []⟩ σ0 [] [] stmts (j2 G ⟨callEnvC fd s₀.heap.objs.size a, s₀, F₀, [], []⟩ v)) :
  il G (k + 1) (.ref a) pos kn kv v := by
 refine rp (hc) fun c1 c2 c3 c4 c5 c6 => ?_
 refine bx (hnd) fun n1 n2 n3 => ?_
 refine il.of_body (by rw [hG.K]; exact hK) (by rw [hG.K]; exact hcd) hbody ⟨c1, c2⟩ c3 c4 c5 c6 hbind n1 n2 n3 ?_ ?_ body
 ·rw [hσ0, List.map_map]
  exact List.map_id _
 ·intro x u h
  rw [hσ0] at h
  refine ag (List.mem_map.mp h) fun n _ e => ?_
  have e1 : n = x := congrArg Prod.fst e
  have e2 : (pn.zip bv).lookup n = some u := congrArg Prod.snd e
  subst e1
  exact cz e2
section
set_option maxHeartbeats 8000000
theorem d6.as {v : VP} {b c : Bool} (h : d6 G k v b) (e : b = c) : d6 G k v c := e ▸ h
theorem nW {n : Nat} {rs : List Row} {b : Addr} : ∀ (F : Fz) o y, F b = some o → (aC (az G rs)).p F o → (aL 445 (bg n (vIs (.ref b)))).p F y → (ah G n rs).p F y := by
 rintro F o y hb ⟨ys, m, rfl, r⟩ ⟨x, d, es, k, rfl, e1, e2, e3⟩
 refine ⟨x, d, es, k, rfl, e1, e2, ?_⟩
 unfold bg at e3 ⊢
 cases e3 with
 | cons a1 a2 e3 => cases e3 with
  | cons b1 b2 e3 => cases e3 with
   | cons c1 c2 e3 =>
    cases e3
    have c1 : _ = Value.ref b := c1
    subst c1
    exact .cons a1 a2 (.cons b1 b2 (.cons ⟨b, ys, m, rfl, hb, r⟩ c2 .nil))
theorem m6 {p : Nat} (h : p < 7) : ([vStr "jr", vStr "pjr", vStr "ejr", vStr "ejr+", vStr "fjr", vStr "core", vStr "pareto"] : List VP)[p]? = some (vStr (ai p)) := by
 have : p = 0 ∨ p = 1 ∨ p = 2 ∨ p = 3 ∨ p = 4 ∨ p = 5 ∨ p = 6 := Z72
 rcases this with rfl | rfl | rfl | rfl | rfl | rfl | rfl <;> rfl
theorem oy {p : Nat} (h : p < 7) : (ai p == ("pareto" : Str)) = decide (p = 6) := by
 have : p = 0 ∨ p = 1 ∨ p = 2 ∨ p = 3 ∨ p = 4 ∨ p = 5 ∨ p = 6 := Z72
 rcases this with rfl | rfl | rfl | rfl | rfl | rfl | rfl <;> decide
theorem gr {p : Nat} {n : Nat} {ys : List Int} (h : p = 1 ∨ p = 2) : ∀ r ∈ rowsOf (ai p) n ys, r.2 = 1 := by
 intro r hr
 refine ag (List.mem_map.mp hr) fun x _ re0 => ?_; subst re0
 show wOf _ _ = 1
 unfold wOf
 rcases h with rfl | rfl
 ·rw [if_pos (by decide)]
 ·rw [if_pos (by decide)]
theorem tq {σ : Sto} {head : Int} (hm : (("head" : Str), some (vInt head)) ∈ σ) (m : Int) (p1 p2 p3 p4 p5 p6 p7 : Pos) (k1 k2 k3 : Nat) : TsT G k C σ (.Compare (.BinOp (.BinOp (.Name "head" p1) .FloorDiv (.Constant (.int 7) k1 p2) p3) .Mod (.Constant (.int 3) k2 p4) p5) [.Eq] [.Constant (.int m) k3 p6] p7) ((head.fdiv 7).fmod 3 == m) :=
 .cmp (.bin (.bin (.var hm) .int (.div (by decide) (PyProof.noPylong_small (by decide)))) .int (.mod (by decide))) .int .eq .bool
theorem qH (hG : G.Main) (plP : nj) (plQ : ny) {xs : List Int} (hxs : xs.length ≤ 1000) : il G 90 (.ref 501) [ae (xs.map vInt)] [] [] (vBool true) := by
 refine il.fn hG (pn := ["script"]) (bv := [ae (xs.map vInt)]) (σ0 := [("script", some (ae (xs.map vInt))), ("numbers", none), ("head", none), ("size", none), ("name", none), ("n", none), ("place", none), ("members", none), ("made", none), ("rows", none), ("number", none), ("weight", none), ("a", none), ("b", none), ("quota", none), ("told", none)]) rfl (by kernel_rfl) rfl rfl ⟨rfl, rfl, rfl, rfl, rfl, rfl⟩ (bind1 fun y s w => BindsTo.of_eq rfl) (by decide) ?_
 intro s₀ F₀ st
 obtain ⟨ns, hns⟩ : ∃ ns : List Int, ns = xs.take 6 := ⟨_, rfl⟩
 have h6 : ns.length ≤ 6 := by rw [hns, List.length_take]; omega
 have e1 : ae ((xs.map vInt).take 6) = ae (ns.map vInt) := by rw [hns, List.map_take]
 obtain ⟨head, hhead⟩ : ∃ head : Int, head = ns.getD 0 0 := ⟨_, rfl⟩
 obtain ⟨size, hsize⟩ : ∃ size : Int, size = ns.getD 1 0 := ⟨_, rfl⟩
 have lk := tM (nm := (ai (head.fmod 7).toNat)) (size := size) h6
 obtain ⟨n2, n4⟩ := kL size
 refine bx (pQ n2 n4) fun p3 p15 pc => ?_
 refine bx (lk.mem) fun m0 m4 hM => ?_
 obtain ⟨t1, t16⟩ := lk.tw
 have f0 := Int.fmod_nonneg_of_pos head (show (0 : Int) < 7 by decide)
 have f1 := Int.fmod_lt_of_pos head (show (0 : Int) < 7 by decide)
 have hp7 : (head.fmod 7).toNat < 7 := Z65
 have g0 := Int.fmod_nonneg_of_pos size (show (0 : Int) < 4 by decide)
 have g1 := Int.fmod_lt_of_pos size (show (0 : Int) < 4 by decide)
 refine .assign (.as (.take (b := 6) (.var (.head _)) .int (by rw [List.length_map]; exact hxs)) e1) (.inl rfl) U1 ?_
 refine .assign (v := vInt head) (.ifx (c := !ns.isEmpty) (.as (.val (.var M1) (.list (by rw [List.length_map]; exact Z2))) (by cases ns <;> rfl)) (fun hc => .sub (.var M1) .int (.list (v := vInt head) (by decide) (by decide) ?_)) (fun hc => .as .int ?_)) (.inl rfl) U2 ?_
 ·cases ns with
  | nil => cases hc
  | cons x r => rw [hhead]; rfl
 ·cases ns with
  | nil => rw [hhead]; rfl
  | cons x r => cases hc
 refine .assign (v := vInt size) (.ifx (c := decide (1 < (ns.length : Int))) (.as (.cmp (.call (.b hG) (.aN (l := ns.map vInt) (by rw [List.length_map]; exact Z2)) .bi (af.cons (.var M1) .nil) .nil) .int .gt .bool) (by rw [List.length_map])) (fun hc => .sub (.var M1) .int (.list (v := vInt size) (by decide) (by decide) ?_)) (fun hc => .as .int ?_)) (.inl rfl) U3 ?_
 ·match ns, hc with
  | x :: y :: r, _ => rw [hsize]; rfl
  | [x], hc => simp at hc
  | [], hc => simp at hc
 ·match ns, hc with
  | x :: y :: r, hc => simp at hc; omega
  | [x], hc => rw [hsize]; rfl
  | [], hc => rw [hsize]; rfl
 refine .assign (v := vStr (ai (head.fmod 7).toNat)) (.sub (.nE (af.cons .str (af.cons .str (af.cons .str (af.cons .str (af.cons .str (af.cons .str (af.cons .str .nil)))))))) (.bin (.var M2) .int (.mod (by decide))) (.list (v := vStr (ai (head.fmod 7).toNat)) f0 Z52 (m6 hp7))) (.inl rfl) U4 ?_
 refine .assign (v := vInt (nOf size)) (.sub (.nE (af.cons .int (af.cons .int (af.cons .int (af.cons .int .nil))))) (.bin (.var M3) .int (.mod (by decide))) (.list (v := vInt (nOf size)) g0 Z52 ?_)) (.inl rfl) U5 ?_
 ·unfold nOf
  generalize size.fmod 4 = m at *
  have : m = 0 ∨ m = 1 ∨ m = 2 ∨ m = 3 := Z74
  rcases this with rfl | rfl | rfl | rfl <;> rfl
 refine .assign (v := vInt (placeOf size)) (.as (.bin .int (.bin (.bin (.var M3) .int (.div (by decide) (PyProof.noPylong_small (by decide)))) (.bin (.bin .int (.var M5) (.pow Z33 Z40 (by decide))) .int .sub) (.mod (by rw [Int.toNat_natCast]; omega))) .add) (by unfold placeOf; rw [Int.toNat_natCast])) (st _ (by simp)) U6 ?_
 refine .c8 (Sp := (· = (List.range (nOf size)).map fun (i : Nat) => vInt (i : Int))) (res := aa (elems (bR (nOf size) (placeOf size)))) (cl := [("place", s₀.heap.objs.size + 1)]) (σc := [("cand", none), ("place", some (vInt (placeOf size)))])
  (.of (.call (.b hG) .cf .ty (af.cons (.var M5) .nil) .nil) (bA Z1) (Nat.le_refl _)) (.of ["cand"] ["place"] [vInt (placeOf size)]) ?_ (.inl rfl) U7 ?_
 ·rintro _ rfl
  rw [fK n4]
  exact .sel (by simp; exact Z1) fun s1 F1 xa1 xg1 st1 c hc => ⟨_, .name (.inl rfl) .here, .drop (.refl _), .bit (.var M1) (.var (.head _)), .var (.head _)⟩
 refine .mJ (P := aC []) (v := fun b => aL 445 (bg (nOf size) (vIs (.ref b)))) ?_ (.inl rfl) (fun b => U8) fun pb => ?_
 ·intro A s hA h
  refine wpAny_Call_Name_kw (wpAny_mono (EvT.g (k := 89) (v := .ref 445) hG rfl (by kernel_rfl) (by decide) A _ _ _ s hA h) (fun y s₁ h₁ => ?_) iz)
  obtain rfl : y = .ref 445 := h₁.take fun F z => z.2
  refine bH (first := []) (kv := []) (kn := []) (pos := [vInt (nOf size)]) (fun ys zs s₂ h₂ => ?_) hG.kp (af.cons (.var M5) .nil) KwT.nil rfl rfl rfl (.inr ⟨_, _, rfl⟩) hA h₁
  obtain rfl : zs = [] := h₂.take fun F z => z.2.none
  exact wpAny_mono (jR hG Z7 n4 (hA.le (by decide)) h₂ fun F z => z.1.2) (fun r s₃ h₃ => let ⟨b, h₃⟩ := h₃; ⟨b, h₃.wk fun F z => z.2⟩) iz
 refine .nList (.inl rfl) (fun a => U9) fun pr => ?_
 refine .cH (Sp := (· = (bq ns).map vInt)) (.of (.orR (c := !(ns.drop 2).isEmpty) (va := ae ((ns.drop 2).map vInt)) (.as (.drop (a := 2) (.var M1) .int (by rw [List.length_map]; exact Z1)) (by rw [List.map_drop])) (d6.as (.list (by rw [List.length_map, List.length_drop]; omega)) (by cases ns.drop 2 <;> rfl)) (fun hc => ?_) (fun hc => ?_)) .list (Nat.le_refl _)) ?_
 ·unfold bq
  rw [if_neg (by simpa using hc)]
 ·have : bq ns = [1] := by unfold bq; rw [if_pos (by simpa using hc)]
  rw [this]
  exact .nE (af.cons .int .nil)
 rintro _ rfl
 have hyl := (ql h6).2
 refine ⟨fun _ => True, fun i => [("script", some (ae (xs.map vInt))), ("numbers", some (ae (ns.map vInt))), ("head", some (vInt head)), ("size", some (vInt size)), ("name", some (vStr (ai (head.fmod 7).toNat))), ("n", some (vInt (nOf size))), ("place", some (vInt (placeOf size))), ("members", some (ae (aa (elems (bR (nOf size) (placeOf size)))))), ("made", some (aL 445 (bg (nOf size) (vIs (.ref pb))))), ("rows", some (vIs (.ref pr))), ("number", none), ("weight", none), ("a", none), ("b", none), ("quota", none), ("told", none)], fun i => (pr, aC (aP (rowsOf (ai (head.fmod 7).toNat) (nOf size) ((bq ns).take i)))) :: (pb, aC (az G (rowsOf (ai (head.fmod 7).toNat) (nOf size) ((bq ns).take i)))) :: [], trivial, .refl _, rfl, ?_, ?_⟩
 ·intro i v hv _
  refine ag (cZ hv) fun x hx re0 => ?_; subst re0
  obtain ⟨w1, w4⟩ := ox (ai (head.fmod 7).toNat) x
  have hil : i < 4 := by have := (List.getElem?_eq_some_iff.mp hx).1; exact Z12
  have hS : ∀ c ∈ elems (bR (nOf size) x), c < (nOf size) := fun c hc => jr (ay.mp hc).2
  refine ⟨_, .name (st _ (by simp)) U10, fun Xf Yf => ?_⟩
  refine .assign (v := vInt (wOf (ai (head.fmod 7).toNat) x)) (.ifx (c := (((ai (head.fmod 7).toNat) == ("pjr" : Str)) || ((ai (head.fmod 7).toNat) == ("ejr" : Str)))) (.or_ (.cmp (.var M4) .str .eqS .bool) fun _ => .cmp (.var M4) .str .eqS .bool) (fun hc => .as .int (by unfold wOf; rw [if_pos hc])) (fun hc => .as (.bin .int (.bin (.bin (.call (.b hG) .abs .bi (af.cons (.var M10) .nil) .nil) .int (.div (by decide) (PyProof.noPylong_small (by decide)))) .int (.mod (by decide))) .add) (by unfold wOf; rw [if_neg (by rw [hc]; decide)]))) (.inl rfl) U11 ?_
  refine .own (X₁ := Xf) (X₂ := [(pb, aC (az G (rowsOf (ai (head.fmod 7).toNat) (nOf size) ((bq ns).take i))))]) (dt.append (l := aP (rowsOf (ai (head.fmod 7).toNat) (nOf size) ((bq ns).take i))) (v := lA (bR (nOf size) x, wOf (ai (head.fmod 7).toNat) x)) (by unfold aP rowsOf; rw [List.length_map, List.length_map, List.length_take]; exact Z67)) M9 (.d7 (.cons (.aJ (Sp := (· = (List.range (nOf size)).map fun (i : Nat) => vInt (i : Int))) (cl := [("number", s₀.heap.objs.size + 1 + 1)]) (σc := [("cand", none), ("number", some (vInt x))]) (.of (.call (.b hG) .cf .ty (af.cons (.var M5) .nil) .nil) (bA Z1) (Nat.le_refl _)) (.of ["cand"] ["number"] [vInt x]) ?_) (.cons (.var M11) .nil))) ?_
  ·rintro _ rfl
   rw [fK n4]
   exact .sel (by simp; exact Z1) fun s1 F1 xa1 xg1 st1 c hc => ⟨_, .name (.inl rfl) .here, .drop (.refl _), .bit (.var M1) (.var (.head _)), .var (.head _)⟩
  refine .qC (f := .ref 372) (X' := Xf ++ (pr, aC (aP (rowsOf (ai (head.fmod 7).toNat) (nOf size) ((bq ns).take i)) ++ [lA (bR (nOf size) x, wOf (ai (head.fmod 7).toNat) x)])) :: [(pb, aC (az G (rowsOf (ai (head.fmod 7).toNat) (nOf size) ((bq ns).take i)) ++ [bu G (bR (nOf size) x) (wOf (ai (head.fmod 7).toNat) x)]))]) (pos := [bu G (bR (nOf size) x) (wOf (ai (head.fmod 7).toNat) x)]) (.var M8) (.own hG) hG.kp (.cons (.call (.g hG) ((j0 hG (bE n4 hS) (o := none) (.inl rfl) Z54 (.inl ⟨rfl, rfl, rfl⟩)).aq.le (by decide)) hG.kp (.cons (.sub (.last (l := aP (rowsOf (ai (head.fmod 7).toNat) (nOf size) ((bq ns).take i))) (v := lA (bR (nOf size) x, wOf (ai (head.fmod 7).toNat) x)) M9 (List.mem_append_right _ (.head _)) (.un .int .neg) (by unfold aP rowsOf; rw [List.length_map, List.length_map, List.length_take]; exact Z67)) (.as .int rfl) (.tup (i := 0) (show 0 < 2 by decide) rfl (show 2 < 2 ^ 62 by decide))) .nil) (.cons (.var M11) .nil)) .nil) ?_ ?_
  ·intro A s o ys τ hA h hr
   have h' := h.perm (X' := (pb, aC (az G (rowsOf (ai (head.fmod 7).toNat) (nOf size) ((bq ns).take i)))) :: (Xf ++ [(pr, aC (aP (rowsOf (ai (head.fmod 7).toNat) (nOf size) ((bq ns).take i)) ++ [lA (bR (nOf size) x, wOf (ai (head.fmod 7).toNat) x)]))])) (by
    have := List.perm_middle (a := (pb, aC (az G (rowsOf (ai (head.fmod 7).toNat) (nOf size) ((bq ns).take i))))) (l₁ := Xf ++ [(pr, aC (aP (rowsOf (ai (head.fmod 7).toNat) (nOf size) ((bq ns).take i)) ++ [lA (bR (nOf size) x, wOf (ai (head.fmod 7).toNat) x)]))]) (l₂ := [])
    simpa using this.symm)
   refine wpAny_mono (g7 hG n4 (by unfold az rowsOf; rw [List.length_map, List.length_map, List.length_take]; exact Z67) hS Z54 (hA.le (by decide)) h' fun F z => .cons (hr F z).1 (hr F z).2) (fun r s' h'' => ?_) iz
   refine (h''.perm ?_).wk fun _ _ => trivial
   have := List.perm_middle (a := (pb, aC (az G (rowsOf (ai (head.fmod 7).toNat) (nOf size) ((bq ns).take i)) ++ [bu G (bR (nOf size) x) (wOf (ai (head.fmod 7).toNat) x)]))) (l₁ := Xf ++ [(pr, aC (aP (rowsOf (ai (head.fmod 7).toNat) (nOf size) ((bq ns).take i)) ++ [lA (bR (nOf size) x, wOf (ai (head.fmod 7).toNat) x)]))]) (l₂ := [])
   simpa using this
  have er : rowsOf (ai (head.fmod 7).toNat) (nOf size) ((bq ns).take (i + 1)) = rowsOf (ai (head.fmod 7).toNat) (nOf size) ((bq ns).take i) ++ [(bR (nOf size) x, wOf (ai (head.fmod 7).toNat) x)] := by
   unfold rowsOf
   rw [List.take_add_one, hx, List.map_append]; rfl
  refine .aW trivial (K10 (D2 (.refl _))) rfl ?_
  skip
  rw [er]
  unfold aP az
  rw [List.map_append, List.map_append]; rfl
 intro _
 rw [List.length_map]
 refine .qN (X₁ := []) (X₂ := [(pb, aC (az G (rowsOf (ai (head.fmod 7).toNat) (nOf size) (bq ns))))]) (a := pr) (P := aC (aP (rowsOf (ai (head.fmod 7).toNat) (nOf size) (bq ns)))) (v := ae (aP (rowsOf (ai (head.fmod 7).toNat) (nOf size) (bq ns)))) (by rw [List.take_length]; rfl) rfl M9 U9 f7 ?_
 refine .uy (X₁ := []) (X₂ := []) (a := pb) (P := aC (az G (rowsOf (ai (head.fmod 7).toNat) (nOf size) (bq ns)))) (v := ah G (nOf size) (rowsOf (ai (head.fmod 7).toNat) (nOf size) (bq ns))) rfl rfl M8 U8 nW ?_
 refine .if_ (b := decide ((head.fmod 7).toNat = 6)) (.as (.cmp (.var M4) .str .eqS .bool) (oy hp7)) (fun hb => ?_) (fun hb => .th ?_)
 ·have h6' : (head.fmod 7).toNat = 6 := by simpa using hb
  have en : vStr (ai (head.fmod 7).toNat) = vStr "pareto" := by rw [h6']; rfl
  refine .ret (.as (.cmp (.call (.g hG) ((lK hG n4 hM).aq.le (by decide)) hG.kp (af.cons (.as (.var M4) en) (af.cons (.var M8) (af.cons (.var M7) .nil))) (.cons .str .nil)) (.un (.call (.g hG) ((oC hG n4 lk.hz).aq.le (by decide)) hG.kp (af.cons (.var M9) (af.cons (.var M5) (af.cons (.var M7) .nil))) .nil) (.iQ .bool)) .eqB) (congrArg vBool ?_)) fun y s h => .of h
  rw [plP (nOf size) (rowsOf (ai (head.fmod 7).toNat) (nOf size) (bq ns)) (bR (nOf size) (placeOf size)) lk]
  exact beq_self_eq_true _
 have hp6 : (head.fmod 7).toNat < 6 := by
  have : (head.fmod 7).toNat ≠ 6 := by simpa using hb
  omega
 refine .assign (v := vInt (tw (rowsOf (ai (head.fmod 7).toNat) (nOf size) (bq ns)))) (.call (.b hG) (.sy (p := (rowsOf (ai (head.fmod 7).toNat) (nOf size) (bq ns)).map (·.2))) .bi (af.cons (.as (.aJ (Sp := (· = aP (rowsOf (ai (head.fmod 7).toNat) (nOf size) (bq ns)))) (res := (rowsOf (ai (head.fmod 7).toNat) (nOf size) (bq ns)).map fun r => vInt r.2) (cl := []) (σc := [("ballot", none), ("weight", none)]) (.of (.var M9) .list (Nat.le_refl _)) (.of ["ballot", "weight"] [] []) ?_) (by rw [List.map_map]; rfl)) .nil) .nil) (.inl rfl) U12 ?_
 ·rintro _ rfl
  exact .all (by have := lk.hz; exact Z1) fun s1 F1 xa1 xg1 st1 r hr => ⟨_, .pair (.name (.inl rfl) .here) (.name (.inl rfl) U1), .drop (.drop (.refl _)), .var M1⟩
 refine .assign (v := vInt (elems (bR (nOf size) (placeOf size))).length) (.as (.call (.b hG) (.aN (by rw [aI]; exact Z2)) .bi (af.cons (.var M7) .nil) .nil) (by rw [aI])) (.inl rfl) U13 ?_
 refine .assign .none_ (.inl rfl) U14 ?_
 have q0 := Int.fmod_nonneg_of_pos (head.fdiv 7) (show (0 : Int) < 3 by decide)
 have q1 := Int.fmod_lt_of_pos (head.fdiv 7) (show (0 : Int) < 3 by decide)
 have u0 := Int.fmod_nonneg_of_pos (head.fdiv 21) (show (0 : Int) < 3 by decide)
 have u1 := Int.fmod_lt_of_pos (head.fdiv 21) (show (0 : Int) < 3 by decide)
 have hcase : (head.fdiv 7).fmod 3 = 0 ∨ (head.fdiv 7).fmod 3 = 1 ∨ (head.fdiv 7).fmod 3 = 2 := Z75
 rcases hcase with hq | hq | hq
 ·refine .ifF (.as (tq M2 1 _ _ _ _ _ _ _ _ _ _) (by rw [hq]; decide)) (.th ?_)
  refine .ifF (.as (tq M2 2 _ _ _ _ _ _ _ _ _ _) (by rw [hq]; decide)) (.th ?_)
  refine bx (giv (oq := none) lk (fun q h => nomatch h)) fun gv k1 k2 => ?_
  refine .assign (.call (.g hG) ((iD hG hp6 gv).aq.le (by decide)) hG.kp (af.cons (.var M4) (af.cons (.var M8) (af.cons (.var M7) .nil))) (.cons (.var M14) (.cons .str .nil))) (.inl rfl) U15 ?_
  refine .ret (.as (.cmp (.var M15) (.un (.call (.g hG) ((gm hG (qa := tw (rowsOf (ai (head.fmod 7).toNat) (nOf size) (bq ns))) (qb := ((elems (bR (nOf size) (placeOf size))).length : Int)) n4 lk.hz Z54 Z50 Z33 Z40).aq.le (by decide)) hG.kp (af.cons (.var M4) (af.cons (.var M9) (af.cons (.var M5) (af.cons (.var M7) (af.cons (.var M12) (af.cons (.var M13) .nil)))))) .nil) (.iQ .bool)) .eqB) (congrArg vBool ?_)) fun y s h => .of h
  rw [plQ (head.fmod 7).toNat (nOf size) (rowsOf (ai (head.fmod 7).toNat) (nOf size) (bq ns)) (bR (nOf size) (placeOf size)) (cq (rowsOf (ai (head.fmod 7).toNat) (nOf size) (bq ns)) (bR (nOf size) (placeOf size)) none) (tw (rowsOf (ai (head.fmod 7).toNat) (nOf size) (bq ns))) (((elems (bR (nOf size) (placeOf size))).length : Int)) hp6 lk gr k1 k2 Z54 Z36 ?_]
  ·exact beq_self_eq_true _
  ·refine gu (red (u := tw (rowsOf (ai (head.fmod 7).toNat) (nOf size) (bq ns))) (l := ((elems (bR (nOf size) (placeOf size))).length : Int)) Z36) fun g hg e1 e2 e3 e4 => ?_
   show rN (tw (rowsOf (ai (head.fmod 7).toNat) (nOf size) (bq ns))) ((elems (bR (nOf size) (placeOf size))).length : Int) * ((elems (bR (nOf size) (placeOf size))).length : Int) = tw (rowsOf (ai (head.fmod 7).toNat) (nOf size) (bq ns)) * rD (tw (rowsOf (ai (head.fmod 7).toNat) (nOf size) (bq ns))) ((elems (bR (nOf size) (placeOf size))).length : Int)
   generalize rN (tw (rowsOf (ai (head.fmod 7).toNat) (nOf size) (bq ns))) ((elems (bR (nOf size) (placeOf size))).length : Int) = x at *
   generalize rD (tw (rowsOf (ai (head.fmod 7).toNat) (nOf size) (bq ns))) ((elems (bR (nOf size) (placeOf size))).length : Int) = y at *
   rw [e1, e2]
   simp [Int.mul_comm, Int.mul_left_comm, Int.mul_assoc]
 ·refine .ifT (.as (tq M2 1 _ _ _ _ _ _ _ _ _ _) (by rw [hq]; decide)) ?_
  refine .nX (va := vInt (1 + (head.fdiv 21).fmod 3)) (vb := vInt 1) (.d7 (.cons (.bin .int (.bin (.bin (.var M2) .int (.div (by decide) (PyProof.noPylong_small (by decide)))) .int (.mod (by decide))) .add) (.cons .int .nil))) (.inl rfl) (.inl rfl) U13 U12 ?_
  refine .assign (v := bI (some (.int (1 + (head.fdiv 21).fmod 3)))) (.var M12) (.inl rfl) U14 (.th ?_)
  refine .ifF (.as (tq M2 2 _ _ _ _ _ _ _ _ _ _) (by rw [hq]; decide)) (.th ?_)
  refine bx (giv (oq := (some (.int (1 + (head.fdiv 21).fmod 3)))) lk (fun q h => by cases h; simp only [Num.n, Num.d]; omega)) fun gv k1 k2 => ?_
  refine .assign (.call (.g hG) ((iD hG hp6 gv).aq.le (by decide)) hG.kp (af.cons (.var M4) (af.cons (.var M8) (af.cons (.var M7) .nil))) (.cons (.var M14) (.cons .str .nil))) (.inl rfl) U15 ?_
  refine .ret (.as (.cmp (.var M15) (.un (.call (.g hG) ((gm hG (qa := 1 + (head.fdiv 21).fmod 3) (qb := 1) n4 lk.hz (by omega) (by omega) Z59 Z59).aq.le (by decide)) hG.kp (af.cons (.var M4) (af.cons (.var M9) (af.cons (.var M5) (af.cons (.var M7) (af.cons (.var M12) (af.cons (.var M13) .nil)))))) .nil) (.iQ .bool)) .eqB) (congrArg vBool ?_)) fun y s h => .of h
  rw [plQ (head.fmod 7).toNat (nOf size) (rowsOf (ai (head.fmod 7).toNat) (nOf size) (bq ns)) (bR (nOf size) (placeOf size)) (cq (rowsOf (ai (head.fmod 7).toNat) (nOf size) (bq ns)) (bR (nOf size) (placeOf size)) (some (.int (1 + (head.fdiv 21).fmod 3)))) (1 + (head.fdiv 21).fmod 3) (1) hp6 lk gr k1 k2 (by omega) Z59 rfl]
  exact beq_self_eq_true _
 ·refine .ifF (.as (tq M2 1 _ _ _ _ _ _ _ _ _ _) (by rw [hq]; decide)) (.th ?_)
  refine .ifT (.as (tq M2 2 _ _ _ _ _ _ _ _ _ _) (by rw [hq]; decide)) ?_
  refine .nX (va := vInt (3 + 2 * (head.fdiv 21).fmod 3)) (vb := vInt 4) (.d7 (.cons (.bin .int (.bin .int (.bin (.bin (.var M2) .int (.div (by decide) (PyProof.noPylong_small (by decide)))) .int (.mod (by decide))) (.mul (cS Z54 Z53))) .add) (.cons .int .nil))) (.inl rfl) (.inl rfl) U13 U12 ?_
  have hf := bT hG (.int (3 + 2 * (head.fdiv 21).fmod 3)) (.int 4) (u := 3 + 2 * (head.fdiv 21).fmod 3) (l := 4) (by simp [Num.n, Num.d]) (by simp [Num.n, Num.d]) Z59 (cS (by simp [Num.d]) (by simp [Num.d])) (cS (by simp [Num.d]) (by simp [Num.d])) ⟨bz (by omega) (by omega), bz Z59 Z59⟩ (ps := [vInt (3 + 2 * (head.fdiv 21).fmod 3), vInt 4]) (.inl rfl)
  refine .assign (v := bI (some (.frac (rN (3 + 2 * (head.fdiv 21).fmod 3) 4) (rD (3 + 2 * (head.fdiv 21).fmod 3) 4)))) (.call (.g hG) (hf.aq.le (by decide)) hG.kp (af.cons (.var M12) (af.cons (.var M13) .nil)) .nil) (.inl rfl) U14 (.th ?_)
  refine bY (eY (u := 3 + 2 * (head.fdiv 21).fmod 3) (l := 4) (B := 16) Z59 (by omega) (by omega) Z59) fun z1 z2 z3 z4 => ?_
  refine bx (giv (oq := (some (.frac (rN (3 + 2 * (head.fdiv 21).fmod 3) 4) (rD (3 + 2 * (head.fdiv 21).fmod 3) 4)))) lk (fun q h => by cases h; exact ⟨z1, z3, z2, z4⟩)) fun gv k1 k2 => ?_
  refine .assign (.call (.g hG) ((iD hG hp6 gv).aq.le (by decide)) hG.kp (af.cons (.var M4) (af.cons (.var M8) (af.cons (.var M7) .nil))) (.cons (.var M14) (.cons .str .nil))) (.inl rfl) U15 ?_
  refine .ret (.as (.cmp (.var M15) (.un (.call (.g hG) ((gm hG (qa := 3 + 2 * (head.fdiv 21).fmod 3) (qb := 4) n4 lk.hz (by omega) (by omega) Z59 Z59).aq.le (by decide)) hG.kp (af.cons (.var M4) (af.cons (.var M9) (af.cons (.var M5) (af.cons (.var M7) (af.cons (.var M12) (af.cons (.var M13) .nil)))))) .nil) (.iQ .bool)) .eqB) (congrArg vBool ?_)) fun y s h => .of h
  rw [plQ (head.fmod 7).toNat (nOf size) (rowsOf (ai (head.fmod 7).toNat) (nOf size) (bq ns)) (bR (nOf size) (placeOf size)) (cq (rowsOf (ai (head.fmod 7).toNat) (nOf size) (bq ns)) (bR (nOf size) (placeOf size)) (some (.frac (rN (3 + 2 * (head.fdiv 21).fmod 3) 4) (rD (3 + 2 * (head.fdiv 21).fmod 3) 4)))) (3 + 2 * (head.fdiv 21).fmod 3) (4) hp6 lk gr k1 k2 (by omega) Z59 ?_]
  ·exact beq_self_eq_true _
  ·refine gu (red (u := 3 + 2 * (head.fdiv 21).fmod 3) (l := 4) Z59) fun g hg e1 e2 e3 e4 => ?_
   show rN (3 + 2 * (head.fdiv 21).fmod 3) 4 * 4 = (3 + 2 * (head.fdiv 21).fmod 3) * rD (3 + 2 * (head.fdiv 21).fmod 3) 4
   generalize rN (3 + 2 * (head.fdiv 21).fmod 3) 4 = x at *
   generalize rD (3 + 2 * (head.fdiv 21).fmod 3) 4 = y at *
   generalize 3 + 2 * (head.fdiv 21).fmod 3 = z at *
   rw [e1]
   conv => lhs; rhs; rw [e2]
   simp [Int.mul_comm, Int.mul_left_comm, Int.mul_assoc]
end
noncomputable def fb (a b c d : Bool) : Nat → Bool
 | 0 => a
 | 1 => b
 | 2 => c
 | 3 => d
 | _ => false
theorem fb4 (S : Nat → Bool) : elems S = elems (fb (S 0) (S 1) (S 2) (S 3)) := by rw [lS, lS]; rfl
theorem gG {P : Nat → Bool} {N : Nat} (h : N ≤ 4) : pass P N = elems fun i => decide (i < N) && P i := by
 unfold pass elems
 have : N = 0 ∨ N = 1 ∨ N = 2 ∨ N = 3 ∨ N = 4 := Z73
 rcases this with rfl | rfl | rfl | rfl | rfl <;> simp [List.range_succ, List.filter_append, List.filter_cons]
theorem mem_pass {P : Nat → Bool} {N i : Nat} : i ∈ pass P N ↔ i < N ∧ P i = true := by unfold pass; rw [List.mem_filter, List.mem_range]
theorem nN {S : Nat → Bool} {c : Nat} (h4 : c < 4) (h : S c = true) : elems S ≠ [] := List.ne_nil_of_mem (ay.mpr ⟨h4, h⟩)
theorem cI {S T : Nat → Bool} (h : ∀ c, c < 4 → S c = true → T c = true) : (elems S).length ≤ (elems T).length := by
 unfold elems
 rw [← List.countP_eq_length_filter, ← List.countP_eq_length_filter]
 exact List.countP_mono_left fun c hc => h c (List.mem_range.mp hc)
theorem sH : ∀ a b c d : Bool, ∀ N < 5, elems (fun i => decide (i < N) && fb a b c d i) ≠ [] → ∃ m, m < 2 ^ N - 1 ∧ aj N ((m + 1 : Nat) : Int) = elems (fun i => decide (i < N) && fb a b c d i) := by decide +kernel
theorem mask {P : Nat → Bool} {N : Nat} (h : N ≤ 4) (hp : pass P N ≠ []) : ∃ m, m < 2 ^ N - 1 ∧ aj N ((m + 1 : Nat) : Int) = pass P N := by
 have e : pass P N = elems (fun i => decide (i < N) && fb (P 0) (P 1) (P 2) (P 3) i) := by
  rw [gG h]
  refine bB fun c hc => ?_
  have : c = 0 ∨ c = 1 ∨ c = 2 ∨ c = 3 := Z70
  rcases this with rfl | rfl | rfl | rfl <;> rfl
 rw [e] at hp ⊢
 exact sH _ _ _ _ N Z27 hp
theorem pS {N : Nat} (h : N ≤ 4) {Q : List Nat → Bool} : ((List.range (2 ^ N - 1)).any fun d => Q (aj N ((d + 1 : Nat) : Int))) = true ↔ ∃ P, pass P N ≠ [] ∧ Q (pass P N) = true := by
 rw [List.any_eq_true]
 constructor
 ·rintro ⟨d, hd, hq⟩
  have hd := List.mem_range.mp hd
  refine ⟨fun c => nf ((d + 1 : Nat) : Int) c, fun e => ?_, hq⟩
  have hp : 2 ^ N ≤ 16 := Nat.pow_le_pow_right Z5 h
  have := gn N Z27 d Z95 hd
  have e : aj N ((d + 1 : Nat) : Int) = [] := e
  rw [e] at this
  cases this
 ·rintro ⟨P, hp, hq⟩
  refine ag (mask h hp) fun m hm e => ?_
  exact ⟨m, List.mem_range.mpr hm, by rw [e]; exact hq⟩
theorem nY {n : Nat} (h : n ≤ 4) {Q : List Nat → Bool} : ((List.range (2 ^ n - 1)).any fun d => Q (aj n ((d + 1 : Nat) : Int))) = true ↔ ∃ T : Nat → Bool, (∀ c, T c = true → c < n) ∧ elems T ≠ [] ∧ Q (elems T) = true := by
 rw [pS h]
 constructor
 ·rintro ⟨P, hp, hq⟩
  rw [gG h] at hp hq
  exact ⟨_, fun c hc => by simpa using (Bool.and_eq_true _ _ |>.mp hc).1, hp, hq⟩
 ·rintro ⟨T, hT, hp, hq⟩
  have e : pass T n = elems T := by
   rw [gG h]
   refine bB fun c _ => ?_
   cases q : T c
   ·simp
   ·simp [hT c q]
  exact ⟨T, by rw [e]; exact hp, by rw [e]; exact hq⟩
theorem tm : ∀ a b c d : Bool, ∀ size < 5, ∀ g ∈ aZ (elems (fb a b c d)) size, g = elems (aK g) ∧ g.length = size ∧ ∀ i ∈ g, fb a b c d i = true := by decide +kernel
theorem mN : ∀ a b c d a' b' c' d' : Bool, ∀ size < 5, size ≤ (elems (fb (a && a') (b && b') (c && c') (d && d'))).length → (elems (fb (a && a') (b && b') (c && c') (d && d'))).take size ∈ aZ (elems (fb a b c d)) size := by decide +kernel
theorem ko {V : List Nat} {size : Nat} (h : V.length < size) : aZ V size = [] := by
 unfold aZ b5
 rw [if_pos h]; rfl
theorem jD {S : Nat → Bool} {size : Nat} {g : List Nat} (h : g ∈ aZ (elems S) size) : ∃ T : Nat → Bool, g = elems T ∧ (∀ c, T c = true → c < 4 ∧ S c = true) ∧ (elems T).length = size := by
 rw [fb4 S] at h
 have hs : size < 5 := by
  rcases Nat.lt_or_ge size 5 with q | q
  ·exact q
  ·rw [ko (Nat.lt_of_le_of_lt (ax _) Z7)] at h; cases h
 refine bx (tm _ _ _ _ size hs g h) fun e1 e2 e3 => ?_
 refine ⟨aK g, e1, fun c hc => ?_, by rw [← e1]; exact e2⟩
 have hm : c ∈ g := by unfold aK at hc; simpa using hc
 have h4 : c < 4 := by rw [e1] at hm; exact (ay.mp hm).1
 refine ⟨h4, ?_⟩
 have := e3 c hm
 have q : c = 0 ∨ c = 1 ∨ c = 2 ∨ c = 3 := Z70
 rcases q with rfl | rfl | rfl | rfl <;> exact this
theorem lh (T : Nat → Bool) (size : Nat) : ∃ U : Nat → Bool, (elems T).take size = elems U ∧ ∀ c, U c = true → c < 4 ∧ T c = true := by
 refine ⟨aK ((elems T).take size), ?_, fun c hc => ?_⟩
 ·have key : ∀ (l r : List Nat) (_ : (l ++ r).Nodup), (l ++ r).filter (fun c => l.contains c) = l := by
   intro l r hn
   rw [List.filter_append]
   have h1 : l.filter (fun c => l.contains c) = l := List.filter_eq_self.mpr fun c hc => by simpa using hc
   have h2 : r.filter (fun c => l.contains c) = [] := List.filter_eq_nil_iff.mpr fun c hc q => by
    have q : c ∈ l := by simpa using q
    exact (List.nodup_append.mp hn).2.2 c q c hc rfl
   rw [h1, h2, List.append_nil]
  have hn : (elems T).Nodup := List.Pairwise.filter _ List.nodup_range
  have e := key ((elems T).take size) ((elems T).drop size) (by rw [List.take_append_drop]; exact hn)
  rw [List.take_append_drop] at e
  refine e.symm.trans ?_
  unfold elems aK
  rw [List.filter_filter]
  refine List.filter_congr fun c hc => ?_
  cases q : ((List.filter T (List.range 4)).take size).contains c
  ·simp
  ·have : c ∈ (List.filter T (List.range 4)).take size := by simpa using q
   have := (List.mem_filter.mp (List.mem_of_mem_take this)).2
   simp [this]
 ·have hm : c ∈ (elems T).take size := by unfold aK at hc; simpa using hc
  exact ay.mp (List.mem_of_mem_take hm)
theorem gU {S T : Nat → Bool} {size : Nat} (hT : ∀ c, T c = true → S c = true) (h : size ≤ (elems T).length) : ∃ U : Nat → Bool, (∀ c, U c = true → c < 4 ∧ T c = true) ∧ elems U ∈ aZ (elems S) size ∧ (elems U).length = size := by
 refine ag (lh T size) fun U e hU => ?_
 refine ⟨U, hU, ?_, by rw [← e, List.length_take]; exact Nat.min_eq_left (by assumption)⟩
 have eT : elems T = elems (fb (S 0 && T 0) (S 1 && T 1) (S 2 && T 2) (S 3 && T 3)) := by
  rw [fb4 T]
  have k : ∀ c, T c = (S c && T c) := fun c => by
   cases q : T c
   ·simp
   ·simp [hT c q]
  rw [← k, ← k, ← k, ← k]
 have h4 := ax T
 rw [← e, eT, fb4 S]
 exact mN _ _ _ _ _ _ _ _ size Z18 (by rw [← eT]; exact h)
theorem nV {S : Nat → Bool} {b : Nat} {g : List Nat} (h : g ∈ dm (elems S) b) : ∃ T : Nat → Bool, g = elems T ∧ (∀ c, T c = true → c < 4 ∧ S c = true) ∧ (elems T).length ≤ b := by
 unfold dm ll at h
 refine ag (List.mem_map.mp h) fun r hr re0 => ?_; subst re0
 refine ag (List.mem_flatMap.mp hr) fun size hs hr => ?_
 refine cx (jD (S := S) (size := size) (List.mem_map_of_mem (f := fun r => r.map fun p => (elems S).getD p 0) hr)) fun T e h1 h2 => ?_
 exact ⟨T, e, h1, by have := List.mem_range.mp hs; omega⟩
theorem mi {S T : Nat → Bool} {b : Nat} (h4 : ∀ c, T c = true → c < 4) (hT : ∀ c, T c = true → S c = true) (h : (elems T).length ≤ b) : elems T ∈ dm (elems S) b := by
 refine cx (gU (S := S) (T := T) (size := (elems T).length) hT (Nat.le_refl _)) fun U h1 h2 h3 => ?_
 have e : elems U = elems T := by
  refine bB fun c hc => ?_
  cases q : T c
  ·cases r : U c
   ·rfl
   ·rw [(h1 c r).2] at q; cases q
  ·cases r : U c
   ·exfalso
    have l1 : (elems U).length < (elems T).length := by
     have s : (elems U).length ≤ ((elems T).filter fun i => !decide (i = c)).length := by
      have : (elems T).filter (fun i => !decide (i = c)) = elems (fun i => !decide (i = c) && T i) := by unfold elems; rw [List.filter_filter]
      rw [this]
      refine cI fun i hi hu => ?_
      have ne : i ≠ c := fun e => by rw [e, r] at hu; cases hu
      simp [ne, (h1 i hu).2]
     have := List.length_filter_lt_length_iff_exists (p := fun i => !decide (i = c)) (l := elems T) |>.mpr ⟨c, ay.mpr ⟨hc, q⟩, by simp⟩
     exact Z13
    omega
   ·rfl
 rw [e] at h2
 unfold dm ll
 refine ag (List.mem_map.mp h2) fun r hr hr2 => ?_
 exact List.mem_map.mpr ⟨r, List.mem_flatMap.mpr ⟨_, List.mem_range.mpr Z27, hr⟩, hr2⟩
section
variable {n : Nat} {rs : List Row} {M : Nat → Bool} {a b : Int} {q : Num} {P P' : Nat → Bool} {N : Nat}
theorem oW (hw : ∀ i, i < N → 0 ≤ wt rs i) (h : ∀ i, i < N → P i = true → P' i = true) : gw rs P N ≤ gw rs P' N := by
 induction N with
 | zero => exact Int.le_refl _
 | succ N ih =>
  have := ih (fun i hi => hw i Z25) (fun i hi => h i Z25)
  have h0 := hw N Z24
  rw [cY, cY]
  cases e : P N with
  | false =>
   rw [if_neg (by decide)]
   split <;> omega
  | true => rw [h N Z24 e, if_pos rfl]; exact t9
theorem nA : gw rs (fun _ => true) rs.length = tw rs := by
 unfold gw tw pass
 rw [List.filter_eq_self.mpr fun _ _ => rfl]
 congr 1
 apply List.ext_getElem?
 intro i
 rw [List.getElem?_map, List.getElem?_map]
 rcases Nat.lt_or_ge i rs.length with h | h
 ·rw [List.getElem?_range h, List.getElem?_eq_getElem h]
  unfold wt
  rw [Option.map_some, List.getElem?_eq_getElem h]; rfl
 ·rw [List.getElem?_eq_none (by simpa using h), List.getElem?_eq_none h]; rfl
theorem bC.wt1 (h : bC n rs M) {i : Nat} (hi : i < rs.length) : 1 ≤ wt rs i := by
 obtain ⟨r, hr⟩ := dc hi
 rw [dK hr]
 exact h.w1 r (List.mem_of_getElem? hr)
theorem bC.i8 (h : bC n rs M) (hp : ∀ i, i < rs.length → P i = true → P' i = true) : gw rs P rs.length ≤ gw rs P' rs.length := oW (fun i hi => by have := h.wt1 hi; exact Z54) hp
theorem bC.nA (h : bC n rs M) : gw rs P rs.length ≤ Mine.tw rs := by
 rw [← Mine.nA]
 exact h.i8 fun _ _ _ => rfl
theorem ma (h : ∀ i, i < N → wt rs i = 1) : gw rs P N = (pass P N).length := by
 induction N with
 | zero => rfl
 | succ N ih =>
  have := ih fun i hi => h i Z25
  rw [cY, bK, List.length_append, this, h N Z24]
  split <;> simp
structure Qu (q : Num) (a b : Int) : Prop where
 n0 : 0 < q.n
 d0 : 0 < q.d
 a0 : 0 < a
 b0 : 0 < b
 e : q.n * b = a * q.d
theorem oo {k : Int} (n0 : 0 < q.n) {w : Int} : k ≤ aH w q ↔ leQ q k w = true := by
 unfold aH leQ
 rw [decide_eq_true_iff, Int.fdiv_eq_ediv_of_nonneg _ (Int.le_of_lt n0), Int.le_ediv_iff_mul_le n0, Int.mul_comm k]
theorem bw (hq : Qu q a b) {k : Int} {g : List Nat} : k ≤ aE rs g a b ↔ leQ q k (g.map (wt rs)).sum = true := by
 unfold aE leQ
 generalize (g.map (wt rs)).sum = w
 rw [decide_eq_true_iff, Int.fdiv_eq_ediv_of_nonneg _ (Int.le_of_lt hq.a0), Int.le_ediv_iff_mul_le hq.a0]
 have hd := hq.d0
 have hb := hq.b0
 have e1 : q.n * k * b = k * a * q.d := by
  rw [Int.mul_right_comm, hq.e, Int.mul_right_comm, Int.mul_comm k a]
 have e2 : w * q.d * b = w * b * q.d := Int.mul_right_comm ..
 constructor
 ·intro h
  have := Int.mul_le_mul_of_nonneg_right h (Int.le_of_lt hd)
  rw [← e1, ← e2] at this
  exact Int.le_of_mul_le_mul_right this hb
 ·intro h
  have := Int.mul_le_mul_of_nonneg_right h (Int.le_of_lt hb)
  rw [e1, e2] at this
  exact Int.le_of_mul_le_mul_right this hd
theorem mc {i x : Int} (d0 : 0 < q.d) : cc q i ≤ x ↔ leQ q i x = true := by
 unfold cc leQ
 rw [decide_eq_true_iff, Int.fdiv_eq_ediv_of_nonneg _ (Int.le_of_lt d0)]
 have : -(-(q.n * i) / q.d) ≤ x ↔ -x ≤ -(q.n * i) / q.d := by omega
 rw [this, Int.le_ediv_iff_mul_le d0, Int.neg_mul]
 omega
theorem eA (n0 : 0 < q.n) (d0 : 0 < q.d) {k k' w w' : Int} (hk : k' ≤ k) (hw : w ≤ w') (h : leQ q k w = true) : leQ q k' w' = true := by
 unfold leQ at h ⊢
 rw [decide_eq_true_iff] at h ⊢
 have h1 := Int.mul_le_mul_of_nonneg_left hk (Int.le_of_lt n0)
 have h2 := Int.mul_le_mul_of_nonneg_right hw (Int.le_of_lt d0)
 omega
theorem fX (n0 : 0 < q.n) (d0 : 0 < q.d) {k w : Int} (hk : 1 ≤ k) (h : leQ q k w = true) : 0 < w := by
 unfold leQ at h
 rw [decide_eq_true_iff] at h
 have h1 := Int.mul_le_mul_of_nonneg_left hk (Int.le_of_lt n0)
 rcases Int.lt_or_le 0 w with q | q
 ·exact q
 ·have := Int.mul_le_mul_of_nonneg_right q (Int.le_of_lt d0)
  omega
theorem kK (h : 0 < gw rs P N) : pass P N ≠ [] := fun e => by
 unfold gw at h
 rw [e] at h
 exact absurd h (Int.lt_irrefl 0)
theorem iR {c : Nat} {S : Nat → Bool} : (elems S).contains c = true ↔ c < 4 ∧ S c = true := by
 rw [List.contains_iff_mem, ay]
theorem mj {c : Nat} {S : Nat → Bool} (h4 : c < 4) : (¬(!(elems S).contains c) = true) ↔ S c = true := by
 have := iR (c := c) (S := S)
 cases e : (elems S).contains c
 ·rw [e] at this
  exact ⟨fun h => absurd rfl h, fun k => absurd (this.mpr ⟨h4, k⟩) (by decide)⟩
 ·rw [e] at this
  exact ⟨fun _ => (this.mp rfl).2, fun _ h => absurd h (by decide)⟩
theorem bC.dX (h : bC n rs M) {g : List Nat} {c : Nat} : c ∈ bf rs n g ↔ c < n ∧ ∀ i ∈ g, bal rs i c = true := by
 unfold bf
 rw [List.mem_filter, List.mem_range, decide_eq_true_iff]
 unfold ones
 rw [List.map_eq_nil_iff, List.filter_eq_nil_iff]
 refine and_congr_right fun hc => forall_congr' fun i => forall_congr' fun _ => ?_
 have := h.n4
 have h4 : c < 4 := Z12
 exact mj h4
theorem jd {g : List Nat} {c : Nat} : c ∈ b8 rs M g ↔ (c < 4 ∧ M c = true) ∧ ∃ i ∈ g, bal rs i c = true := by
 unfold b8
 rw [List.mem_filter, ay]
 refine and_congr_right fun hc => ?_
 unfold ones
 constructor
 ·intro h
  cases e : g.filter fun i => (elems (bal rs i)).contains c with
  | nil => rw [e] at h; cases h
  | cons i r =>
   have : i ∈ g.filter fun i => (elems (bal rs i)).contains c := by rw [e]; exact .head _
   obtain ⟨h1, h2⟩ := List.mem_filter.mp this
   exact ⟨i, h1, (iR.mp h2).2⟩
 ·rintro ⟨i, hi, hc2⟩
  have : i ∈ g.filter fun i => (elems (bal rs i)).contains c := List.mem_filter.mpr ⟨hi, iR.mpr ⟨hc.1, hc2⟩⟩
  cases e : g.filter fun i => (elems (bal rs i)).contains c with
  | nil => rw [e] at this; cases this
  | cons i r => rfl
theorem cW (hn : n ≤ 4) {g : List Nat} : bf rs n g = elems (eH rs n g) := by
 unfold bf elems eH
 have e : ∀ f : Nat → Bool, (List.range n).filter f = (List.range 4).filter fun c => decide (c < n) && f c := fun f => gG hn
 rw [e]
 refine List.filter_congr fun c hc => ?_
 have h4 := List.mem_range.mp hc
 congr 1
 rw [Bool.eq_iff_iff, decide_eq_true_iff]
 unfold ones
 rw [List.map_eq_nil_iff, List.filter_eq_nil_iff, List.all_eq_true]
 refine forall_congr' fun i => forall_congr' fun _ => ?_
 exact mj h4
theorem eF {g : List Nat} : b8 rs M g = elems (inS (gp rs g) M) := by
 have e : b8 rs M g = (List.range 4).filter fun c => (!decide (ones (g.filter fun i => (elems (bal rs i)).contains c) = [])) && M c := by unfold b8 elems; rw [List.filter_filter]
 rw [e]
 refine List.filter_congr fun c hc => ?_
 have h4 := List.mem_range.mp hc
 unfold inS gp
 congr 1
 rw [Bool.eq_iff_iff, List.any_eq_true]
 unfold ones
 rw [Bool.not_eq_true', decide_eq_false_iff_not, List.map_eq_nil_iff, List.filter_eq_nil_iff]
 constructor
 ·intro h
  refine Classical.byContradiction fun k => h fun i hi => ?_
  intro hc
  exact k ⟨i, hi, (iR.mp hc).2⟩
 ·rintro ⟨i, hi, hb⟩ h
  exact h i hi (iR.mpr ⟨h4, hb⟩)
theorem dn {S W : Nat → Bool} : kh (elems W) S = ao S W := by
 unfold kh ao elems
 rw [List.filter_filter]
 congr 1
 refine List.filter_congr fun c hc => ?_
 have h4 := List.mem_range.mp hc
 unfold inS
 rw [Bool.and_comm]
 congr 1
 rw [Bool.eq_iff_iff]
 exact iR.trans ⟨fun x => x.2, fun x => ⟨h4, x⟩⟩
theorem eD {S W : Nat → Bool} : i5 S (elems W) = ao S W := by
 unfold i5 ao elems
 rw [List.filter_filter]
 congr 1
 refine List.filter_congr fun c hc => ?_
 have h4 := List.mem_range.mp hc
 unfold inS
 congr 1
 rw [Bool.eq_iff_iff]
 exact iR.trans ⟨fun x => x.2, fun x => ⟨h4, x⟩⟩
theorem max_lt {g : List Nat} {k : Nat} (hg : g ≠ []) : c9 (bp rs M g) < k ↔ ∀ i ∈ g, ao (bal rs i) M < k := by
 have hne : bp rs M g ≠ [] := fun e => hg (List.map_eq_nil_iff.mp e)
 obtain ⟨h1, h2⟩ := kj hne
 constructor
 ·intro h i hi
  have := h2 _ (List.mem_map_of_mem (f := fun i => kh (elems M) (bal rs i)) hi)
  rw [dn] at this
  exact Z13
 ·intro h
  refine ag (List.mem_map.mp h1) fun i hi e => ?_
  have := h i hi
  rw [dn] at e
  omega
end
section
variable {n : Nat} {rs : List Row} {M : Nat → Bool} {a b : Int} {q : Num} {P P' : Nat → Bool} {N : Nat} {nm : Str}
noncomputable def f9 (nm : Str) (rs : List Row) (n : Nat) (M : Nat → Bool) (a b : Int) (g : List Nat) : Bool :=
 jrB nm rs n M g || (ib nm rs n M g (aE rs g a b) || (hZ nm rs n M g (aE rs g a b) || (eE nm rs n M g (aE rs g a b) || (List.range ((ak nm n).length - 1)).any (bQ nm rs M (ak nm n) g (aE rs g a b)))))
theorem cD (hz : rs.length ≤ 4) : b9 nm rs n M a b = true ↔ ∃ P, pass P rs.length ≠ [] ∧ 0 < aE rs (pass P rs.length) a b ∧ f9 nm rs n M a b (pass P rs.length) = true := by
 have := pS hz (Q := fun g => decide (0 < aE rs g a b) && f9 nm rs n M a b g)
 refine Iff.trans this ?_
 refine exists_congr fun P => and_congr_right fun _ => ?_
 rw [Bool.and_eq_true, decide_eq_true_iff]
theorem sa {g : List Nat} : f9 (ai 0) rs n M a b g = true ↔ bf rs n g ≠ [] ∧ b8 rs M g = [] := by
 unfold f9 jrB ib hZ eE ak
 rw [show (ai 0 == ("jr" : Str)) = true by decide, show (ai 0 == ("pjr" : Str)) = false by decide, show (ai 0 == ("ejr" : Str)) = false by decide, show (ai 0 == ("ejr+" : Str)) = false by decide, show (ai 0 == ("fjr" : Str)) = false by decide, show (ai 0 == ("core" : Str)) = false by decide]
 simp
theorem qW {g : List Nat} : f9 (ai 1) rs n M a b g = true ↔ ((b8 rs M g).length : Int) < min (aE rs g a b) ((bf rs n g).length : Int) := by
 unfold f9 jrB ib hZ eE ak
 rw [show (ai 1 == ("jr" : Str)) = false by decide, show (ai 1 == ("pjr" : Str)) = true by decide, show (ai 1 == ("ejr" : Str)) = false by decide, show (ai 1 == ("ejr+" : Str)) = false by decide, show (ai 1 == ("fjr" : Str)) = false by decide, show (ai 1 == ("core" : Str)) = false by decide]
 simp
theorem qT {g : List Nat} : f9 (ai 2) rs n M a b g = true ↔ ((c9 (bp rs M g) : Nat) : Int) < min (aE rs g a b) ((bf rs n g).length : Int) := by
 unfold f9 jrB ib hZ eE ak
 rw [show (ai 2 == ("jr" : Str)) = false by decide, show (ai 2 == ("pjr" : Str)) = false by decide, show (ai 2 == ("ejr" : Str)) = true by decide, show (ai 2 == ("ejr+" : Str)) = false by decide, show (ai 2 == ("fjr" : Str)) = false by decide, show (ai 2 == ("core" : Str)) = false by decide]
 simp
theorem sZ {g : List Nat} : f9 (ai 3) rs n M a b g = true ↔ ((c9 (bp rs M g) : Nat) : Int) < aE rs g a b ∧ (bf rs n g).filter (fun c => !(elems M).contains c) ≠ [] := by
 unfold f9 jrB ib hZ eE ak
 rw [show (ai 3 == ("jr" : Str)) = false by decide, show (ai 3 == ("pjr" : Str)) = false by decide, show (ai 3 == ("ejr" : Str)) = false by decide, show (ai 3 == ("ejr+" : Str)) = true by decide, show (ai 3 == ("fjr" : Str)) = false by decide, show (ai 3 == ("core" : Str)) = false by decide]
 generalize hf : (bf rs n g).filter (fun c => !(elems M).contains c) = f
 simp
theorem pX {S : Nat → Bool} : ao S M = 0 ↔ ∀ c, c < 4 → S c = true → M c = false := by
 unfold ao
 rw [List.length_eq_zero_iff]
 constructor
 ·intro h c hc hs
  cases e : M c with
  | false => rfl
  | true => exact absurd h (nN hc (by unfold inS; rw [hs, e]; rfl))
 ·intro h
  refine Classical.byContradiction fun k => ?_
  obtain ⟨c, hc⟩ := List.exists_mem_of_ne_nil _ k
  obtain ⟨h4, hi⟩ := ay.mp hc
  unfold inS at hi
  rw [Bool.and_eq_true] at hi
  rw [h c h4 hi.1] at hi
  exact absurd hi.2 (by decide)
theorem qD (h : bC n rs M) (hq : Qu q a b) : g5 rs M q n = b9 (ai 0) rs n M a b := by
 rw [Bool.eq_iff_iff, cD h.hz]
 unfold g5
 rw [List.any_eq_true]
 constructor
 ·rintro ⟨c, hc, hl⟩
  have hc := List.mem_range.mp hc
  refine ⟨jrC rs M c, kK (fX hq.n0 hq.d0 (Int.le_refl 1) hl), (bw (k := 1) hq).mpr hl, sa.mpr ⟨?_, ?_⟩⟩
  ·refine List.ne_nil_of_mem (a := c) (h.dX.mpr ⟨hc, fun i hi => ?_⟩)
   have := (mem_pass.mp hi).2
   unfold jrC at this
   exact (Bool.and_eq_true _ _ |>.mp this).1
  ·refine Classical.byContradiction fun k => ?_
   obtain ⟨d, hd⟩ := List.exists_mem_of_ne_nil _ k
   obtain ⟨⟨d4, dM⟩, i, hi, hb⟩ := jd.mp hd
   have := (mem_pass.mp hi).2
   unfold jrC at this
   have := (Bool.and_eq_true _ _ |>.mp this).2
   have : ao (bal rs i) M = 0 := by have := beq_iff_eq.mp this; omega
   rw [pX.mp this d d4 hb] at dM
   cases dM
 ·rintro ⟨P, hp, hs, hg⟩
  obtain ⟨h1, h2⟩ := sa.mp hg
  obtain ⟨c, hc⟩ := List.exists_mem_of_ne_nil _ h1
  obtain ⟨hc, hb⟩ := h.dX.mp hc
  refine ⟨c, List.mem_range.mpr hc, eA hq.n0 hq.d0 (Int.le_refl _) (h.i8 fun i hi hp => ?_) ((bw (k := 1) hq).mp hs)⟩
  have hm : i ∈ pass P rs.length := mem_pass.mpr ⟨hi, hp⟩
  unfold jrC
  rw [hb i hm, Bool.true_and, beq_iff_eq]
  have : ao (bal rs i) M = 0 := pX.mpr fun d d4 hd => by
   cases e : M d with
   | false => rfl
   | true =>
    have : d ∈ b8 rs M (pass P rs.length) := jd.mpr ⟨⟨d4, e⟩, i, hm, hd⟩
    rw [h2] at this
    cases this
  rw [this]; rfl
theorem lM {T : Nat → Bool} (hz : N ≤ 4) (hT : ∀ c, T c = true → c < N) : pass T N = elems T := by
 rw [gG hz]
 refine bB fun c _ => ?_
 cases e : T c
 ·simp
 ·simp [hT c e]
theorem gQ (h : bC n rs M) (hq : Qu q a b) (hu : ∀ i, i < rs.length → wt rs i = 1) {hit : Nat → List Nat → Bool} {ell : Nat} (hm : ∀ g g' : List Nat, (∀ i ∈ g', i ∈ g) → hit ell g = true → hit ell g' = true) :
  bN hit rs M q ell = true ↔ ∃ P, (∀ i ∈ pass P rs.length, ao (bal rs i) M < ell) ∧ leQ q ell (gw rs P rs.length) = true ∧ hit ell (pass P rs.length) = true := by
 unfold bN
 rw [Bool.and_eq_true, List.any_eq_true, Bool.not_eq_true', decide_eq_false_iff_not, gG h.hz]
 constructor
 ·rintro ⟨_, g, hg, hh⟩
  refine cx (jD hg) fun T re0 hT hl => ?_; subst re0
  have hT2 : ∀ c, T c = true → c < rs.length ∧ aX rs M ell c = true := fun c hc => by
   have := (hT c hc).2
   rw [Bool.and_eq_true] at this
   exact ⟨of_decide_eq_true this.1, this.2⟩
  have e : pass T rs.length = elems T := lM h.hz fun c hc => (hT2 c hc).1
  refine ⟨T, fun i hi => ?_, ?_, by rw [e]; exact hh⟩
  ·have := (hT2 i (mem_pass.mp hi).2).2
   unfold aX at this
   have := of_decide_eq_true this
   exact Z38
  ·rw [ma hu, e, hl]
   exact (mc hq.d0).mp (Int.self_le_toNat _)
 ·rintro ⟨P, h1, h2, h3⟩
  have hle : ∀ i, i < rs.length → P i = true → aX rs M ell i = true := fun i hi hp => by
   have := h1 i (mem_pass.mpr ⟨hi, hp⟩)
   unfold aX
   exact decide_eq_true Z36
  have hc := (mc hq.d0).mpr h2
  refine ⟨fun k => ?_, ?_⟩
  ·have := h.i8 (P := P) (P' := aX rs M ell) hle
   omega
  ·have e := gG (P := P) h.hz
   obtain ⟨U, u1, u2, u3⟩ := gU (S := fun i => decide (i < rs.length) && aX rs M ell i) (T := fun i => decide (i < rs.length) && P i) (size := (cc q ell).toNat) (fun c hc => by
    rw [Bool.and_eq_true] at hc ⊢
    exact ⟨hc.1, hle c (of_decide_eq_true hc.1) hc.2⟩) (by
    rw [← e]
    rw [ma hu] at hc
    omega)
   refine ⟨_, u2, hm _ _ (fun i hi => ?_) h3⟩
   rw [e]
   obtain ⟨i4, hi⟩ := ay.mp hi
   exact ay.mpr (u1 i hi)
theorem oF {g g' : List Nat} (h : ∀ i ∈ g', i ∈ g) : (elems (eH rs n g)).length ≤ (elems (eH rs n g')).length := by
 refine cI fun c _ hc => ?_
 unfold eH at hc ⊢
 rw [Bool.and_eq_true, List.all_eq_true] at hc ⊢
 exact ⟨hc.1, fun i hi => hc.2 i (h i hi)⟩
theorem nT {g g' : List Nat} (h : ∀ i ∈ g', i ∈ g) : (elems (inS (gp rs g') M)).length ≤ (elems (inS (gp rs g) M)).length := by
 refine cI fun c _ hc => ?_
 unfold inS gp at hc ⊢
 rw [Bool.and_eq_true, List.any_eq_true] at hc ⊢
 obtain ⟨⟨i, hi, hb⟩, hM⟩ := hc
 exact ⟨⟨i, h i hi, hb⟩, hM⟩
theorem iB {ell : Nat} {g g' : List Nat} (h : ∀ i ∈ g', i ∈ g) (hh : b7 rs n ell g = true) : b7 rs n ell g' = true := by
 unfold b7 at hh ⊢
 have := of_decide_eq_true hh
 have := oF (rs := rs) (n := n) h
 exact decide_eq_true (by omega)
theorem kW {ell : Nat} {g g' : List Nat} (h : ∀ i ∈ g', i ∈ g) (hh : bX rs M n ell g = true) : bX rs M n ell g' = true := by
 unfold bX at hh ⊢
 rw [Bool.and_eq_true] at hh ⊢
 refine ⟨iB h hh.1, ?_⟩
 have := of_decide_eq_true hh.2
 have := nT (rs := rs) (M := M) h
 exact decide_eq_true (by omega)
theorem dU (h : bC n rs M) (hq : Qu q a b) {d : Nat} (hl : leQ q ((d + 1 : Nat) : Int) (gw rs P rs.length) = true) : d < (aH (tw rs) q).toNat := by
 have := (oo hq.n0).mpr (eA hq.n0 hq.d0 (Int.le_refl _) h.nA hl)
 omega
theorem pf (h : bC n rs M) (hq : Qu q a b) (hu : ∀ i, i < rs.length → wt rs i = 1) : fC rs M q n = b9 (ai 2) rs n M a b := by
 rw [Bool.eq_iff_iff, cD h.hz]
 unfold fC
 rw [List.any_eq_true]
 constructor
 ·rintro ⟨d, hd, hb⟩
  refine cx ((gQ h hq hu fun _ _ => iB).mp hb) fun P h1 h2 h3 => ?_
  have hne := kK (fX hq.n0 hq.d0 (by omega) h2)
  have hs := (bw hq).mpr h2
  refine ⟨P, hne, by omega, qT.mpr ?_⟩
  have m := (max_lt hne).mpr h1
  unfold b7 at h3
  have h3 := of_decide_eq_true h3
  rw [cW h.n4]
  exact Int.lt_min.mpr ⟨by omega, by omega⟩
 ·rintro ⟨P, hp, hs, hg⟩
  obtain ⟨g1, g2⟩ := Int.lt_min.mp (qT.mp hg)
  have hl : leQ q ((c9 (bp rs M (pass P rs.length)) + 1 : Nat) : Int) (gw rs P rs.length) = true := (bw hq).mp (by omega)
  refine ⟨c9 (bp rs M (pass P rs.length)), List.mem_range.mpr (dU h hq hl), (gQ h hq hu fun _ _ => iB).mpr ⟨P, (max_lt hp).mp (Nat.lt_succ_self _), hl, ?_⟩⟩
  unfold b7
  rw [← cW h.n4]
  exact decide_eq_true (by omega)
theorem pI (h : bC n rs M) (hq : Qu q a b) (hu : ∀ i, i < rs.length → wt rs i = 1) : fL rs M q n = b9 (ai 1) rs n M a b := by
 rw [Bool.eq_iff_iff, cD h.hz]
 unfold fL
 rw [List.any_eq_true]
 constructor
 ·rintro ⟨d, hd, hb⟩
  refine cx ((gQ h hq hu fun _ _ => kW).mp hb) fun P h1 h2 h3 => ?_
  have hne := kK (fX hq.n0 hq.d0 (by omega) h2)
  have hs := (bw hq).mpr h2
  refine ⟨P, hne, by omega, qW.mpr ?_⟩
  unfold bX b7 at h3
  rw [Bool.and_eq_true] at h3
  have h4 := of_decide_eq_true h3.1
  have h5 := of_decide_eq_true h3.2
  rw [cW h.n4, eF]
  exact Int.lt_min.mpr ⟨Z91, Z91⟩
 ·rintro ⟨P, hp, hs, hg⟩
  obtain ⟨g1, g2⟩ := Int.lt_min.mp (qW.mp hg)
  have hl : leQ q (((b8 rs M (pass P rs.length)).length + 1 : Nat) : Int) (gw rs P rs.length) = true := (bw hq).mp (by omega)
  refine ⟨(b8 rs M (pass P rs.length)).length, List.mem_range.mpr (dU h hq hl), (gQ h hq hu fun _ _ => kW).mpr ⟨P, fun i hi => ?_, hl, ?_⟩⟩
  ·rw [eF]
   have : ao (bal rs i) M ≤ (elems (inS (gp rs (pass P rs.length)) M)).length := cI fun c _ hc => by
    unfold inS at hc ⊢
    rw [Bool.and_eq_true] at hc ⊢
    exact ⟨List.any_eq_true.mpr ⟨i, hi, hc.1⟩, hc.2⟩
   exact Z27
  ·unfold bX b7
   rw [← cW h.n4, ← eF, Bool.and_eq_true]
   exact ⟨decide_eq_true (by omega), decide_eq_true (by omega)⟩
theorem oG (h : bC n rs M) (hq : Qu q a b) : el rs M q n = b9 (ai 3) rs n M a b := by
 rw [Bool.eq_iff_iff, cD h.hz]
 unfold el
 rw [List.any_eq_true]
 have n4 := h.n4
 constructor
 ·rintro ⟨c, hc, hb⟩
  have hc := List.mem_range.mp hc
  unfold cL at hb
  rw [Bool.and_eq_true, List.any_eq_true] at hb
  obtain ⟨hM, d, hd, hh⟩ := hb
  unfold f3 at hh
  have hne := kK (fX hq.n0 hq.d0 (by omega) hh)
  have hs := (bw hq).mpr hh
  have k : ∀ i ∈ pass (cU rs M c (d + 1)) rs.length, bal rs i c = true ∧ ao (bal rs i) M < d + 1 := fun i hi => by
   have := (mem_pass.mp hi).2
   unfold cU at this
   rw [Bool.and_eq_true] at this
   exact ⟨this.1, of_decide_eq_true this.2⟩
  have m := (max_lt hne).mpr fun i hi => (k i hi).2
  refine ⟨cU rs M c (d + 1), hne, by omega, sZ.mpr ⟨by omega, List.ne_nil_of_mem (a := c) (List.mem_filter.mpr ⟨h.dX.mpr ⟨hc, fun i hi => (k i hi).1⟩, ?_⟩)⟩⟩
  cases e : (elems M).contains c with
  | false => rfl
  | true => rw [(iR.mp e).2] at hM; cases hM
 ·rintro ⟨P, hp, hs, hg⟩
  obtain ⟨g1, g2⟩ := sZ.mp hg
  obtain ⟨c, hc⟩ := List.exists_mem_of_ne_nil _ g2
  obtain ⟨hc, hM⟩ := List.mem_filter.mp hc
  obtain ⟨hc, hb⟩ := h.dX.mp hc
  refine ⟨c, List.mem_range.mpr hc, ?_⟩
  unfold cL
  rw [Bool.and_eq_true, List.any_eq_true]
  obtain ⟨d, hd⟩ : ∃ d : Nat, ((d + 1 : Nat) : Int) = aE rs (pass P rs.length) a b := ⟨(aE rs (pass P rs.length) a b).toNat - 1, ue⟩
  have hl : leQ q ((d + 1 : Nat) : Int) (gw rs P rs.length) = true := (bw hq).mp (by omega)
  have m := (max_lt hp).mp (show c9 (bp rs M (pass P rs.length)) < d + 1 by omega)
  refine ⟨?_, d, List.mem_range.mpr (dU h hq hl), ?_⟩
  ·cases e : M c with
   | false => rfl
   | true =>
    have : (elems M).contains c = true := iR.mpr ⟨Z12, e⟩
    rw [this] at hM
    cases hM
  ·unfold f3
   refine eA hq.n0 hq.d0 (Int.le_refl _) (h.i8 fun i hi hp => ?_) hl
   have hm : i ∈ pass P rs.length := mem_pass.mpr ⟨hi, hp⟩
   unfold cU
   rw [Bool.and_eq_true]
   exact ⟨hb i hm, decide_eq_true (m i hm)⟩
end
section
variable {n : Nat} {rs : List Row} {M : Nat → Bool} {a b : Int} {q : Num} {P P' : Nat → Bool} {N : Nat} {nm : Str}
noncomputable def fV (rs : List Row) (T : List Nat) (g : List Nat) : List Nat := g.map fun i => i5 (bal rs i) T
theorem nO {f c : Bool} (hf : (nm == ("fjr" : Str)) = f) (hc : (nm == ("core" : Str)) = c) (h : (f || c) = true) {d : Nat} (hd : d + 1 < 2 ^ n) : (ak nm n).length = 2 ^ n ∧ (ak nm n).getD (d + 1) [] = aj n ((d + 1 : Nat) : Int) ∧ ∀ g, di rs (ak nm n) g (d + 1) = fV rs (aj n ((d + 1 : Nat) : Int)) g := by
 unfold ak
 rw [hf, hc, if_pos h]
 refine ⟨by rw [List.length_map, List.length_range], ?_, fun g => ?_⟩
 ·rw [List.getD_eq_getElem?_getD, List.getElem?_map, List.getElem?_range hd]; rfl
 ·unfold di fV dP
  refine List.map_congr_left fun i _ => ?_
  rw [List.getD_eq_getElem?_getD, List.getElem?_map, List.getElem?_map, List.getElem?_range hd]; rfl
theorem kU (hn : n ≤ 4) {f c : Bool} (hf : (nm == ("fjr" : Str)) = f) (hc : (nm == ("core" : Str)) = c) (h : (f || c) = true) {g : List Nat} {s : Int} {R : List Nat → List Nat → Bool}
  (hR : ∀ ws p, (ws = ak nm n) → (nr nm rs M ws g p || jX nm rs M ws g p) = R (di rs ws g p) (bp rs M g)) :
  (List.range ((ak nm n).length - 1)).any (bQ nm rs M (ak nm n) g s) = true ↔ ∃ T : Nat → Bool, (∀ c, T c = true → c < n) ∧ elems T ≠ [] ∧ ((elems T).length : Int) ≤ s ∧ R (fV rs (elems T) g) (bp rs M g) = true := by
 have p2 : 0 < 2 ^ n := Nat.pow_pos (by decide)
 have e1 : (ak nm n).length = 2 ^ n := by
  unfold ak
  rw [hf, hc, if_pos h, List.length_map, List.length_range]
 rw [e1]
 have e2 : (List.range (2 ^ n - 1)).any (bQ nm rs M (ak nm n) g s) = (List.range (2 ^ n - 1)).any fun d => (fun W : List Nat => decide ((W.length : Int) ≤ s) && R (fV rs W g) (bp rs M g)) (aj n ((d + 1 : Nat) : Int)) := by
  rw [Bool.eq_iff_iff, List.any_eq_true, List.any_eq_true]
  refine exists_congr fun d => and_congr_right fun hd => ?_
  have hd := List.mem_range.mp hd
  refine bx (nO (rs := rs) hf hc h (n := n) (d := d) (by omega)) fun _ w2 w3 => ?_
  unfold bQ
  rw [w2, hR _ _ rfl, w3]
 rw [e2]
 refine (nY hn (Q := fun W : List Nat => decide ((W.length : Int) ≤ s) && R (fV rs W g) (bp rs M g))).trans ?_
 refine exists_congr fun T => and_congr_right fun _ => and_congr_right fun _ => ?_
 rw [Bool.and_eq_true, decide_eq_true_iff]
theorem rK (hn : n ≤ 4) {g : List Nat} : f9 (ai 4) rs n M a b g = true ↔ ∃ T : Nat → Bool, (∀ c, T c = true → c < n) ∧ elems T ≠ [] ∧ ((elems T).length : Int) ≤ aE rs g a b ∧ c9 (bp rs M g) < jK (fV rs (elems T) g) := by
 have key := kU (rs := rs) (M := M) (g := g) (s := aE rs g a b) hn (nm := ai 4) (f := true) (c := false) (by decide) (by decide) rfl (R := fun x y => decide (((c9 y : Nat) : Int) < ((jK x : Nat) : Int))) (fun ws p e => by
  unfold nr jX
  rw [show (ai 4 == ("fjr" : Str)) = true by decide, show (ai 4 == ("core" : Str)) = false by decide, Bool.true_and, Bool.false_and, Bool.or_false])
 unfold f9
 rw [show jrB (ai 4) rs n M g = false by unfold jrB; rw [show (ai 4 == ("jr" : Str)) = false by decide, Bool.false_and],
  show ib (ai 4) rs n M g (aE rs g a b) = false by unfold ib; rw [show (ai 4 == ("pjr" : Str)) = false by decide, Bool.false_and],
  show hZ (ai 4) rs n M g (aE rs g a b) = false by unfold hZ; rw [show (ai 4 == ("ejr" : Str)) = false by decide, Bool.false_and],
  show eE (ai 4) rs n M g (aE rs g a b) = false by unfold eE; rw [show (ai 4 == ("ejr+" : Str)) = false by decide, Bool.false_and],
  Bool.false_or, Bool.false_or, Bool.false_or, Bool.false_or]
 refine key.trans (exists_congr fun T => and_congr_right fun _ => and_congr_right fun _ => and_congr_right fun _ => ?_)
 rw [decide_eq_true_iff]
 omega
theorem qR {g : List Nat} {f h : Nat → Nat} : ones ((List.range g.length).filter (lY (g.map f) (g.map h))) = [] ↔ ∀ i ∈ g, h i < f i := by
 unfold ones
 rw [List.map_eq_nil_iff, List.filter_eq_nil_iff]
 have e : ∀ (k : Nat → Nat) (j : Nat) (hj : j < g.length), (g.map k).getD j 0 = k g[j] := fun k j hj => by
  rw [List.getD_eq_getElem?_getD, List.getElem?_map, List.getElem?_eq_getElem hj]; rfl
 constructor
 ·intro k i hi
  obtain ⟨j, hj, rfl⟩ := List.getElem_of_mem hi
  have := k j (List.mem_range.mpr hj)
  unfold lY at this
  rw [decide_eq_true_iff, e f j hj, e h j hj] at this
  omega
 ·intro k j hj
  have hj := List.mem_range.mp hj
  have := k _ (List.getElem_mem hj)
  unfold lY
  rw [decide_eq_true_iff, e f j hj, e h j hj]
  omega
theorem tu (hn : n ≤ 4) {g : List Nat} : f9 (ai 5) rs n M a b g = true ↔ ∃ T : Nat → Bool, (∀ c, T c = true → c < n) ∧ elems T ≠ [] ∧ ((elems T).length : Int) ≤ aE rs g a b ∧ ∀ i ∈ g, ao (bal rs i) M < ao (bal rs i) T := by
 have key := kU (rs := rs) (M := M) (g := g) (s := aE rs g a b) hn (nm := ai 5) (f := false) (c := true) (by decide) (by decide) rfl (R := fun x y => decide (ones ((List.range g.length).filter (lY x y)) = [])) (fun ws p e => by
  unfold nr jX
  rw [show (ai 5 == ("fjr" : Str)) = false by decide, show (ai 5 == ("core" : Str)) = true by decide, Bool.true_and, Bool.false_and, Bool.false_or])
 unfold f9
 rw [show jrB (ai 5) rs n M g = false by unfold jrB; rw [show (ai 5 == ("jr" : Str)) = false by decide, Bool.false_and],
  show ib (ai 5) rs n M g (aE rs g a b) = false by unfold ib; rw [show (ai 5 == ("pjr" : Str)) = false by decide, Bool.false_and],
  show hZ (ai 5) rs n M g (aE rs g a b) = false by unfold hZ; rw [show (ai 5 == ("ejr" : Str)) = false by decide, Bool.false_and],
  show eE (ai 5) rs n M g (aE rs g a b) = false by unfold eE; rw [show (ai 5 == ("ejr+" : Str)) = false by decide, Bool.false_and],
  Bool.false_or, Bool.false_or, Bool.false_or, Bool.false_or]
 refine key.trans (exists_congr fun T => and_congr_right fun _ => and_congr_right fun _ => and_congr_right fun _ => ?_)
 rw [decide_eq_true_iff]
 unfold fV bp
 rw [qR]
 refine forall_congr' fun i => forall_congr' fun _ => ?_
 rw [dn, eD]
theorem lt_min {T : Nat → Bool} {g : List Nat} {k : Nat} (hg : g ≠ []) : k < jK (fV rs (elems T) g) ↔ ∀ i ∈ g, k < ao (bal rs i) T := by
 have hne : fV rs (elems T) g ≠ [] := fun e => hg (List.map_eq_nil_iff.mp e)
 obtain ⟨h1, h2⟩ := kr hne
 constructor
 ·intro h i hi
  have := h2 _ (List.mem_map_of_mem (f := fun i => i5 (bal rs i) (elems T)) hi)
  rw [eD] at this
  exact Z12
 ·intro h
  refine ag (List.mem_map.mp h1) fun i hi e => ?_
  have := h i hi
  rw [eD] at e
  exact Z98
theorem jw {S T : Nat → Bool} : ao S T ≤ (elems T).length := cI fun c _ hc => by
 unfold inS at hc
 rw [Bool.and_eq_true] at hc
 exact hc.2
theorem n9 {i c : Nat} (hi : i < rs.length) (h : bal rs i c = true) : bU rs c = true := by
 obtain ⟨r, hr⟩ := dc hi
 rw [cX hr] at h
 unfold bU
 exact List.any_eq_true.mpr ⟨r, List.mem_of_getElem? hr, h⟩
theorem bC.iH (h : bC n rs M) {c : Nat} (hc : bU rs c = true) : c < n := by
 unfold bU at hc
 refine ag (List.any_eq_true.mp hc) fun r hr hc => ?_
 exact h.hb r hr c hc
theorem mF {T : Nat → Bool} {i : Nat} (hi : i < rs.length) : ao (bal rs i) (fun c => decide (c < 4) && (T c && bU rs c)) = ao (bal rs i) T := by
 unfold ao
 rw [bB fun c hc => ?_]
 unfold inS
 cases e : bal rs i c with
 | false => rfl
 | true =>
  dsimp only
  rw [n9 hi e, decide_eq_true hc, Bool.and_true, Bool.true_and]
theorem iq {T : Nat → Bool} (c : Nat) (hc : c < 4) : aK (elems T) c = T c := by
 unfold aK
 rw [Bool.eq_iff_iff, iR]
 exact ⟨fun x => x.2, fun x => ⟨hc, x⟩⟩
theorem eQ {S T : Nat → Bool} : ao S (aK (elems T)) = ao S T := by
 unfold ao
 rw [bB fun c hc => ?_]
 unfold inS
 rw [iq c hc]
theorem dj {T : Nat → Bool} : elems (aK (elems T)) = elems T := bB fun c hc => iq c hc
theorem kg {T : Nat → Bool} {u i : Nat} : jz rs M (aK (elems T)) u i = true ↔ u < ao (bal rs i) T ∧ ao (bal rs i) M ≤ u := by
 unfold jz dz atMost
 rw [Bool.and_eq_true, decide_eq_true_iff, decide_eq_true_iff, eQ]
 omega
theorem gy {T : Nat → Bool} {i : Nat} : coreC rs M (aK (elems T)) i = true ↔ ao (bal rs i) M < ao (bal rs i) T := by
 unfold coreC
 rw [decide_eq_true_iff, eQ]
 omega
theorem s7 (h : bC n rs M) (T : Nat → Bool) : ∃ U : Nat → Bool, (∀ c, U c = true → c < 4) ∧ (∀ c, U c = true → bU rs c = true) ∧ (elems U).length ≤ (elems T).length ∧ ∀ i, i < rs.length → ao (bal rs i) U = ao (bal rs i) T := by
 refine ⟨fun c => decide (c < 4) && (T c && bU rs c), fun c hc => ?_, fun c hc => ?_, cI fun c _ hc => ?_, fun i hi => mF hi⟩
 ·rw [Bool.and_eq_true] at hc
  exact of_decide_eq_true hc.1
 ·rw [Bool.and_eq_true, Bool.and_eq_true] at hc
  exact hc.2.2
 ·rw [Bool.and_eq_true, Bool.and_eq_true] at hc
  exact hc.2.1
theorem pq (h : bC n rs M) (hq : Qu q a b) : fO rs M q = b9 (ai 4) rs n M a b := by
 rw [Bool.eq_iff_iff, cD h.hz]
 unfold fO
 rw [List.any_eq_true]
 constructor
 ·rintro ⟨g, hg, hh⟩
  refine cx (nV hg) fun T re0 hT hl => ?_; subst re0
  unfold fA at hh
  refine ag (List.any_eq_true.mp hh) fun u hu hh => ?_
  have hu := List.mem_range.mp hu
  rw [dj] at hh hu
  have hne := kK (fX hq.n0 hq.d0 (by omega) hh)
  have hs := (bw hq).mpr hh
  have k : ∀ i ∈ pass (jz rs M (aK (elems T)) u) rs.length, u < ao (bal rs i) T ∧ ao (bal rs i) M ≤ u := fun i hi => kg.mp (mem_pass.mp hi).2
  have m1 := (max_lt (rs := rs) (M := M) (k := u + 1) hne).mpr fun i hi => by have := (k i hi).2; exact Z27
  have m2 := (lt_min hne).mpr fun i hi => (k i hi).1
  refine ⟨_, hne, ?_, (rK h.n4).mpr ⟨T, fun c hc => h.iH (hT c hc).2, fun e => ?_, hs, by omega⟩⟩
  ·have : 0 < (elems T).length := Z9
   exact Int.lt_of_lt_of_le Z36 hs
  ·rw [e] at hu
   exact absurd hu (Nat.not_lt_zero _)
 ·rintro ⟨P, hp, hs, hg⟩
  refine oX ((rK h.n4).mp hg) fun T hT hne hl hm => ?_
  refine oX (s7 h T) fun U u1 u2 u3 u4 => ?_
  have m2 := (lt_min hp).mp hm
  have m1 := (max_lt hp).mp (Nat.lt_succ_self (c9 (bp rs M (pass P rs.length))))
  have hq1 : leQ q ((elems U).length : Int) (gw rs P rs.length) = true := (bw hq).mp (by omega)
  obtain ⟨i, hi⟩ := List.exists_mem_of_ne_nil _ hp
  have hU : c9 (bp rs M (pass P rs.length)) < (elems U).length := by
   have := m2 i hi
   rw [← u4 i (mem_pass.mp hi).1] at this
   exact Nat.lt_of_lt_of_le this jw
  obtain ⟨d, hd⟩ : ∃ d, (elems U).length = d + 1 := ⟨(elems U).length - 1, q6⟩
  have hb := dU h hq (d := d) (by rw [← hd]; exact hq1)
  refine ⟨elems U, mi u1 u2 (by omega), ?_⟩
  unfold fA
  refine List.any_eq_true.mpr ⟨c9 (bp rs M (pass P rs.length)), List.mem_range.mpr (by rw [dj]; exact hU), ?_⟩
  rw [dj]
  refine eA hq.n0 hq.d0 (Int.le_refl _) (h.i8 fun j hj hpj => kg.mpr ?_) hq1
  have hm : j ∈ pass P rs.length := mem_pass.mpr ⟨hj, hpj⟩
  rw [u4 j hj]
  have := m1 j hm
  exact ⟨m2 j hm, Z28⟩
theorem ou (h : bC n rs M) (hq : Qu q a b) : eh rs M q = b9 (ai 5) rs n M a b := by
 rw [Bool.eq_iff_iff, cD h.hz]
 unfold eh
 rw [List.any_eq_true]
 constructor
 ·rintro ⟨g, hg, hh⟩
  refine cx (nV hg) fun T re0 hT hl => ?_; subst re0
  unfold cK at hh
  rw [Bool.and_eq_true, dj] at hh
  have hne : pass (coreC rs M (aK (elems T))) rs.length ≠ [] := fun e => by rw [e] at hh; exact absurd hh.1 (by decide)
  have hs := (bw hq).mpr hh.2
  obtain ⟨i, hi⟩ := List.exists_mem_of_ne_nil _ hne
  have h0 := gy.mp (mem_pass.mp hi).2
  have hT0 : 0 < (elems T).length := Nat.lt_of_lt_of_le (Nat.lt_of_le_of_lt (Nat.zero_le _) h0) jw
  exact ⟨_, hne, Int.lt_of_lt_of_le Z36 hs, (tu h.n4).mpr ⟨T, fun c hc => h.iH (hT c hc).2, fun e => by rw [e] at hT0; exact absurd hT0 (Nat.lt_irrefl _), hs, fun i hi => gy.mp (mem_pass.mp hi).2⟩⟩
 ·rintro ⟨P, hp, hs, hg⟩
  refine oX ((tu h.n4).mp hg) fun T hT hne hl hm => ?_
  refine oX (s7 h T) fun U u1 u2 u3 u4 => ?_
  have hq1 : leQ q ((elems U).length : Int) (gw rs P rs.length) = true := (bw hq).mp (by omega)
  obtain ⟨i, hi⟩ := List.exists_mem_of_ne_nil _ hp
  have hU : 0 < (elems U).length := by
   have := hm i hi
   rw [← u4 i (mem_pass.mp hi).1] at this
   exact Nat.lt_of_lt_of_le (Nat.lt_of_le_of_lt (Nat.zero_le _) this) jw
  obtain ⟨d, hd⟩ : ∃ d, (elems U).length = d + 1 := ⟨(elems U).length - 1, q6⟩
  have hb := dU h hq (d := d) (by rw [← hd]; exact hq1)
  have hC : ∀ j, j < rs.length → P j = true → coreC rs M (aK (elems U)) j = true := fun j hj hpj => by
   rw [gy, u4 j hj]
   exact hm j (mem_pass.mpr ⟨hj, hpj⟩)
  refine ⟨elems U, mi u1 u2 (by omega), ?_⟩
  unfold cK
  rw [Bool.and_eq_true, dj]
  refine ⟨?_, eA hq.n0 hq.d0 (Int.le_refl _) (h.i8 hC) hq1⟩
  have hi' := mem_pass.mp hi
  have : i ∈ pass (coreC rs M (aK (elems U))) rs.length := mem_pass.mpr ⟨hi'.1, hC i hi'.1 hi'.2⟩
  cases e : pass (coreC rs M (aK (elems U))) rs.length with
  | nil => rw [e] at this; cases this
  | cons x r => rfl
theorem mP {T : Nat → Bool} : ((!decide (aT rs (elems T) = aT rs (elems M))) && decide (((List.range rs.length).filter (dJ (aT rs (elems T)) (aT rs (elems M)))).map (fun _ => 1) = ([] : List Nat))) = true ↔ fB rs T M = true := by
 have eg : ∀ (W : Nat → Bool) (j : Nat) (hj : j < rs.length), (aT rs (elems W)).getD j 0 = ao rs[j].1 W := fun W j hj => by
  unfold aT
  rw [List.getD_eq_getElem?_getD, List.getElem?_map, List.getElem?_eq_getElem hj]
  exact dn
 have em : ∀ W : Nat → Bool, aT rs (elems W) = rs.map fun r => ao r.1 W := fun W => List.map_congr_left fun r _ => dn
 unfold fB
 rw [Bool.and_eq_true, Bool.and_eq_true, Bool.not_eq_true', Bool.not_eq_true', decide_eq_false_iff_not, decide_eq_true_iff, List.map_eq_nil_iff, List.filter_eq_nil_iff, List.any_eq_false, List.any_eq_true]
 have k1 : (∀ j ∈ List.range rs.length, ¬dJ (aT rs (elems T)) (aT rs (elems M)) j = true) ↔ ∀ r ∈ rs, ¬decide (ao r.1 T < ao r.1 M) = true := by
  constructor
  ·intro h r hr
   obtain ⟨j, hj, rfl⟩ := List.getElem_of_mem hr
   have := h j (List.mem_range.mpr hj)
   unfold dJ at this
   rw [decide_eq_true_iff, eg T j hj, eg M j hj] at this
   rw [decide_eq_true_iff]
   omega
  ·intro h j hj
   have hj := List.mem_range.mp hj
   have := h _ (List.getElem_mem hj)
   rw [decide_eq_true_iff] at this
   unfold dJ
   rw [decide_eq_true_iff, eg T j hj, eg M j hj]
   omega
 rw [k1, em, em]
 constructor
 ·rintro ⟨h1, h2⟩
  refine ⟨h2, Classical.byContradiction fun k => h1 (List.map_congr_left fun r hr => ?_)⟩
  have a1 := h2 r hr
  rw [decide_eq_true_iff] at a1
  have a2 : ¬ ao r.1 M < ao r.1 T := fun l => k ⟨r, hr, decide_eq_true l⟩
  omega
 ·rintro ⟨h2, r, hr, hl⟩
  refine ⟨fun e => ?_, h2⟩
  have := List.map_inj_left.mp e r hr
  have hl := of_decide_eq_true hl
  omega
theorem kE {T : Nat → Bool} : fB rs (aK (elems T)) M = fB rs T M := by
 unfold fB
 congr 1
 ·congr 1
  refine List.any_congr rfl fun r => ?_
  rw [eQ]
 ·refine List.any_congr rfl fun r => ?_
  rw [eQ]
theorem oY : nj := by
 intro n rs M h
 have n4 := h.n4
 refine bx (h.mem) fun m0 m4 hM => ?_
 rw [Bool.eq_iff_iff]
 have e1 : j9 rs n M = true ↔ ∃ T : Nat → Bool, (∀ c, T c = true → c < n) ∧ elems T ≠ [] ∧ (elems T).length = (elems M).length ∧ fB rs T M = true := by
  refine Iff.trans (nY n4 (Q := fun W => ((W.length : Int) == ((elems M).length : Int)) && ((!decide (aT rs W = aT rs (elems M))) && decide (((List.range rs.length).filter (dJ (aT rs W) (aT rs (elems M)))).map (fun _ => 1) = ([] : List Nat))))) ?_
  refine exists_congr fun T => and_congr_right fun _ => and_congr_right fun _ => ?_
  rw [Bool.and_eq_true, mP, beq_iff_eq]
  refine and_congr_left fun _ => ?_
  omega
 rw [e1]
 unfold fN
 rw [List.any_eq_true]
 have er : List.range n = elems fun c => decide (c < n) := by
  have := gG (P := fun _ => true) (N := n) n4
  unfold pass at this
  rw [List.filter_eq_self.mpr fun _ _ => rfl] at this
  rw [this]
  exact bB fun c _ => Bool.and_true _
 rw [er]
 constructor
 ·rintro ⟨g, hg, hd⟩
  refine cx (jD hg) fun T re0 hT hl => ?_; subst re0
  rw [kE] at hd
  exact ⟨T, fun c hc => of_decide_eq_true (hT c hc).2, fun e => by rw [e] at hl; exact absurd hl (by simp; omega), hl, hd⟩
 ·rintro ⟨T, hT, hne, hl, hd⟩
  refine cx (gU (S := fun c => decide (c < n)) (T := T) (size := (elems M).length) (fun c hc => decide_eq_true (hT c hc)) pZ) fun U u1 u2 u3 => ?_
  have e : elems U = elems T := List.Sublist.eq_of_length (by
   have : elems U = (elems T).filter U := by
    unfold elems
    rw [List.filter_filter]
    refine List.filter_congr fun c _ => ?_
    cases q : U c
    ·rfl
    ·rw [(u1 c q).2]; rfl
   rw [this]
   exact List.filter_sublist) (by omega)
  refine ⟨elems U, u2, ?_⟩
  rw [e, kE]
  exact hd
theorem pz : ny := by
 intro p n rs M q a b hp h hu n0 d0 a0 b0 e
 have hq : Qu q a b := ⟨n0, d0, a0, b0, e⟩
 have hw : p = 1 ∨ p = 2 → ∀ i, i < rs.length → wt rs i = 1 := fun k i hi => by
  obtain ⟨r, hr⟩ := dc hi
  rw [dK hr]
  exact hu k r (List.mem_of_getElem? hr)
 have : p = 0 ∨ p = 1 ∨ p = 2 ∨ p = 3 ∨ p = 4 ∨ p = 5 := Z71
 rcases this with rfl | rfl | rfl | rfl | rfl | rfl
 ·exact qD h hq
 ·exact pI h hq (hw (.inl rfl))
 ·exact pf h hq (hw (.inr rfl))
 ·exact oG h hq
 ·exact pq h hq
 ·exact ou h hq
end
noncomputable def gF : List (Addr × Addr) := [(29, 25), (385, 381), (296, 292), (309, 307), (322, 320)]
theorem rx {P : Params} {h : Heap} (X : (KZ P).In h) : (KK P).In h := fun a o e => X a o (by
 unfold KZ
 rw [List.lookup_append, e]; rfl)
theorem qE {P : Params} {h : Heap} (X : (KZ P).In h) : h.get? 4 = some ⟨.type "module", some 0, .plain, #[]⟩ ∧ ∀ p ∈ gF, h.get? p.2 = some gN := by
 have e : (KZ P).lookup 4 = some ⟨.type "module", some 0, .plain, #[]⟩ := by kernel_rfl
 have e1 : (KZ P).lookup 25 = some gN := by kernel_rfl
 have e2 : (KZ P).lookup 381 = some gN := by kernel_rfl
 have e3 : (KZ P).lookup 292 = some gN := by kernel_rfl
 have e4 : (KZ P).lookup 307 = some gN := by kernel_rfl
 have e5 : (KZ P).lookup 320 = some gN := by kernel_rfl
 refine ⟨X _ _ e, fun p hp => ?_⟩
 simp only [gF, List.mem_cons, List.not_mem_nil, or_false] at hp
 rcases hp with rfl | rfl | rfl | rfl | rfl
 ·exact X _ _ e1
 ·exact X _ _ e2
 ·exact X _ _ e3
 ·exact X _ _ e4
 ·exact X _ _ e5
noncomputable def jA (K : Frag) (c P : Addr) : Bool := match K.lookup c with
 | some ⟨.type T, none, .fields vs, _⟩ => T == "code" && (match (vs[11]? : Option Value), (vs.getD 18 .none : Value), (vs.getD 7 .none : Value), (vs.getD 9 .none : Value), (vs.getD 10 .none : Value) with
  | some (Value.ref Q), Value.str _ _, Value.int _ _, Value.bool _, Value.int _ _ => Nat.beq Q P
  | _, _, _, _, _ => false)
 | _ => false
theorem tab_of {K : Frag} {h : Heap} {c P : Addr} (X : K.In h) (e : jA K c P = true) (hP : h.get? P = some gN) (hne : c ≠ P) : h.TableAt c P #[] ∧ h.IsCode c P #[] := by
 unfold jA at e
 split at e
 ·rename_i T vs sl q
  rw [Bool.and_eq_true] at e
  obtain ⟨e1, e2⟩ := e
  split at e2
  ·rename_i Q f tf i ti b j tj h1 h2 h3 h4 h5
   have hQ : Q = P := Nat.eq_of_beq_eq_true e2
   subst hQ
   have hT : T = "code" := by simpa using e1
   subst hT
   refine ⟨⟨⟨_, vs, X _ _ q, rfl, rfl, h1⟩, hP⟩, ⟨_, vs, f, tf, i, ti, b, j, tj, _, X _ _ q, rfl, ?_, h2, h3, h4, h5, hP, rfl, ?_, hne⟩⟩
   ·rw [Array.getD_eq_getD_getElem?, h1]; rfl
   ·exact trivial
  ·cases e2
 ·cases e
noncomputable def mkG (w : World) (s : Shared) (mb : Str → Option Value) (hsz : s.heap.objs.size = 503) (X : (KK w.params).In s.heap) (hmb : ∀ x : Str, x ≠ "__name__" → mb x = bootBuiltins x) : Gd where
 w := w
 K := KK w.params
 H0 := s.heap
 tabs := gF
 os := s.os
 mb := mb
 ktab := fun p hp => by
  simp only [gF, List.mem_cons, List.not_mem_nil, or_false] at hp
  rcases hp with rfl | rfl | rfl | rfl | rfl <;> kernel_rfl
 ptab := by
  rw [hsz]
  decide
 blow := by
  rw [hsz]
  decide
 klow := fun a o e => Heap.lt_size (X a o e)
 hmb := fun x v h e => (hmb x h).trans e
 kst := by kernel_rfl
 bm := 4
 ob := ⟨.type "module", some 0, .plain, #[]⟩
 hbm := ⟨⟨rfl, rfl, rfl⟩, by decide, by rw [hsz]; decide, by decide⟩
 hbn := by kernel_rfl
theorem k9 {F : Fz} {vs : List Value} {xs : List Int} (h : IntsAre vs xs) : Rel2 F (xs.map vInt) vs := by
 induction h with
 | nil => exact .nil
 | cons n t _ ih => exact .cons ⟨t, rfl⟩ ih
theorem pg {w : World} {s : Shared} {mb : Str → Option Value} {xs : List Int} {vs : List Value} (hsz : s.heap.objs.size = 503) (Z : (KZ w.params).In s.heap) (hmb : ∀ x : Str, x ≠ "__name__" → mb x = bootBuiltins x) (hb : s.heap.Ns builtinsNs mb)
  (hg : s.gens = #[]) (ho : s.heap.get? 502 = some { cls := .type "list", data := .seq vs.toArray }) (hv : IntsAre vs xs) (hx : xs.length ≤ 1000) :
  wpAny (model pw w) callerA (call (.ref 501) [.ref 502] []) (fun y s' => y = .bool true ∧ OldK s.heap s'.heap ∧ s'.os = s.os ∧ AllBare s'.gens) (fun _ _ => False) s := by
 have X := rx Z
 obtain ⟨z4, zt⟩ := qE Z
 have ct : ∀ p ∈ gF, jA (KK w.params) p.1 p.2 = true ∧ p.1 ≠ p.2 := fun p hp => by
  simp only [gF, List.mem_cons, List.not_mem_nil, or_false] at hp
  rcases hp with rfl | rfl | rfl | rfl | rfl <;> exact ⟨by kernel_rfl, by decide⟩
 have hM : (mkG w s mb hsz X hmb).Main := ⟨rfl, fun p hp => hp⟩
 have wd : Wd (mkG w s mb hsz X hmb) s := {
  K := X
  old := .refl _
  big := Nat.le_refl _
  tabs := fun p hp => by
   have t := tab_of X (ct p hp).1 (zt p hp) (ct p hp).2
   exact ⟨⟨_, t.1⟩, _, t.1, t.2⟩
  bns := hb
  bare := .of_eq hg
  os := rfl
  mod := z4 }
 have key := qH hM oY pz hx callerA s [.ref 502] [] (fun a => if a = 502 then some (d9 vs 0) else none) ⟨rfl, rfl, by decide, by decide⟩ wd (fun a o e => by
  by_cases q : a = 502
  ·rw [if_pos q] at e
   cases e
   subst q
   refine ⟨ho, ?_⟩
   rintro ⟨p, hp, e⟩
   have hp : p ∈ gF := hp
   simp only [gF, List.mem_cons, List.not_mem_nil, or_false] at hp
   rcases hp with rfl | rfl | rfl | rfl | rfl <;> exact absurd e (by decide)
  ·rw [if_neg q] at e
   cases e) (.cons ⟨502, vs, 0, rfl, if_pos rfl, k9 hv⟩ .nil) .nil
 refine wpAny_call (codeAny_mono key fun r s' hp => ?_)
 refine n8 (hp) fun y F' re0 hy w' => ?_; subst re0
 exact ⟨hy, w'.old, w'.os, w'.bare⟩
section
open PySem PySem.W PySem.W.X PyProof.Rows
set_option maxHeartbeats 0
noncomputable def pJ (tb : String → Option Builtin) (p : Program) (w : World) (n₀ : Nat) (ann : Option Value) : Nat → SharedT → Thread → Option SharedT
 | 0, _, _ => none
 | n + 1, s, t => match through t with
  | true => some s
  | false => match Fast.tw6613529449190102663 n₀ ann t with
   | false => none
   | true => match Fast.tw10156331382660048174 (Fast.tw11892475500146522536 tb) p w s t with
    | some (s', t') => pJ tb p w n₀ ann n s' t'
    | none => none
theorem l4 {tb : String → Option Builtin} {p : Program} {w : World} {n₀ : Nat} {ann : Option Value} : ∀ {n : Nat} {s s' : SharedT} {t : Thread}, pJ tb p w n₀ ann n s t = some s' → topRun tb p w n₀ ann n s.abs t = some s'.abs
 | 0, _, _, _, h => nomatch h
 | n + 1, s, s', t, h => by
  unfold pJ at h
  unfold topRun
  rw [← Fast.te6613529449190102663, ← Fast.te10156331382660048174, ← Fast.te11892475500146522536] at h
  cases ht : through t with
  | true => rw [ht] at h; exact congrArg (fun x => x.map SharedT.abs) h
  | false =>
   rw [ht] at h
   cases hk : stepOk n₀ ann t with
   | false => rw [hk] at h; cases h
   | true =>
    rw [hk] at h
    cases hs : stepT (denote tb) p w s t with
    | none => rw [hs] at h; cases h
    | some r =>
     rw [hs] at h
     dsimp only
     rw [stepT_spec hs]
     exact l4 h
noncomputable def sV (P : Params) : BT := ((boot_heap P).objs.toList.foldl (fun (a : BT × Nat) o => (a.1.ins a.2 o, a.2 + 1)) (.nil, 0)).1
noncomputable def st0 (w : World) (os : OsState) : SharedT := ⟨sV w.params, 11, (boot_heap w.params).life, #[], boot_drawn, boot_toks, os⟩
theorem pH (w : World) (os : OsState) : (st0 w os).abs = ⟨boot_heap w.params, #[], boot_drawn, boot_toks, os⟩ := by kernel_rfl
noncomputable abbrev row := PySem.Challenge.rw_jg0001_01.row
noncomputable def vw : Program := view pw [32]
noncomputable def lo : List Str := ["_wall", "CandidateSet", "str_set_of_candidates", "powerset", "dominate", "combinations", "Fraction", "total", "PROPERTY_NAMES", "check", "check_pareto_optimality", "check_EJR", "check_PJR", "check_JR", "_check_JR", "_check_pareto_optimality_brute_force", "_check_EJR_brute_force", "_check_PJR_brute_force", "check_EJR_plus", "_check_EJR_plus", "check_FJR", "_check_FJR_brute_force", "check_core", "_check_core_brute_force", "Profile", "Voter", "_law_broken", "_law_worse"]
noncomputable def Xt (s : Shared) : Bool := xlAt vw [] s && recOk row.toRowW.records s
theorem sC : ∀ w : World, ((boot_heap w.params).isNs mainGlobals && (#[] : Array GenState).size == 0, (boot_heap w.params).objs.size, (boot_heap w.params).nsMap mainGlobals "__annotations__") = (true, 11, some (.ref 6)) := by
 intro w
 kernel_rfl
theorem uf : ∀ (w : World) (os : OsState), (pJ Fast.tw14364793385576792824 pw w 11 (some (.ref 6)) 5610 (st0 w os) (topStub pw)).map (fun s =>
  ((staticsOk (Fast.tw5923862056798008813 pw.main.body) (boot_heap w.params) s.abs.heap && namesBound pw s.abs.heap && gensDone s.abs && laidKept (boot_heap w.params) s.abs.heap), Fast.tw4187177175401517315 vw lo (Fast.tw5923862056798008813 pw.main.body) Xt true s.abs, obsZ asZ s.abs))
  = some (true, openGood vw lo, valZ KZ 502 858 w) := by
 intro w os
 kernel_rfl
end
section
open PySem PySem.W PySem.W.X PyProof.Rows
set_option maxHeartbeats 0
theorem oR {p q : Program} {loose : List Str} {Xt : Shared → Bool} {α : Type} {Yf : Shared → α} {Ya : World → α} {N : Nat} {H₀ : Params → Heap} {gs₀ : Array GenState} {d₀ : Drawn} {k₀ : Nat} {m₀ : Nat} {ann : Option Value}
  (open_ : ∀ w : World, (fencedOpening treeTable p w N).map (fun s => (s.heap, s.gens, s.drawn, s.toks)) = some (H₀ w.params, gs₀, d₀, k₀))
  (size : ∀ w : World, ((H₀ w.params).isNs mainGlobals && gs₀.size == 0, (H₀ w.params).objs.size, (H₀ w.params).nsMap mainGlobals "__annotations__") = (true, m₀, ann))
  (run : ∀ (w : World) (os : OsState), (topRun treeTable p w m₀ ann N ⟨H₀ w.params, gs₀, d₀, k₀, os⟩ (topStub p)).map (fun s =>
   ((staticsOk (importedModules p.main.body) (H₀ w.params) s.heap && namesBound p s.heap && gensDone s && laidKept (H₀ w.params) s.heap), openSeen q loose (importedModules p.main.body) Xt true s, Yf s)) = some (true, openGood q loose, Ya w)) : LeftO p q loose Xt Yf Ya N := fun w => by
 obtain ⟨⟨h, gs, d, k, os⟩, e, e'⟩ := Option.map_eq_some_iff.mp (open_ w)
 obtain ⟨rfl, rfl, rfl, rfl⟩ : h = H₀ w.params ∧ gs = gs₀ ∧ d = d₀ ∧ k = k₀ := by simpa using e'
 obtain ⟨z1, z2, z3⟩ : _ ∧ _ ∧ _ := by simpa only [Prod.mk.injEq] using size w
 obtain ⟨s, r, e2⟩ := Option.map_eq_some_iff.mp (run w os)
 obtain ⟨l1, l2⟩ : _ ∧ _ := by simpa only [Prod.mk.injEq] using e2
 have t : topFrom treeTable p w N ⟨H₀ w.params, gs, d, k, os⟩ = some s := by
  unfold topFrom
  dsimp only
  rw [z1, z2, z3, r]
  show (match staticsOk (importedModules p.main.body) (H₀ w.params) s.heap && namesBound p s.heap && gensDone s && laidKept (H₀ w.params) s.heap with | true => _ | false => _) = _
  rw [l1]
 unfold openEnds
 rw [e]
 show (topFrom treeTable p w N _).map _ = _
 rw [t]
 exact congrArg some (Prod.ext l2.1 l2.2)
theorem s9 : ∀ w : World, (fencedOpening treeTable pw w 5610).map (fun s => (s.heap, s.gens, s.drawn, s.toks)) = some (boot_heap w.params, #[], boot_drawn, boot_toks) :=
 boot_open (p := pw) (N := 5610) (by kernel_rfl) rfl (fun s => by kernel_rfl)
theorem tS : ∀ (w : World) (os : OsState), (topRun treeTable pw w 11 (some (.ref 6)) 5610 ⟨boot_heap w.params, #[], boot_drawn, boot_toks, os⟩ (topStub pw)).map (fun s =>
  ((staticsOk (importedModules pw.main.body) (boot_heap w.params) s.heap && namesBound pw s.heap && gensDone s && laidKept (boot_heap w.params) s.heap), openSeen vw lo (importedModules pw.main.body) Xt true s, obsZ asZ s))
  = some (true, openGood vw lo, valZ KZ 502 858 w) := by
 intro w os
 have h := uf w os
 rw [← Fast.te14364793385576792824, ← Fast.te5923862056798008813, ← Fast.te4187177175401517315] at h
 obtain ⟨s, hs, e⟩ := Option.map_eq_some_iff.mp h
 have r := l4 hs
 rw [pH] at r
 rw [r]
 exact congrArg some e
theorem rt : LeftO pw vw lo Xt (obsZ asZ) (valZ KZ 502 858) 5610 := oR s9 sC tS
theorem oT {args : List WData} : PySem.Challenge.rw_jg0001_01.row.claim.post args (WData.bool true) args = true := by
 refine postW_of (r := PySem.Challenge.rw_jg0001_01.row.toRowW) (X := (true == true)) (by rfl) ?_ rfl
 exact w_eq_bool (a := .res) (b := .lit (.bool true)) (w_res rfl) w_lit
end
section
open PySem PySem.W PySem.W.X PyProof.Rows
set_option maxHeartbeats 0
noncomputable abbrev lp : Program := PySem.Challenge.rw_jg0001_01.row.prog
theorem lk1 : sreFenced lp.main = true := by kernel_rfl
theorem lk2 : ((moduleNames lp.main.body).isEmpty || lookedIntoSs (moduleNames lp.main.body) lp.main.body) = true := by kernel_rfl
theorem lk3 : namesResolve lp = true := by rw [Fast.te8377067652309620493]; kernel_rfl
theorem lk4 : lp.boundNames.all (fun n => !worldNames.contains n) = true := by kernel_rfl
theorem lk5 : noRoadLSs { strict := !(importedModules lp.main.body).all cThrough.contains, foot := none, bare := (["vars", "dir", "locals"] : List Str).filter (readsOut lp lp.main.body) } lp.main.body = true := by rw [Fast.te8326940854005059898]; kernel_rfl
theorem lk6 : namesMeet lp lp.main.body (fun _ n => attrL n) = true := by rw [Fast.te17119622794617984870]; kernel_rfl
theorem lk7 : looksOpen lp = true := by
 unfold looksOpen
 exact look_both (look_both (look_both (look_both (look_both lk1 lk2) lk3) lk4) lk5) lk6
theorem lk8 : PySem.Challenge.rw_jg0001_01.row.wellSaid = true := by
 unfold OpenRow.wellSaid OpenRow.partSaid
 rw [lk7]
 kernel_rfl
theorem lk9 : PySem.Challenge.rw_jg0001_01.wellSaid = true := by
 unfold OpenLaw.wellSaid
 rw [lk8]
 kernel_rfl
end
end Mine
open PySem.W.X
set_option maxHeartbeats 0
theorem PySem.Challenge.cw_jg0001_01_holds : PySem.Challenge.rw_jg0001_01.Holds := by
  w_on
  refine holds_law Mine.lk9 fun said => ?_
  refine holds_openX (q := Mine.vw) (loose := Mine.lo) (Xt := Mine.Xt) (XP := XL Mine.vw []) (Yf := obsZ Mine.asZ) (Ya := valZ Mine.KZ 502 858) (N := 5610) Mine.rt (fun s e => xl_of s (Bool.and_eq_true_iff.mp e).1) XL.keeps (by rfl) (by rfl) (by rfl) (fun s e => recFacts_of (Bool.and_eq_true_iff.mp e).2) rfl (by first | assumption | decide +kernel) (by decide +kernel) ⟨rfl, rfl, rfl, rfl, rfl, by decide +kernel⟩ ?hw ?hc
  case hw => w_witness2
  intro w s₀ s₁ mg mb G y fa o pm cd doc dV kV ho hd hcd hD hmg hg args vals as L hpre hlay hrd hwl hlo
  obtain ⟨ZA, ZI, ZN, ZT⟩ := z_facts Mine.qh y
  have KX : (Mine.KZ w.params).In s₁.heap := fun a o e => L.keeps a o (ZI a o e)
  refine Ground.open G ?_
  intro T B D TE TW
  wrow_args hpre hlay hrd hwl hlo
  obtain ⟨hat, hsz⟩ := script_at L
  rw [ZN] at hat hsz
  subst hat
  x_fa T KX hmg
  all_lens
  clear hd hcd hD hmg
  rename_i xs _ _ _ _ _ _ vs _ _ _ hlen _ hL _ _ hi _
  have hobj := script_obj L hL
  refine wpAny_mono (Mine.pg hsz KX T.builtins T.b hg hobj hi (by simp at hlen; omega)) (fun v s' h => ?_) fun _ _ h => h.elim
  obtain ⟨rfl, h1, h2, h3⟩ := h
  exact ⟨.inl ⟨_, _, _, rfl, fun _ => rfl, .bool true, Mine.oT, fun _ => ⟨List.nodup_nil, fun _ h => nomatch h⟩⟩, h1, h2, h3⟩
