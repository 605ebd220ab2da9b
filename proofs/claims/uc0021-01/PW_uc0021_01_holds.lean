import PyProof.Rows.All
import PySem.Sre
import Wide.FinOn
import OpenK.AllK
import Wide.All
import Lean
import PySem.Challenge.RW_uc0021_01
set_option Elab.async false
set_option bootstrap.genMatcherCode false
set_option linter.unusedVariables false
section
open PySem PySem.W PyProof.Rows
set_option maxHeartbeats 4000000
open_top hd for PySem.Challenge.rw_uc0021_01
end
set_option maxRecDepth 100000
namespace Mine
open PySem PySem.W PyProof.Rows
section
section
variable {a b c d e i j k m n p q r s t w x y D F A B C L : Nat} {P : Prop}
theorem sbL (h : a - d ≤ k + 1) (h3 : i < j) (h2 : d ≤ i) : a - j ≤ k := Nat.le_trans (Nat.sub_le_sub_left (Nat.lt_of_le_of_lt h2 h3) a) (Nat.pred_le_pred h)
theorem sbE (h : a - d = k + 1) (h3 : i < j) (h2 : d ≤ i) : a - j ≤ k := sbL (Nat.le_of_eq h) h3 h2
theorem sbLc (h : a - d ≤ k + 1) (h2 : d ≤ i ∧ i < j ∧ j ≤ a) : a - j ≤ k := sbL h h2.2.1 h2.1
theorem sbEc (h : a - d = k + 1) (h2 : d ≤ i ∧ i < j ∧ j ≤ a) : a - j ≤ k := sbE h h2.2.1 h2.1
theorem sbS (h : a - d = k + 1) (h2 : d ≤ i) (h3 : j = i + 1) : a - j ≤ k := sbE h (h3 ▸ Nat.lt_succ_self i) h2
theorem sbP (h : n + 1 = a - i) : a - (i + 1) = n := (congrArg Nat.pred h).symm
theorem sbQ (h : a - i = n + 1) : a - (i + 1) = n := congrArg Nat.pred h
theorem sbT (h : a - d = k) (h3 : i < j) (h2 : d ≤ i) (h4 : j ≤ a) : a - j < k := h ▸ Nat.sub_lt_sub_left (Nat.lt_of_lt_of_le (Nat.lt_of_le_of_lt h2 h3) h4) (Nat.lt_of_le_of_lt h2 h3)
theorem sbO (h : s ≤ n) (h2 : n - s < 1) : n + 1 - s = 1 := (Nat.succ_sub h).trans (congrArg (· + 1) (Nat.lt_one_iff.mp h2))
theorem sbO' (h : n + 1 - s = 1) : s ≥ n := Nat.le_of_succ_le_succ (Nat.le_trans (Nat.sub_le_iff_le_add.mp (Nat.le_of_eq h)) (Nat.le_of_eq (Nat.add_comm 1 s)))
theorem tm1 : (-1 + (n : Int)).toNat = n - 1 := by
 cases n with
 | zero => rfl
 | succ n => rw [Int.natCast_add, Int.add_comm, show ((1 : Nat) : Int) = 1 from rfl, Int.add_neg_cancel_right]; rfl
theorem sb3 (h : i ≤ j) (h2 : j ≤ k) : k - i = j - i + (k - j) := (Nat.sub_add_sub_cancel h2 h).symm.trans (Nat.add_comm _ _)
theorem sb1 (h : s + 1 ≤ i) : i - s = i - (s + 1) + 1 := (Nat.sub_add_cancel (Nat.sub_pos_of_lt h)).symm
theorem sb1' (h : s + 1 ≤ i) : i - s + 1 = i - (s + 1) + 1 + 1 := congrArg (· + 1) (sb1 h)
theorem sb0 (h : r + 1 ≤ n) : n = n - 1 + 1 := (Nat.sub_add_cancel (Nat.le_trans (Nat.le_add_left 1 r) h)).symm
theorem sbH (h : a - (a - (r + 1)) = r + 1) : a - r = a - (r + 1) + 1 := sb1 (h ▸ Nat.sub_le _ _)
theorem noS (h : n - d = 0) (h3 : i < j) (h2 : d ≤ i) (h4 : j ≤ n) : P := (Nat.lt_irrefl _ (Nat.lt_of_lt_of_le (Nat.lt_of_le_of_lt h2 h3) (Nat.le_trans h4 (Nat.sub_eq_zero_iff_le.mp h)))).elim
theorem noSc (h : n - d = 0) (h2 : d ≤ i ∧ i < j ∧ j ≤ n) : P := noS h h2.2.1 h2.1 h2.2.2
theorem mxI : max 0 (min (x : Int) (n : Int)) = ((min x n : Nat) : Int) := (Nat.le_total x n).elim (fun h => by rw [Nat.min_eq_left h, Int.min_eq_left (Int.ofNat_le.mpr h)]; exact Int.max_eq_right (Int.natCast_nonneg x)) fun h => by rw [Nat.min_eq_right h, Int.min_eq_right (Int.ofNat_le.mpr h)]; exact Int.max_eq_right (Int.natCast_nonneg n)
theorem sbb (h : 0 < n - i) : n - (n - i) = i := Nat.sub_sub_self (Nat.le_of_lt (Nat.lt_of_sub_pos h))
theorem wk (h : n ≤ c) (w : Nat.ble c C = true) : n ≤ C := Nat.le_trans h (Nat.le_of_ble_eq_true w)
theorem wkS (h : n ≤ c) (w : Nat.ble c C = true) : n - j ≤ C := Nat.le_trans (Nat.sub_le _ _) (wk h w)
theorem wkE (h : n = c) (w : Nat.ble c C = true) : n - j ≤ C := wkS (Nat.le_of_eq h) w
theorem wkM (h : n ≤ c) (w : Nat.ble c C = true) : min e n - b ≤ C := wkS (Nat.le_trans (Nat.min_le_right _ _) h) w
theorem wkN (w : Nat.ble c C = true) : min (c - x) m ≤ C := Nat.le_trans (Nat.min_le_left _ _) (wkS (Nat.le_refl c) w)
theorem wkK (h : i < c) (w : Nat.ble c C = true) : min (i + 1 - 1) m ≤ C := Nat.le_trans (Nat.min_le_left _ _) (wk (Nat.le_of_lt h) w)
theorem wkL (h : min (o - s) (n - s) ≤ n → P) : P := h (Nat.le_trans (Nat.min_le_right _ _) (Nat.sub_le _ _))
theorem mnL : min x (n - s) ≤ n := Nat.le_trans (Nat.min_le_right _ _) (Nat.sub_le _ _)
theorem csA (h : (x < y ↔ n ≠ 0) ∧ x ≤ y) : ((y : Int) ≤ (x : Int) ↔ ¬¬n = 0) := ⟨fun q z => Nat.lt_irrefl _ (Nat.lt_of_lt_of_le (h.1.mpr z) (Int.ofNat_le.mp q)), fun q => Int.ofNat_le.mpr (Nat.le_of_not_lt fun z => q (h.1.mp z))⟩
theorem csU (h : (x < y ↔ n ≠ 0) ∧ x ≤ y) : (¬(x : Int) = (y : Int) ↔ ¬n = 0) := ⟨fun q z => q (congrArg _ (Nat.le_antisymm h.2 (Nat.le_of_not_lt fun w => h.1.mp w z))), fun q z => Nat.lt_irrefl x (Int.ofNat.inj z ▸ h.1.mpr q)⟩
theorem fdE (h : p + D = F) : F - D = p := Nat.sub_eq_of_eq_add h.symm
theorem fdN (h : p + D = F) (h2 : q ≤ p) : ¬F - D < q := Nat.not_lt.mpr (fdE h ▸ h2)
theorem fdL (h : p + D = F) (h2 : p < q) : F - D < q := fdE h ▸ h2
theorem fdP (h : p ≤ F ∧ P) : F - p + p ≤ F := Nat.le_of_eq (Nat.sub_add_cancel h.1)
theorem fnA (h : s ≤ i) (h2 : i + w ≤ e) : i - s < e + 1 - s := Nat.sub_lt_sub_right h (Nat.lt_succ_of_le (Nat.le_trans (Nat.le_add_right _ _) h2))
theorem fnB (h : s ≤ i) (h2 : i < a) (h3 : some (s + 1 * p) = some a) : i - s < p := Nat.sub_lt_left_of_lt_add h (Nat.one_mul p ▸ Option.some.inj h3 ▸ h2)
theorem fnC (h : s ≤ i) (h2 : i < a) (h3 : some (s + 1 * p) = some a) (h4 : p < e) : i - s < e := Nat.lt_trans (fnB h h2 h3) h4
theorem fnD (h : p ≤ k) (h2 : k < p + w) : k - p < w := Nat.sub_lt_left_of_lt_add h h2
theorem fnE (h : n < t + 2) : n - (t + 1) = 0 := Nat.sub_eq_zero_of_le (Nat.le_of_lt_succ h)
theorem fnF (h : ¬n < p) (h2 : n - p + 1 = m) : n + 1 = p + m := by rw [← h2, ← Nat.add_assoc, Nat.add_sub_of_le (Nat.le_of_not_lt h)]
theorem tnS : ((b : Int) - (a : Int)).toNat = b - a := Int.toNat_sub b a
theorem leS : n ≤ s + (n - s) := Nat.sub_le_iff_le_add'.mp (Nat.le_refl _)
theorem leB (h : n ≤ B) : n ≤ B - A + A := Nat.le_trans h (Nat.sub_le_iff_le_add.mp (Nat.le_refl _))
theorem leM : min i n ≤ i - d + d := Nat.le_trans (Nat.min_le_left _ _) (leB (Nat.le_refl i))
theorem adS (h : s ≤ n) : s + (n - s) = n := Nat.add_sub_of_le h
theorem adS' (h : s ≤ n) : n = s + (n - s) := (Nat.add_sub_of_le h).symm
theorem adN (h : ¬n < s) : n = s + (n - s) := (Nat.add_sub_of_le (Nat.le_of_not_lt h)).symm
theorem adM (h : ¬n ≤ s) : s + (n - s) = n := Nat.add_sub_of_le (Nat.le_of_lt (Nat.lt_of_not_le h))
theorem adL (h : s ≤ n) : s + (n - s) ≤ n := Nat.le_of_eq (Nat.add_sub_of_le h)
theorem adK (h : n = s + k) : n - s = k := h ▸ Nat.add_sub_cancel_left s k
theorem ltC (h : n = c) (w : Nat.ble (d + 1) c = true) : d - i < n := h ▸ Nat.lt_of_le_of_lt (Nat.sub_le _ _) (Nat.le_of_ble_eq_true w)
theorem m3 : 3 * (n - s) + 5 ≤ 3 * n + 6 := Nat.add_le_add (Nat.mul_le_mul_left 3 (Nat.sub_le n s)) (by decide)
theorem erL (h2 : m ≤ t) (h3 : t ≤ k - 1) (h : k ≤ c) : m ≤ c := Nat.le_trans h2 (Nat.le_trans h3 (Nat.le_trans (Nat.sub_le _ _) h))
theorem laL (h2 : m ≤ t) (h3 : t ≤ c - k) : m ≤ c := Nat.le_trans h2 (Nat.le_trans h3 (Nat.sub_le _ _))
theorem zS (h : m ≤ n) : (n : Int) - (m : Int) = ((n - m : Nat) : Int) := (Int.natCast_sub h).symm
theorem zT (h : m ≤ n) : (n : Int) - ((n - m : Nat) : Int) = (m : Int) := (Int.natCast_sub (Nat.sub_le _ _)).symm.trans (congrArg _ (Nat.sub_sub_self h))
theorem zU (h : 1 ≤ s) : ((0 + s - 1 : Nat) : Int) = (s : Int) - 1 := by rw [Nat.zero_add]; exact Int.natCast_sub h
theorem miA (h : b < min L n - 0) : b < L := Nat.lt_of_lt_of_le h (Nat.min_le_left _ _)
theorem miB (h : b < L) (h2 : b < n) : b < min L n - 0 := Nat.lt_min.mpr ⟨h, h2⟩
theorem miC : min L n - 0 ≤ L := Nat.min_le_left _ _
theorem bmA : n ≤ max n x := Nat.le_max_left _ _
theorem bmB (h : ¬b < n) : n + (b - n + 1) ≤ max n (b + 1) := Nat.le_trans (Nat.le_of_eq (congrArg (· + 1) (Nat.add_sub_of_le (Nat.le_of_not_lt h)))) (Nat.le_max_right _ _)
theorem bmC (h3 : m ≤ max n (b + 1)) (h2 : b + 1 + r ≤ c) (h : n ≤ c) : m ≤ c := Nat.le_trans h3 (Nat.max_le.mpr ⟨h, Nat.le_trans (Nat.le_add_right _ _) h2⟩)
theorem mal (h : B ≤ n) (h2 : A ≤ n) (h3 : B - A = n) : A = 0 := Nat.le_zero.mp (Nat.le_of_add_le_add_left (a := n) (Nat.le_trans (Nat.add_le_of_le_sub h2 (Nat.le_trans (Nat.le_of_eq h3.symm) (Nat.sub_le_sub_right h A))) (Nat.le_refl n)))
theorem ltS (h : n - i = k + 1) : i < n := Nat.lt_of_sub_pos (h ▸ Nat.succ_pos k)
theorem zS0 (h : d ≤ i) (h2 : ¬d < i) : i - d = 0 := Nat.sub_eq_zero_of_le (Nat.le_of_not_lt h2)
theorem eqS (h : i ≤ n) (h2 : n - i = 0) : i = n := Nat.le_antisymm h (Nat.sub_eq_zero_iff_le.mp h2)
theorem c1I : ((n : Int) ≤ 1) ↔ n ≤ 1 := Int.ofNat_le (n := 1)
theorem c0I : (0 < (n : Int)) ↔ 0 < n := Int.ofNat_lt (n := 0)
theorem tsL (h : n ≤ a) (h2 : t ≤ b) (w : Nat.ble (b + a) C = true) : t + (n - t) ≤ C := wk (Nat.add_le_add h2 (Nat.le_trans (Nat.sub_le _ _) h)) w
theorem s1L (h : 1 ≤ s) (h2 : s ≤ c) : s - 1 < c := Nat.lt_of_lt_of_le (Nat.sub_lt h Nat.one_pos) h2
theorem tnL {z : Int} (h : 0 ≤ z) (h2 : z.toNat < n) : z < (n : Int) := (Int.toNat_lt h).mp h2
theorem tnW {z : Int} (h : z ≤ 100) : z.toNat ≤ 1048576 := Int.toNat_le.mpr (Int.le_trans h (by decide))
theorem fnZ {f : Int} (h : ¬f < 0) : f + (w : Int) = ((f.toNat + w : Nat) : Int) := by rw [Int.natCast_add, Int.toNat_of_nonneg (Int.not_lt.mp h)]
theorem unL (h : m ≤ i) (h2 : i < n + 1 - 1) (h3 : n ≤ c) (w : Nat.ble c C = true) : m ≤ C := wk (Nat.le_trans h (Nat.le_trans (Nat.le_of_lt h2) h3)) w
theorem pwL (h : a ≤ b) (h2 : b ≤ 7 ^ 6) : a < 2 ^ 62 := Nat.lt_of_le_of_lt (Nat.le_trans h h2) (by decide)
theorem or3 (h : m < 3) : m = 0 ∨ m = 1 ∨ m = 2 := (Nat.lt_succ_iff_lt_or_eq.mp h).elim (fun h => (Nat.lt_succ_iff_lt_or_eq.mp h).elim (fun h => .inl (Nat.lt_one_iff.mp h)) fun h => .inr (.inl h)) fun h => .inr (.inr h)
theorem naA {z : Int} (h : z.natAbs < 2 ^ 62) : z < 2 ^ 64 := Int.lt_of_le_of_lt Int.le_natAbs (Int.lt_of_lt_of_le (Int.ofNat_lt.mpr h) (by decide))
theorem naB {z : Int} (h : z.natAbs ≤ 1048576) : ¬2 ^ 63 ≤ z := Int.not_le.mpr (Int.lt_of_le_of_lt (Int.le_trans Int.le_natAbs (Int.ofNat_le.mpr h)) (by decide))
theorem naC {z : Int} (h : z.natAbs ≤ 1048576) : -2 ^ 63 ≤ z := Int.le_trans (by decide : (-2 : Int) ^ 63 ≤ -1048576) (Int.neg_le_of_neg_le (Int.le_trans (Int.natAbs_neg z ▸ Int.le_natAbs) (Int.ofNat_le.mpr h)))
theorem nI {z : Int} (h : z ≤ 1000) (h2 : -1000 ≤ z) : -9223372036854775808 ≤ z ∧ z < 9223372036854775808 := ⟨Int.le_trans (by decide) h2, Int.lt_of_le_of_lt h (by decide)⟩
theorem ilB {u v : Int} (h1 : 0 ≤ u) (h2 : u ≤ 1000000 * (m : Int)) (h3 : 0 ≤ v) (h4 : v ≤ 1000 * 1000) : 0 ≤ u + v ∧ u + v ≤ 1000000 * ((m + 1 : Nat) : Int) := ⟨Int.add_nonneg h1 h3, Int.le_trans (Int.add_le_add h2 h4) (Int.le_of_eq (by rw [Int.natCast_add, Int.mul_add]; rfl))⟩
theorem le2 (h : a ≤ b) (h2 : b ≤ c) (w : Nat.ble c C = true) : a ≤ C := wk (Nat.le_trans h h2) w
theorem ltW (h : n < c) (w : Nat.ble c C = true) : n < C := Nat.lt_of_lt_of_le h (Nat.le_of_ble_eq_true w)
theorem lsW (h : n ≤ c) (w : Nat.ble (c + 1) C = true) : n < C := Nat.lt_of_le_of_lt h (Nat.le_of_ble_eq_true w)
theorem ad2 (h : m ≤ a) (h2 : n ≤ b) (w : Nat.ble (a + b) C = true) : m + n ≤ C := wk (Nat.add_le_add h h2) w
theorem adc (h : m ≤ a) (w : Nat.ble (a + k) C = true) : m + k ≤ C := wk (Nat.add_le_add_right h k) w
theorem adc' (h : m ≤ a) (w : Nat.ble (k + a) C = true) : k + m ≤ C := wk (Nat.add_le_add_left h k) w
end
end
section
inductive X where
 | d (p : PyData)
 | w (raw : Str) (n nt : Int) (cnt : List Int) (tr : Int) (sm : Bool)
 | r (a : Nat)
noncomputable abbrev Sig := Str → Option X
noncomputable def put (σ : Sig) (x : Str) (v : X) : Sig := fun y => if y = x then some v else σ y
structure Tab where
 const : Str → Option PyData
 cat : Str → Str → Option PyData
 fn : Str → List X → Option X
 gen : Str → PyData → Option (List PyData)
 mt : Str → List X → Option X
 pat : Str → Str → Str → Option Str := fun _ _ _ => none
noncomputable def lim : Nat := 1048576
noncomputable def short (n : Nat) : Bool := decide (n ≤ lim)
noncomputable def constD : Const → Option PyData
 | .none => some .none
 | .bool b => some (.bool b)
 | .int i => some (.int i)
 | .str s => if short s.length then some (.str s) else none
 | _ => none
noncomputable def intsD (l : List Int) : List PyData := l.map PyData.int
noncomputable def charsD (x : Str) : List PyData := x.cps.toList.map fun c => .str ⟨#[c]⟩
noncomputable def X.data : X → Option PyData
 | .d p => some p
 | .w .. => none
 | .r _ => none
noncomputable def intV : PyData → Option Int
 | .int i => some i
 | _ => none
noncomputable def strV : PyData → Option Str
 | .str x => some x
 | _ => none
noncomputable def listV : PyData → Option (List PyData)
 | .list l => some l
 | _ => none
noncomputable def tupV : PyData → Option (List PyData)
 | .tuple l => some l
 | _ => none
noncomputable def boolV : PyData → Option Bool
 | .bool b => some b
 | _ => none
noncomputable def noneV : PyData → Bool
 | .none => true
 | _ => false
noncomputable def dO (o : Option X) : Option PyData := o.bind X.data
noncomputable def one {α : Type} : List α → Option α
 | [] => none
 | [a] => some a
 | _ :: _ :: _ => none
noncomputable def two {α : Type} : List α → Option (α × α)
 | [] => none
 | a :: r => (one r).map fun b => (a, b)
noncomputable def three {α : Type} : List α → Option (α × α × α)
 | [] => none
 | a :: r => (two r).map fun b => (a, b)
theorem none_ {α : Type} {P : Prop} {b : α} (h : (none : Option α) = some b) : P := nomatch h
theorem sm_ {α : Type} {a b : α} (h : some a = some b) : a = b := Option.some.inj h
@[elab_as_elim] theorem smE {α : Type} {P : α → Prop} {a b : α} (h : some a = some b) (k : P a) : P b := Option.some.inj h ▸ k
theorem bndE {α β : Type} {o : Option α} {f : α → Option β} {b : β} {P : Prop} (h : o.bind f = some b) (k : ∀ a, o = some a → f a = some b → P) : P := let ⟨a, h1, h2⟩ := Option.bind_eq_some_iff.mp h; k a h1 h2
theorem bnd {α β : Type} {o : Option α} {f : α → Option β} {b : β} (h : o.bind f = some b) : ∃ a, o = some a ∧ f a = some b := Option.bind_eq_some_iff.mp h
theorem mpd {α β : Type} {o : Option α} {f : α → β} {b : β} (h : o.map f = some b) : ∃ a, o = some a ∧ f a = b := Option.map_eq_some_iff.mp h
theorem ifd {α : Type} {c : Prop} [Decidable c] {o : Option α} {b : α} (h : (if c then o else none) = some b) : c ∧ o = some b := by
 by_cases q : c
 ·rw [if_pos q] at h; exact ⟨q, h⟩
 ·rw [if_neg q] at h; exact none_ h
theorem ifE {α : Type} {c : Prop} [Decidable c] {o : Option α} {b : α} {P : Prop} (h : (if c then o else none) = some b) (k : c → o = some b → P) : P := k (ifd h).1 (ifd h).2
theorem lt_0 {P : Nat → Prop} : ∀ i, i < 0 → P i := fun _ h => absurd h (Nat.not_lt_zero _)
theorem lt_S {P : Nat → Prop} {n : Nat} (h : ∀ i, i < n → P i) (hn : P n) : ∀ i, i < n + 1 → P i := fun i hi => (Nat.lt_succ_iff_lt_or_eq.mp hi).elim (h i) fun e => e ▸ hn
theorem lt_8 {P : Nat → Prop} (h0 : P 0) (h1 : P 1) (h2 : P 2) (h3 : P 3) (h4 : P 4) (h5 : P 5) (h6 : P 6) (h7 : P 7) : ∀ i, i < 8 → P i := lt_S (lt_S (lt_S (lt_S (lt_S (lt_S (lt_S (lt_S lt_0 h0) h1) h2) h3) h4) h5) h6) h7
theorem lt_6 {P : Nat → Prop} (h0 : P 0) (h1 : P 1) (h2 : P 2) (h3 : P 3) (h4 : P 4) (h5 : P 5) : ∀ i, i < 6 → P i := lt_S (lt_S (lt_S (lt_S (lt_S (lt_S lt_0 h0) h1) h2) h3) h4) h5
theorem bnI {α β : Type} {o : Option α} {f : α → Option β} {a : α} {b : Option β} (h : o = some a) (h2 : f a = b) : o.bind f = b := by rw [h]; exact h2
theorem mpI {α β : Type} {o : Option α} {f : α → β} {a : α} (h : o = some a) : o.map f = some (f a) := by rw [h]; rfl
theorem dOI {o : Option X} {p : PyData} (h : o = some (.d p)) : dO o = some p := bnI h rfl
theorem dOd {o : Option X} {p : PyData} (h : dO o = some p) : o = some (.d p) := by
 obtain ⟨v, h1, h2⟩ := bnd h
 cases v with
 | d q => obtain rfl := sm_ h2; exact h1
 | w => cases h2
 | r => cases h2
theorem optE {α β : Type} {o : Option α} {f : α → Option β} {g : Option β} {r : β} {P : Prop} (h : o.elim g f = some r) (k1 : ∀ a, o = some a → f a = some r → P) (k2 : o = none → g = some r → P) : P := by
 cases q : o with
 | none => rw [q] at h; exact k2 q h
 | some a => rw [q] at h; exact k1 a q h
theorem intV_ {p : PyData} {i : Int} (h : intV p = some i) : p = .int i := by cases p <;> first | exact none_ h | exact congrArg PyData.int (sm_ h)
theorem strV_ {p : PyData} {i : Str} (h : strV p = some i) : p = .str i := by cases p <;> first | exact none_ h | exact congrArg PyData.str (sm_ h)
theorem listV_ {p : PyData} {i : List PyData} (h : listV p = some i) : p = .list i := by cases p <;> first | exact none_ h | exact congrArg PyData.list (sm_ h)
theorem tupV_ {p : PyData} {i : List PyData} (h : tupV p = some i) : p = .tuple i := by cases p <;> first | exact none_ h | exact congrArg PyData.tuple (sm_ h)
theorem boolV_ {p : PyData} {i : Bool} (h : boolV p = some i) : p = .bool i := by cases p <;> first | exact none_ h | exact congrArg PyData.bool (sm_ h)
theorem noneV_ {p : PyData} (h : noneV p = true) : p = .none := by cases p <;> first | rfl | exact (Bool.false_ne_true h).elim
theorem one_ {α : Type} {l : List α} {a : α} (h : one l = some a) : l = [a] := by
 cases l with
 | nil => exact none_ h
 | cons x r =>
  cases r with
  | nil => exact congrArg (· :: []) (sm_ h)
  | cons y r => exact none_ h
theorem two_ {α : Type} {l : List α} {a : α × α} (h : two l = some a) : l = [a.1, a.2] := by
 cases l with
 | nil => exact none_ h
 | cons x r => obtain ⟨b, h1, rfl⟩ := mpd h; rw [one_ h1]
theorem three_ {α : Type} {l : List α} {a : α × α × α} (h : three l = some a) : l = [a.1, a.2.1, a.2.2] := by
 cases l with
 | nil => exact none_ h
 | cons x r => obtain ⟨b, h1, rfl⟩ := mpd h; rw [two_ h1]
noncomputable def addD (a b : PyData) : Option PyData := match a with
 | .int a => (intV b).bind fun b => some (.int (a + b))
 | .str a => (strV b).bind fun b => if short a.length && short b.length && short (a.length + b.length) then some (.str (a ++ b)) else none
 | .list a => (listV b).bind fun b => if short a.length && short b.length then some (.list (a ++ b)) else none
 | _ => none
noncomputable def mulD (a b : PyData) : Option PyData := match a with
 | .int a => (intV b).bind fun b => if decide (a.natAbs < 2 ^ 62) && decide (b.natAbs < 2 ^ 62) then some (.int (a * b)) else none
 | .str a => (intV b).bind fun n => if short a.length && decide (n ≤ 1000) && decide (-1000 ≤ n) && short (a.length * n.toNat) then some (.str ⟨(List.replicate n.toNat a.cps.toList).flatten.toArray⟩) else none
 | .list a => (intV b).bind fun n => if short a.length && decide (n ≤ 1000) && decide (-1000 ≤ n) && short (a.length * n.toNat) then some (.list (List.replicate n.toNat a).flatten) else none
 | _ => none
noncomputable def intsF {α : Type} (a b : PyData) (f : Int → Int → Option α) : Option α := (intV a).bind fun a => (intV b).bind fun b => f a b
noncomputable def binD (op : Operator) (a b : PyData) : Option PyData := match op with
 | .Add => addD a b
 | .Sub => intsF a b fun a b => some (.int (a - b))
 | .Mult => mulD a b
 | .Mod => intsF a b fun a b => if ¬(b = 0 ∨ b.natAbs ≥ 2 ^ 20) then some (.int (a.fmod b)) else none
 | .FloorDiv => intsF a b fun a b => if ¬(b = 0 ∨ b.natAbs ≥ 2 ^ 20) then some (.int (a.fdiv b)) else none
 | .Pow => intsF a b fun a b => if decide (0 ≤ b) && decide (b ≤ 1000) && decide (a.natAbs < 2 ^ 62) then some (.int (a ^ b.toNat)) else none
 | _ => none
noncomputable def truthD : PyData → Option Bool
 | .bool b => some b
 | .int i => some (decide (i ≠ 0))
 | .str x => if short x.length then some (decide (x.length ≠ 0)) else none
 | _ => none
noncomputable def isD (a b : PyData) : Option Bool := match a with
 | .bool a => (boolV b).bind fun b => some (a == b)
 | .none => if noneV b then some true else none
 | .int _ => if noneV b then some false else none
 | _ => none
noncomputable def inD (x : Str) (b : PyData) : Option Bool := match b with
 | .str y => if short x.length && short y.length then some (!(Builtin.Str.occurrences y x 0 y.length 1).isEmpty) else none
 | .tuple l => if SeqAt.shaped (.str x) && SeqAt.shaped (.tuple l) then some (l.any fun y => PyData.eqv y (.str x)) else none
 | _ => none
noncomputable def cmpD (op : CmpOp) (a b : PyData) : Option Bool := match op with
 | .Eq => if SeqAt.shaped a && SeqAt.shaped b then some (PyData.eqv a b) else none
 | .NotEq => if SeqAt.shaped a && SeqAt.shaped b then some (!PyData.eqv a b) else none
 | .Lt => intsF a b fun a b => some (decide (a < b))
 | .LtE => intsF a b fun a b => some (decide (a ≤ b))
 | .Gt => intsF a b fun a b => some (decide (a > b))
 | .GtE => intsF a b fun a b => some (decide (a ≥ b))
 | .Is => isD a b
 | .IsNot => (boolV a).bind fun a => (boolV b).bind fun b => some (!(a == b))
 | .In => (strV a).bind fun x => inD x b
 | .NotIn => (strV a).bind fun x => (strV b).bind fun y => if short x.length && short y.length then some ((Builtin.Str.occurrences y x 0 y.length 1).isEmpty) else none
noncomputable def at? {α : Type} (l : List α) (i : Int) : Option α := if 0 ≤ i then l[i.toNat]? else if 0 ≤ i + l.length then l[(i + l.length).toNat]? else none
noncomputable def subD (a b : PyData) : Option PyData := (intV b).bind fun i => if short i.natAbs then (match a with
 | .list l => at? l i
 | .tuple l => at? l i
 | .str x => (at? x.cps.toList i).map fun c => .str ⟨#[c]⟩
 | _ => none) else none
noncomputable def eLst (o : Option X) : Option (List PyData) := (dO o).bind listV
noncomputable def eInt (o : Option X) : Option Int := (dO o).bind intV
theorem eLst_ {o : Option X} {l : List PyData} (h : eLst o = some l) : o = some (.d (.list l)) := bndE h fun _ h1 h2 => listV_ h2 ▸ dOd h1
theorem eInt_ {o : Option X} {i : Int} (h : eInt o = some i) : o = some (.d (.int i)) := bndE h fun _ h1 h2 => intV_ h2 ▸ dOd h1
theorem eLI {o : Option X} {l : List PyData} (h : o = some (.d (.list l))) : eLst o = some l := bnI (dOI h) rfl
theorem eII {o : Option X} {i : Int} (h : o = some (.d (.int i))) : eInt o = some i := bnI (dOI h) rfl
noncomputable def cutL {α : Type} (l : List α) (a b : Option Nat) : List α := (l.drop (a.getD 0)).take (b.getD l.length - a.getD 0)
noncomputable def sliceD (p : PyData) (a b : Option Nat) : Option PyData := match p with
 | .list l => if short l.length then some (.list (cutL l a b)) else none
 | .str x => if short x.length then some (.str ⟨(cutL x.cps.toList a b).toArray⟩) else none
 | _ => none
noncomputable def strsD : List PyData → Option (List Str)
 | [] => some []
 | p :: r => (strV p).bind fun x => (strsD r).map (x :: ·)
noncomputable def intsOf : List PyData → Option (List Int)
 | [] => some []
 | p :: r => (intV p).bind fun x => (intsOf r).map (x :: ·)
noncomputable def sumLen : List Str → Nat
 | [] => 0
 | x :: r => x.length + sumLen r
noncomputable def itemsD : PyData → Option (List PyData)
 | .list l => some l
 | .tuple l => some l
 | .str x => if short x.length then some (charsD x) else none
 | _ => none
noncomputable def rangeL (a b : Int) : List Int := (List.range (b - a).toNat).map fun (k : Nat) => a + (k : Int)
noncomputable def maxL : List Int → Int → Int
 | [], m => m
 | x :: r, m => maxL r (if m < x then x else m)
noncomputable def len1 : PyData → Option PyData
 | .list l => if short l.length then some (.int l.length) else none
 | .tuple l => if short l.length then some (.int l.length) else none
 | .str x => if short x.length then some (.int x.length) else none
 | _ => none
noncomputable def lenD (ps : List PyData) : Option PyData := (one ps).bind len1
noncomputable def sumD (ps : List PyData) : Option PyData := (one ps).bind fun p => (listV p).bind fun l => (intsOf l).map fun ns => .int ns.sum
noncomputable def maxOf : List Int → Option PyData
 | [] => none
 | n :: ns => some (.int (maxL ns n))
noncomputable def maxD (ps : List PyData) : Option PyData := (one ps).elim ((two ps).bind fun q => intsF q.1 q.2 fun a b => some (.int (if b > a then b else a))) fun p => (listV p).bind fun l => (intsOf l).bind maxOf
noncomputable def tupleD (ps : List PyData) : Option PyData := (one ps).bind fun p => (listV p).bind fun l => if decide (l.length ≤ 16384) then some (.tuple l) else none
noncomputable def chrD (ps : List PyData) : Option PyData := (one ps).bind fun p => (intV p).bind fun i => if 0 ≤ i ∧ i < 128 then some (.str ⟨#[i.toNat]⟩) else none
noncomputable def builtD (f : Str) (args : List PyData) : Option PyData :=
 if f = "len" then lenD args else if f = "sum" then sumD args else if f = "max" then maxD args
 else if f = "tuple" then tupleD args else if f = "chr" then chrD args else none
noncomputable def findAt (x y : Str) (i j : Nat) : Int := match Builtin.Str.occurrences x y i j 1 with | k :: _ => (k : Int) | [] => -1
noncomputable def methS (x m y : Str) : Option PyData :=
  if short x.length && short y.length then
   if m = "startswith" then some (.bool (Txt.startswith x y))
   else if m = "endswith" then some (.bool (Txt.endswith x y))
   else if m = "lstrip" then some (.str (Txt.lstripChars x y))
   else if m = "split" then (if ¬y.length = 0 then some (.list ((Txt.split x y).map .str)) else none)
   else none
  else none
noncomputable def joinT (x : Str) (l : List PyData) : Option PyData := (strsD l).bind fun ss => if short x.length && short l.length && short (sumLen ss) && short (x.length * l.length) then some (.str (Txt.join x ss)) else none
noncomputable def meth1 (x m : Str) (p : PyData) : Option PyData := match p with
 | .str y => methS x m y
 | .list l => if m = "join" then joinT x l else none
 | _ => none
noncomputable def methD (x : Str) (m : Str) (args : List PyData) : Option PyData := (one args).elim ((three args).bind fun t => (strV t.1).bind fun y => intsF t.2.1 t.2.2 fun i j =>
  if m = "find" then (if short x.length && short y.length && decide (0 ≤ i) && decide (i ≤ lim) && decide (0 ≤ j) && decide (j ≤ x.length) then some (.int (findAt x y i.toNat j.toNat)) else none) else none) fun p => meth1 x m p
noncomputable def attrX : X → Str → Option PyData
 | .w raw n nt cnt tr sm, a =>
  if a = "raw" then some (.str raw)
  else if a = "n" then some (.int n)
  else if a = "nt" then some (.int nt)
  else if a = "norm" then some (.tuple [.tuple (intsD cnt), .int tr])
  else if a = "is_simple" then some (.bool sm)
  else none
 | _, _ => none
noncomputable abbrev Kd := Str → Option NameKind
noncomputable def okName (x : Str) : Bool := !(x == ("__debug__" : Str)) && !(x == ("__classdict__" : Str))
noncomputable def isVar : Option NameKind → Bool
 | some .local => true
 | some .cell => true
 | some .free => true
 | _ => false
structure Fx where
 T : Tab
 kd : Kd
 own : List Str
 own2 : List Str
noncomputable def nameP (e : Expr) : Option (Str × Pos) := if h : e.ctorIdx = 23 then Expr.Name.elim (motive_1 := fun _ => Option (Str × Pos)) e h fun x p => some (x, p) else none
noncomputable def nameV (e : Expr) : Option Str := if h : e.ctorIdx = 23 then Expr.Name.elim (motive_1 := fun _ => Option Str) e h fun x _ => some x else none
noncomputable def isName (e : Expr) : Bool := decide (e.ctorIdx = 23)
noncomputable def callV (e : Expr) : Option (Str × List Expr) := if h : e.ctorIdx = 16 then Expr.Call.elim (motive_1 := fun _ => Option (Str × List Expr)) e h fun f as ks _ => if ks.isEmpty then (nameV f).map fun g => (g, as) else none else none
noncomputable def call1V (e : Expr) : Option (Str × Expr) := (callV e).bind fun c => (one c.2).map fun a => (c.1, a)
noncomputable def isSlice (e : Expr) : Bool := decide (e.ctorIdx = 26)
noncomputable def sliceV (e : Expr) : Option (Option Expr × Option Expr) := if h : e.ctorIdx = 26 then Expr.Slice.elim (motive_1 := fun _ => Option (Option Expr × Option Expr)) e h fun lo up st _ => if st.isNone then some (lo, up) else none else none
noncomputable def subV (e : Expr) : Option (Expr × Expr) := if h : e.ctorIdx = 21 then Expr.Subscript.elim (motive_1 := fun _ => Option (Expr × Expr)) e h fun v i _ => some (v, i) else none
noncomputable def tupE (e : Expr) : Option (List Expr) := if h : e.ctorIdx = 25 then Expr.Tuple.elim (motive_1 := fun _ => Option (List Expr)) e h fun es _ _ => some es else none
noncomputable def genV (gs : List Comprehension) : Option (Expr × Expr × List Expr) := (one gs).bind fun g => if g.is_async = 0 then some (g.target, g.iter, g.ifs) else none
noncomputable def compV (e : Expr) : Option (Expr × (Expr × Expr × List Expr) × Scope × Pos) := if h : e.ctorIdx = 8 then Expr.ListComp.elim (motive_1 := fun _ => Option (Expr × (Expr × Expr × List Expr) × Scope × Pos)) e h fun elt gens sc p => (genV gens).map fun g => (elt, g, sc, p) else none
noncomputable def intC : Const → Option Int
 | .int i => some i
 | _ => none
noncomputable def constV (e : Expr) : Option Const := if h : e.ctorIdx = 19 then Expr.Constant.elim (motive_1 := fun _ => Option Const) e h fun c _ _ => some c else none
noncomputable def numV (e : Expr) : Option Int := (constV e).bind intC
noncomputable def listE (e : Expr) : Option (List Expr) := if h : e.ctorIdx = 24 then Expr.List.elim (motive_1 := fun _ => Option (List Expr)) e h fun es _ => some es else none
noncomputable def binE (e : Expr) : Option (Expr × Operator × Expr) := if h : e.ctorIdx = 2 then Expr.BinOp.elim (motive_1 := fun _ => Option (Expr × Operator × Expr)) e h fun l op r _ => some (l, op, r) else none
noncomputable def boolE (e : Expr) : Option (BoolOp × List Expr) := if h : e.ctorIdx = 0 then Expr.BoolOp.elim (motive_1 := fun _ => Option (BoolOp × List Expr)) e h fun op es _ => some (op, es) else none
noncomputable def cmpE (e : Expr) : Option (Expr × CmpOp × Expr) := if h : e.ctorIdx = 15 then Expr.Compare.elim (motive_1 := fun _ => Option (Expr × CmpOp × Expr)) e h fun l ops rs _ => (one ops).bind fun op => (one rs).map fun r => (l, op, r) else none
noncomputable def methV (e : Expr) : Option (Expr × Str × Pos) := if h : e.ctorIdx = 20 then Expr.Attribute.elim (motive_1 := fun _ => Option (Expr × Str × Pos)) e h fun o m p => some (o, m, p) else none
noncomputable def appV (e : Expr) : Option (Expr × Expr × Pos) := if h : e.ctorIdx = 16 then Expr.Call.elim (motive_1 := fun _ => Option (Expr × Expr × Pos)) e h fun f as ks p => if ks.isEmpty then (one as).map fun a => (f, a, p) else none else none
noncomputable def cfunE (e : Expr) : Option Expr := if h : e.ctorIdx = 16 then Expr.Call.elim (motive_1 := fun _ => Option Expr) e h fun f _ _ _ => some f else none
noncomputable def rowV (e : Expr) : Option (Int × Int) := (binE e).bind fun b => if b.2.1 = .Mult then (listE b.1).bind fun es => (one es).bind fun e => (numV e).bind fun c => (numV b.2.2).map fun n => (c, n) else none
theorem difd {α : Type} {c : Prop} [Decidable c] {f : c → Option α} {b : α} (h : (if q : c then f q else none) = some b) : ∃ q, f q = some b := by
 by_cases q : c
 ·rw [dif_pos q] at h; exact ⟨q, h⟩
 ·rw [dif_neg q] at h; exact none_ h
theorem nameP_ {e : Expr} {x : Str × Pos} (h : nameP e = some x) : e = .Name x.1 x.2 :=
 Expr.Name.elim (motive_1 := fun e => nameP e = some x → e = .Name x.1 x.2) e (difd h).1 (fun _ _ h => by obtain rfl := sm_ h; rfl) h
theorem nameV_ {e : Expr} {x : Str} (h : nameV e = some x) : ∃ p, e = .Name x p :=
 Expr.Name.elim (motive_1 := fun e => nameV e = some x → ∃ p, e = .Name x p) e (difd h).1 (fun _ p h => ⟨p, by cases h; rfl⟩) h
theorem nil_ {α : Type} {l : List α} (h : l.isEmpty = true) : l = [] := List.isEmpty_iff.mp h
theorem callV_ {e : Expr} {c : Str × List Expr} (h : callV e = some c) : ∃ p q, e = .Call (.Name c.1 p) c.2 [] q :=
 Expr.Call.elim (motive_1 := fun e => callV e = some c → ∃ p q, e = .Call (.Name c.1 p) c.2 [] q) e (difd h).1 (fun f as ks q h => by
  obtain ⟨h1, h2⟩ := ifd h
  obtain ⟨g, h3, rfl⟩ := mpd h2
  obtain ⟨p, rfl⟩ := nameV_ h3
  rw [nil_ h1]
  exact ⟨p, q, rfl⟩) h
@[elab_as_elim] theorem call1V_ {e : Expr} {c : Str × Expr} {P : Expr → Prop} (h : call1V e = some c) (k : ∀ p q, P (.Call (.Name c.1 p) [c.2] [] q)) : P e :=
 bndE h fun d h1 h2 => by
  obtain ⟨a, h3, rfl⟩ := mpd h2
  obtain ⟨p, q, rfl⟩ := callV_ h1
  exact (one_ h3) ▸ k p q
theorem sliceV_ {e : Expr} {c : Option Expr × Option Expr} (h : sliceV e = some c) : ∃ q, e = .Slice c.1 c.2 none q :=
 Expr.Slice.elim (motive_1 := fun e => sliceV e = some c → ∃ q, e = .Slice c.1 c.2 none q) e (difd h).1 (fun lo up st q h => by
  obtain ⟨h1, h2⟩ := ifd h
  obtain rfl := sm_ h2
  rw [Option.isNone_iff_eq_none.mp h1]
  exact ⟨q, rfl⟩) h
theorem subV_ {e : Expr} {c : Expr × Expr} (h : subV e = some c) : ∃ p, e = .Subscript c.1 c.2 p :=
 Expr.Subscript.elim (motive_1 := fun e => subV e = some c → ∃ p, e = .Subscript c.1 c.2 p) e (difd h).1 (fun _ _ p h => ⟨p, by obtain rfl := sm_ h; rfl⟩) h
theorem tupE_ {e : Expr} {c : List Expr} (h : tupE e = some c) : ∃ k p, e = .Tuple c k p :=
 Expr.Tuple.elim (motive_1 := fun e => tupE e = some c → ∃ k p, e = .Tuple c k p) e (difd h).1 (fun _ k p h => ⟨k, p, by cases h; rfl⟩) h
theorem methV_ {e : Expr} {c : Expr × Str × Pos} (h : methV e = some c) : e = .Attribute c.1 c.2.1 c.2.2 :=
 Expr.Attribute.elim (motive_1 := fun e => methV e = some c → e = .Attribute c.1 c.2.1 c.2.2) e (difd h).1 (fun _ _ _ h => by cases h; rfl) h
theorem appV_ {e : Expr} {c : Expr × Expr × Pos} (h : appV e = some c) : e = .Call c.1 [c.2.1] [] c.2.2 :=
 Expr.Call.elim (motive_1 := fun e => appV e = some c → e = .Call c.1 [c.2.1] [] c.2.2) e (difd h).1 (fun f as ks q h => by
  obtain ⟨h1, h2⟩ := ifd h
  obtain ⟨g, h3, rfl⟩ := mpd h2
  rw [nil_ h1, one_ h3]) h
theorem boolE_ {e : Expr} {c : BoolOp × List Expr} (h : boolE e = some c) : ∃ p, e = .BoolOp c.1 c.2 p :=
 Expr.BoolOp.elim (motive_1 := fun e => boolE e = some c → ∃ p, e = .BoolOp c.1 c.2 p) e (difd h).1 (fun _ _ p h => ⟨p, by cases h; rfl⟩) h
theorem cmpE_ {e : Expr} {c : Expr × CmpOp × Expr} (h : cmpE e = some c) : ∃ p, e = .Compare c.1 [c.2.1] [c.2.2] p :=
 Expr.Compare.elim (motive_1 := fun e => cmpE e = some c → ∃ p, e = .Compare c.1 [c.2.1] [c.2.2] p) e (difd h).1 (fun l ops rs p h => by
  obtain ⟨op, h1, h⟩ := bnd h
  obtain ⟨r, h2, rfl⟩ := mpd h
  exact ⟨p, by rw [one_ h1, one_ h2]⟩) h
theorem gen_mk {c : Comprehension} (h : c.is_async = 0) : c = ⟨c.target, c.iter, c.ifs, 0⟩ := by cases c; exact congrArg (Comprehension.mk _ _ _) h
theorem genV_ {gs : List Comprehension} {g : Expr × Expr × List Expr} (h : genV gs = some g) : gs = [⟨g.1, g.2.1, g.2.2, 0⟩] :=
 bndE h fun c h1 h2 => ifE h2 fun h3 h4 => (one_ h1).trans (sm_ h4 ▸ congrArg (· :: []) (gen_mk h3))
theorem compV_ {e : Expr} {c : Expr × (Expr × Expr × List Expr) × Scope × Pos} (h : compV e = some c) : e = .ListComp c.1 [⟨c.2.1.1, c.2.1.2.1, c.2.1.2.2, 0⟩] c.2.2.1 c.2.2.2 :=
 Expr.ListComp.elim (motive_1 := fun e => compV e = some c → e = .ListComp c.1 [⟨c.2.1.1, c.2.1.2.1, c.2.1.2.2, 0⟩] c.2.2.1 c.2.2.2) e (difd h).1 (fun _ _ _ _ h => by
  obtain ⟨g, h1, rfl⟩ := mpd h
  rw [genV_ h1]) h
theorem constV_ {e : Expr} {c : Const} (h : constV e = some c) : ∃ u p, e = .Constant c u p :=
 Expr.Constant.elim (motive_1 := fun e => constV e = some c → ∃ u p, e = .Constant c u p) e (difd h).1 (fun _ u p h => ⟨u, p, by obtain rfl := sm_ h; rfl⟩) h
theorem intC_ {c : Const} {i : Int} (h : intC c = some i) : c = .int i := by cases c <;> first | exact none_ h | exact congrArg Const.int (sm_ h)
theorem numV_ {e : Expr} {i : Int} (h : numV e = some i) : ∃ u p, e = .Constant (.int i) u p := by
 obtain ⟨c, h1, h2⟩ := bnd h
 exact (intC_ h2) ▸ constV_ h1
theorem listE_ {e : Expr} {l : List Expr} (h : listE e = some l) : ∃ p, e = .List l p :=
 Expr.List.elim (motive_1 := fun e => listE e = some l → ∃ p, e = .List l p) e (difd h).1 (fun _ p h => ⟨p, by obtain rfl := sm_ h; rfl⟩) h
theorem binE_ {e : Expr} {c : Expr × Operator × Expr} (h : binE e = some c) : ∃ p, e = .BinOp c.1 c.2.1 c.2.2 p :=
 Expr.BinOp.elim (motive_1 := fun e => binE e = some c → ∃ p, e = .BinOp c.1 c.2.1 c.2.2 p) e (difd h).1 (fun _ _ _ p h => ⟨p, by obtain rfl := sm_ h; rfl⟩) h
theorem bin_in {l l' : Expr} {op op' : Operator} {r r' : Expr} (h1 : l = l') (h2 : op = op') (h3 : r = r') (p : Pos) : Expr.BinOp l op r p = .BinOp l' op' r' p := by subst h1 h2 h3; rfl
@[elab_as_elim] theorem rowV_ {e : Expr} {c : Int × Int} {P : Expr → Prop} (h : rowV e = some c) (k : ∀ u1 p1 p2 u2 p3 p4, P (.BinOp (.List [.Constant (.int c.1) u1 p1] p2) .Mult (.Constant (.int c.2) u2 p3) p4)) : P e := by
 refine bndE h fun b h1 h => ifE h fun h2 h => bndE h fun es h3 h => bndE h fun x h4 h => bndE h fun i h5 h => ?_
 obtain ⟨j, h6, rfl⟩ := mpd h
 exact (binE_ h1).elim fun p4 e1 => (listE_ h3).elim fun p2 e2 => (numV_ h5).elim fun u1 z => z.elim fun p1 e3 => (numV_ h6).elim fun u2 z => z.elim fun p3 e4 =>
  (e1.trans (bin_in (e2.trans (congrArg (Expr.List · p2) ((one_ h4).trans (congrArg (· :: []) e3)))) h2 e4 p4)) ▸ k u1 p1 p2 u2 p3 p4
noncomputable def putD (ok : Str → Bool) (σ : Sig) : List Expr → List PyData → Option Sig
 | [], ps => if ps.isEmpty then some σ else none
 | t :: ts, ps => match ps with
  | [] => none
  | p :: l => (nameV t).bind fun x => if ok x then putD ok (put σ x (.d p)) ts l else none
noncomputable def bindTD (ok : Str → Bool) (tgt : Expr) (σ : Sig) (p : PyData) : Option Sig := (nameV tgt).elim ((tupE tgt).bind fun ts => (tupV p).bind fun l => putD ok σ ts l) fun x => if ok x then some (put σ x (.d p)) else none
noncomputable def compL (bnd : PyData → Option Sig) (tests : Sig → Option Bool) (elt : Sig → Option PyData) : List PyData → Option (List PyData)
 | [] => some []
 | p :: r => (bnd p).bind fun σ => (tests σ).bind fun b => bif b then (elt σ).bind fun e => (compL bnd tests elt r).map (e :: ·) else compL bnd tests elt r
noncomputable def range1 (p : PyData) : Option (List PyData) := (intV p).bind fun b => if short b.toNat && decide (b.natAbs ≤ lim) then some (intsD (rangeL 0 b)) else none
noncomputable def rangeD (ps : List PyData) : Option (List PyData) := (one ps).elim ((two ps).bind fun q => intsF q.1 q.2 fun a b => if short (b - a).toNat && decide (a.natAbs ≤ lim) && decide (b.natAbs ≤ lim) then some (intsD (rangeL a b)) else none) range1
noncomputable def kdC (sc : Scope) : Kd := fun y => match sc.names.lookup y with | some .free => some .cell | k => k
noncomputable def okC (sc : Scope) : Str → Bool := fun y => sc.names.lookup y == some .local
noncomputable def compOk (kd : Kd) (sc : Scope) : Bool := sc.kind == .function && sc.names.all fun x => match x.2 with
 | .local => sc.names.lookup x.1 == some .local
 | .free => kd x.1 == some .cell
 | .globalImplicit => true
 | _ => false
noncomputable def compSig (F : Fx) (sc : Scope) (σ : Sig) : Sig := fun y => if sc.names.lookup y = some .free ∧ F.own.contains y = false ∧ F.own2.contains y = false then σ y else none
noncomputable def Fx.comp (F : Fx) (sc : Scope) : Fx := { F with kd := kdC sc, own := [], own2 := [] }
noncomputable def okBase (e : Expr) : Bool := (callV e).elim true fun c => !c.2.isEmpty
noncomputable def notList : PyData → Bool
 | .list _ => false
 | _ => true
noncomputable def eeName (F : Fx) (x : Str) (σ : Sig) : Option X :=
 if okName x then (if isVar (F.kd x) then (if F.own.contains x || F.own2.contains x then none else σ x) else if F.kd x = some .globalImplicit then (F.T.const x).map .d else none) else none
noncomputable def optV : PyData → Option (Option Nat)
 | .int i => if 0 ≤ i ∧ i ≤ lim then some (some i.toNat) else none
 | .none => some none
 | _ => none
noncomputable def rowOfV (F : Fx) (e : Expr) : Option (Str × Expr) := (subV e).bind fun s => (nameV s.1).bind fun x => if okName x && isVar (F.kd x) && F.own2.contains x then some (x, s.2) else none
noncomputable def isAnd : BoolOp → Bool
 | .And => true
 | .Or => false
noncomputable def twoS (l : List PyData) : Option (Str × Str) := (two l).bind fun q => (strV q.1).bind fun r => (strV q.2).map fun x => (r, x)
theorem twoS_ {l : List PyData} {c : Str × Str} (h : twoS l = some c) : l = [.str c.1, .str c.2] :=
 bndE h fun xy h1 h => bndE h fun x h2 h => by
  obtain ⟨y, h3, rfl⟩ := mpd h
  rw [two_ h1, strV_ h2, strV_ h3]
noncomputable def methX (F : Fx) (m : Str) (ps : Option (List PyData)) (xs : Option (List X)) (v : X) : Option X := match v with
 | .d p => (strV p).bind fun x => ps.bind fun l => (methD x m l).map .d
 | .w a b c d e g => if ¬m = "split" then xs.bind fun l => F.T.mt m (.w a b c d e g :: l) else none
 | .r _ => none
mutual
noncomputable def ee : Nat → Fx → Expr → Sig → Option X
 | 0, _, _, _ => none
 | n + 1, F, e, σ => match e with
  | .Constant c _ _ => (constD c).map .d
  | .Name x _ => eeName F x σ
  | .BinOp l op r _ => (dO (eo n F l σ)).bind fun a => (dO (eo n F r σ)).bind fun b => (binD op a b).map .d
  | .UnaryOp op v _ => if op = .USub then (eInt (ee n F v σ)).map fun i => .d (.int (-i)) else none
  | .Compare l ops rs _ => (one ops).bind fun op => (one rs).bind fun r => (dO (eo n F l σ)).bind fun a => (dO (eo n F r σ)).bind fun b => (cmpD op a b).map fun t => .d (.bool t)
  | .IfExp t b o _ => (et n F t σ).bind fun c => bif c then ee n F b σ else ee n F o σ
  | .Subscript v i _ => (dO (eo n F v σ)).bind fun p => (sliceV i).elim ((dO (ee n F i σ)).bind fun q => (subD p q).map .d) fun s => (eopt n F s.1 σ).bind fun a => (eopt n F s.2 σ).bind fun b => (sliceD p a b).map .d
  | .List es _ => if short es.length then (eeL n F es σ).map fun l => .d (.list l) else none
  | .Tuple es _ _ => if short es.length then (eeL n F es σ).map fun l => .d (.tuple l) else none
  | .ListComp elt gens sc _ => (genV gens).bind fun g => (ecomp n F elt g.1 g.2.1 g.2.2 sc σ).map fun l => .d (.list l)
  | .Call f args ks pos => if ks.isEmpty then (match f with
   | .Name f _ => if okName f = true ∧ F.kd f = some .globalImplicit then (if f = "list" then (one args).bind call1V else none).elim (ecall n F f args σ) (fun g => if okName g.1 = true ∧ F.kd g.1 = some .globalImplicit then (dO (ee n F g.2 σ)).bind fun p => (F.T.gen g.1 p).map fun l => .d (.list l) else none) else none
   | .Attribute o m apos => if okBase o && (apos.endLine == pos.line) && decide (args.length < 30) then
     (if m = "sub" then (nameV o).bind fun g => if okName g = true ∧ F.kd g = some .globalImplicit then
       ((eeL n F args σ).bind twoS).bind fun q => (F.T.pat g q.1 q.2).map fun y => .d (.str y) else none
      else (ee n F o σ).bind (methX F m (eoL n F args σ) (exL n F args σ))) else none
   | _ => none) else none
  | .Attribute o a _ => (nameV o).bind fun x => if F.kd x = some .globalImplicit then (if okName x then (F.T.cat x a).map .d else none)
    else (ee n F o σ).bind fun v => (attrX v a).map .d
  | _ => none
noncomputable def ecomp : Nat → Fx → Expr → Expr → Expr → List Expr → Scope → Sig → Option (List PyData)
 | 0, _, _, _, _, _, _, _ => none
 | n + 1, F, elt, tgt, iter, ifs, sc, σ => if compOk F.kd sc then (ei n false F iter σ).bind fun items => if short items.length then compL (bindTD (okC sc) tgt (compSig F sc σ)) (etL n (F.comp sc) ifs)
     (fun τ => dO (ee n (F.comp sc) elt τ)) items else none else none
noncomputable def ecall : Nat → Fx → Str → List Expr → Sig → Option X
 | 0, _, _, _, _ => none
 | n + 1, F, f, args, σ => ((eoL n F args σ).bind (builtD f)).elim ((exL n F args σ).bind (F.T.fn f)) fun p => some (.d p)
noncomputable def eo : Nat → Fx → Expr → Sig → Option X
 | 0, _, _, _ => none
 | n + 1, F, e, σ => (nameV e).elim ((rowOfV F e).elim (ee n F e σ) fun y => if isSlice y.2 = false then (dO (σ y.1)).bind fun a => (dO (ee n F y.2 σ)).bind fun b => (subD a b).map .d else none)
   fun x => if okName x && isVar (F.kd x) && F.own.contains x then σ x else ee n F e σ
noncomputable def et : Nat → Fx → Expr → Sig → Option Bool
 | 0, _, _, _ => none
 | n + 1, F, e, σ => (boolE e).elim ((cmpE e).elim (if e.ctorIdx = 23 ∨ e.ctorIdx = 16 then (dO (ee n F e σ)).bind truthD else none) fun c => (dO (eo n F c.1 σ)).bind fun a => (dO (eo n F c.2.2 σ)).bind fun b => cmpD c.2.1 a b) fun b => etB n F b.1 b.2 σ
noncomputable def etB : Nat → Fx → BoolOp → List Expr → Sig → Option Bool
 | 0, _, _, _, _ => none
 | n + 1, F, op, es, σ => match es with
  | [] => some (isAnd op)
  | e :: r => (et n F e σ).bind fun b => bif b == isAnd op then etB n F op r σ else some b
noncomputable def etL : Nat → Fx → List Expr → Sig → Option Bool
 | 0, _, _, _ => none
 | n + 1, F, es, σ => match es with
  | [] => some true
  | [e] => et n F e σ
  | _ :: _ :: _ => none
noncomputable def eopt : Nat → Fx → Option Expr → Sig → Option (Option Nat)
 | 0, _, _, _ => none
 | n + 1, F, e, σ => match e with
  | none => some none
  | some e => (dO (ee n F e σ)).bind optV
noncomputable def eeL : Nat → Fx → List Expr → Sig → Option (List PyData)
 | 0, _, _, _ => none
 | n + 1, F, es, σ => match es with
  | [] => some []
  | e :: r => (dO (ee n F e σ)).bind fun p => (eeL n F r σ).map (p :: ·)
noncomputable def eoL : Nat → Fx → List Expr → Sig → Option (List PyData)
 | 0, _, _, _ => none
 | n + 1, F, es, σ => match es with
  | [] => some []
  | e :: r => (dO (eo n F e σ)).bind fun p => (eoL n F r σ).map (p :: ·)
noncomputable def exL : Nat → Fx → List Expr → Sig → Option (List X)
 | 0, _, _, _ => none
 | n + 1, F, es, σ => match es with
  | [] => some []
  | e :: r => (ee n F e σ).bind fun p => (exL n F r σ).map (p :: ·)
noncomputable def ei : Nat → Bool → Fx → Expr → Sig → Option (List PyData)
 | 0, _, _, _, _ => none
 | n + 1, c, F, e, σ => (callV e).elim ((dO (bif c then ee n F e σ else eo n F e σ)).bind itemsD) fun g => if g.1 = "range" ∧ F.kd "range" = some .globalImplicit then (eeL n F g.2 σ).bind rangeD else none
end
inductive Fl where
 | next | brk | cont
 | ret (x : X)
structure St where
 σ : Sig
 own : List Str
noncomputable def makesList (e : Expr) : Bool := decide (e.ctorIdx = 24) || ((binE e).elim false fun b => b.2.1 = .Add) || ((cfunE e).elim false fun f => (methV f).elim false fun m => m.2.1 = "split")
structure Fn where
 T : Tab
 kd : Kd
 mu : List Str
 own2 : List Str
noncomputable def Fn.fx (G : Fn) (S : St) : Fx := ⟨G.T, G.kd, S.own, G.own2⟩
noncomputable def Fn.ok (G : Fn) (x : Str) : Bool := (G.kd x == some .local || G.kd x == some .cell) && !(G.mu.contains x) && !(G.own2.contains x)
noncomputable def Fn.okOwn (G : Fn) (x : Str) : Bool := G.kd x == some .local && G.mu.contains x && !(G.own2.contains x)
noncomputable def upd {α : Type} : List α → Nat → α → List α
 | [], _, _ => []
 | x :: r, n, y => match n with
  | 0 => y :: r
  | n + 1 => x :: upd r n y
noncomputable def loopL (bnd : St → PyData → Option St) (body : St → Option (Fl × St)) : List PyData → St → Option (Fl × St)
 | [], S => some (.next, S)
 | p :: r, S => (bnd S p).bind fun S1 => (body S1).bind fun z => match z.1 with
   | .next => loopL bnd body r z.2
   | .cont => loopL bnd body r z.2
   | .brk => some (.next, z.2)
   | .ret v => some (.ret v, z.2)
noncomputable def bndT (G : Fn) (tgt : Expr) (S : St) (p : PyData) : Option St := (bindTD G.ok tgt S.σ p).map fun σ => { S with σ := σ }
noncomputable def putAll (ok : Str → Bool) (σ : Sig) (v : X) : List Expr → Option Sig
 | [] => some σ
 | t :: ts => (nameV t).bind fun x => if ok x then putAll ok (put σ x v) v ts else none
noncomputable def swapOk (kd : Kd) (x : Str) (px : Pos) (sc : Scope) (p : Pos) : Bool := kd x == some .local && px.line == p.line && !(sc.names.any fun y => y.1 == x && (y.2 == .local || y.2 == .cell))
noncomputable def swapT (kd : Kd) (x : Str) (px : Pos) (y : Str) (py : Pos) (a b : Expr) : Bool := kd x == some .local && kd y == some .local && px.line == py.line && !(x == y) && !([a, b].all (foldedForSure 8)) && !([a, b].all (constantsAlone 8))
noncomputable def augD (op : Operator) (a b : PyData) : Option PyData := match op with
 | .Add => if notList a then addD a b else none
 | .Sub => intsF a b fun a b => some (.int (a - b))
 | .Mult => intsF a b fun a b => if decide (a.natAbs < 2 ^ 62) && decide (b.natAbs < 2 ^ 62) then some (.int (a * b)) else none
 | _ => none
noncomputable def gridOf (e : Expr) : Option ((Int × Nat × Nat) × Scope × Pos) := (compV e).bind fun c => (rowV c.1).bind fun r => (nameV c.2.1.1).bind fun z => (call1V c.2.1.2.1).bind fun g => (numV g.2).bind fun m =>
 if g.1 = "range" ∧ 0 ≤ r.2 ∧ r.2 ≤ 100 ∧ 0 ≤ m ∧ m ≤ 100 ∧ okC c.2.2.1 z = true ∧ c.2.1.2.2.isEmpty = true then some ((r.1, r.2.toNat, m.toNat), c.2.2.1, c.2.2.2) else none
noncomputable def next (S : St) (x : Str) (p : PyData) : Fl × St := (.next, { S with σ := put S.σ x (.d p) })
noncomputable def esGrid (G : Fn) (S : St) (x : Str) (px : Pos) (e : Expr) : Option (Fl × St) := (gridOf e).bind fun g =>
 if swapOk G.kd x px g.2.1 g.2.2 && compOk G.kd g.2.1 && !(S.own.contains x) && G.kd "range" == some .globalImplicit then some (next S x (.list (List.replicate g.1.2.2 (.list (List.replicate g.1.2.1 (.int g.1.1)))))) else none
noncomputable def esOwn (n : Nat) (G : Fn) (S : St) (x : Str) (e : Expr) : Option (Fl × St) := (eLst (ee n (G.fx S) e S.σ)).bind fun l =>
 if makesList e && G.okOwn x then some (.next, ⟨put S.σ x (.d (.list l)), x :: S.own⟩) else none
noncomputable def esName (n : Nat) (G : Fn) (S : St) (x : Str) (px : Pos) (e : Expr) : Option (Fl × St) :=
 if G.own2.contains x then esGrid G S x px e
 else if G.mu.contains x then esOwn n G S x e
 else (compV e).elim ((ee n (G.fx S) e S.σ).bind fun v => if G.ok x then some (.next, { S with σ := put S.σ x v }) else none)
  fun c => if swapOk G.kd x px c.2.2.1 c.2.2.2 then (ecomp n (G.fx S) c.1 c.2.1.1 c.2.1.2.1 c.2.1.2.2 c.2.2.1 S.σ).map fun l => next S x (.list l) else none
noncomputable def twoN (ts : List Expr) : Option ((Str × Pos) × (Str × Pos)) := (two ts).bind fun xy => (nameP xy.1).bind fun x => (nameP xy.2).map fun y => (x, y)
theorem twoN_ {ts : List Expr} {c : (Str × Pos) × (Str × Pos)} (h : twoN ts = some c) : ts = [.Name c.1.1 c.1.2, .Name c.2.1 c.2.2] :=
 bndE h fun xy h1 h => bndE h fun x h2 h => by
  obtain ⟨y, h3, rfl⟩ := mpd h
  rw [two_ h1, nameP_ h2, nameP_ h3]
noncomputable def esPair (n : Nat) (G : Fn) (S : St) (ts : List Expr) (es : List Expr) : Option (Fl × St) := (two es).bind fun ab => (twoN ts).bind fun xy =>
 (dO (ee n (G.fx S) ab.1 S.σ)).bind fun u => (dO (ee n (G.fx S) ab.2 S.σ)).bind fun v =>
  if swapT G.kd xy.1.1 xy.1.2 xy.2.1 xy.2.2 ab.1 ab.2 && G.ok xy.1.1 && G.ok xy.2.1 then some (.next, { S with σ := put (put S.σ xy.2.1 (.d v)) xy.1.1 (.d u) }) else none
noncomputable def esTuple (n : Nat) (G : Fn) (S : St) (ts : List Expr) (k : Nat) (p : Pos) (e : Expr) : Option (Fl × St) := (tupE e).elim ((methV e).bind fun a => if isName a.1 then (dO (ee n (G.fx S) e S.σ)).bind fun q => (bindTD G.ok (.Tuple ts k p) S.σ q).map fun σ => (.next, { S with σ := σ }) else none) (esPair n G S ts)
noncomputable def esSet (n : Nat) (G : Fn) (S : St) (x : Str) (i e : Expr) : Option (Fl × St) := if G.mu.contains x && S.own.contains x && okName x then
 (dO (ee n (G.fx S) e S.σ)).bind fun v => (eLst (S.σ x)).bind fun l => (eInt (ee n (G.fx S) i S.σ)).bind fun j =>
  if 0 ≤ j ∧ j < l.length ∧ short l.length = true then some (next S x (.list (upd l j.toNat v))) else none else none
noncomputable def cellAt (n : Nat) (G : Fn) (S : St) (x : Str) (i j : Expr) : Option (List PyData × Int × List PyData × Int) :=
 (eLst (S.σ x)).bind fun l => (eInt (ee n (G.fx S) i S.σ)).bind fun a => (eInt (ee n (G.fx S) j S.σ)).bind fun b => ((at? l a).bind listV).bind fun m =>
  if 0 ≤ a ∧ 0 ≤ b ∧ b < m.length ∧ short l.length = true ∧ short m.length = true then some (l, a, m, b) else none
noncomputable def esSet2 (n : Nat) (G : Fn) (S : St) (x : Str) (i j e : Expr) : Option (Fl × St) := if G.own2.contains x && okName x then
 (dO (ee n (G.fx S) e S.σ)).bind fun v => (cellAt n G S x i j).map fun c => next S x (.list (upd c.1 c.2.1.toNat (.list (upd c.2.2.1 c.2.2.2.toNat v)))) else none
noncomputable def isConst (e : Expr) : Bool := decide (e.ctorIdx = 19)
noncomputable def esMulti (n : Nat) (G : Fn) (S : St) (ts : List Expr) (e : Expr) : Option (Fl × St) := (ee n (G.fx S) e S.σ).bind fun v => if isConst e then (putAll G.ok S.σ v ts).map fun σ => (.next, { S with σ := σ }) else none
noncomputable def esAug (n : Nat) (G : Fn) (S : St) (x : Str) (op : Operator) (e : Expr) : Option (Fl × St) := if okName x && G.ok x && !(S.own.contains x) then
 (dO (S.σ x)).bind fun a => (dO (ee n (G.fx S) e S.σ)).bind fun b => (augD op a b).map (next S x) else none
noncomputable def esAug2 (n : Nat) (G : Fn) (S : St) (x : Str) (i j : Expr) (op : Operator) (e : Expr) : Option (Fl × St) := if G.own2.contains x && okName x then
 (cellAt n G S x i j).bind fun c => (dO (ee n (G.fx S) e S.σ)).bind fun w => ((at? c.2.2.1 c.2.2.2).bind intV).bind fun old =>
  (augD op (.int old) w).map fun v => next S x (.list (upd c.1 c.2.1.toNat (.list (upd c.2.2.1 c.2.2.2.toNat v)))) else none
noncomputable def esDel (n : Nat) (G : Fn) (S : St) (x : Str) (i : Expr) : Option (Fl × St) := if G.mu.contains x && S.own.contains x && okName x then
 (eLst (S.σ x)).bind fun l => (eInt (ee n (G.fx S) i S.σ)).bind fun j =>
  if (j = 0 ∨ j = -1) ∧ l ≠ [] ∧ short l.length = true then some (next S x (.list (if j = 0 then l.drop 1 else l.dropLast))) else none else none
noncomputable def esExtend (S : St) (x : Str) (l : List PyData) (v : PyData) (e : Expr) : Option (Fl × St) := (listV v).bind fun k => if (listE e).isSome && short l.length && short k.length then some (next S x (.list (l ++ k))) else none
noncomputable def esCall (n : Nat) (G : Fn) (S : St) (x m : Str) (apos pos : Pos) (e : Expr) : Option (Fl × St) := if G.mu.contains x && S.own.contains x && (apos.endLine == pos.line) && okName x then
 (eLst (S.σ x)).bind fun l => (dO (ee n (G.fx S) e S.σ)).bind fun v =>
  if m = "append" then (if short l.length then some (next S x (.list (l ++ [v]))) else none)
  else if m = "extend" then esExtend S x l v e else none else none
noncomputable def tupP (e : Expr) : Option (List Expr × Nat × Pos) := if h : e.ctorIdx = 25 then Expr.Tuple.elim (motive_1 := fun _ => Option (List Expr × Nat × Pos)) e h fun es k p => some (es, k, p) else none
theorem tupP_ {e : Expr} {c : List Expr × Nat × Pos} (h : tupP e = some c) : e = .Tuple c.1 c.2.1 c.2.2 :=
 Expr.Tuple.elim (motive_1 := fun e => tupP e = some c → e = .Tuple c.1 c.2.1 c.2.2) e (difd h).1 (fun _ _ _ h => by obtain rfl := sm_ h; rfl) h
noncomputable def esTo (n : Nat) (G : Fn) (S : St) (t e : Expr) : Option (Fl × St) := (nameP t).elim ((tupP t).elim ((subV t).bind fun v => (nameV v.1).elim ((subV v.1).bind fun w => (nameV w.1).bind fun x => esSet2 n G S x w.2 v.2 e) fun x => esSet n G S x v.2 e) fun c => esTuple n G S c.1 c.2.1 c.2.2 e) fun x => esName n G S x.1 x.2 e
noncomputable def esAssign (n : Nat) (G : Fn) (S : St) (ts : List Expr) (e : Expr) : Option (Fl × St) := (one ts).elim (if ts.isEmpty = false then esMulti n G S ts e else none) fun t => esTo n G S t e
noncomputable def esAugA (n : Nat) (G : Fn) (S : St) (t : Expr) (op : Operator) (e : Expr) : Option (Fl × St) := (nameV t).elim ((subV t).bind fun v => (subV v.1).bind fun w => (nameV w.1).bind fun x => esAug2 n G S x w.2 v.2 op e) fun x => esAug n G S x op e
noncomputable def esDelA (n : Nat) (G : Fn) (S : St) (ts : List Expr) : Option (Fl × St) := (one ts).bind fun t => (subV t).bind fun v => (nameV v.1).bind fun x => esDel n G S x v.2
noncomputable def esExpr (n : Nat) (G : Fn) (S : St) (e : Expr) : Option (Fl × St) := (appV e).bind fun c => (methV c.1).bind fun a => (nameV a.1).bind fun x => esCall n G S x a.2.1 a.2.2 c.2.2 c.2.1
noncomputable def esFor (n : Nat) (G : Fn) (S : St) (tgt it : Expr) (body : St → Option (Fl × St)) : Option (Fl × St) := (nameV it).elim ((call1V it).elim ((ei n true (G.fx S) it S.σ).bind fun items => loopL (bndT G tgt) body items S) fun g => if g.1 = "range" then (ei n true (G.fx S) it S.σ).bind fun items => loopL (bndT G tgt) body items S
   else if okName g.1 = true ∧ G.kd g.1 = some .globalImplicit then (dO (ee n (G.fx S) g.2 S.σ)).bind fun p => (G.T.gen g.1 p).bind fun items => loopL (bndT G tgt) body items S else none)
  fun x => (ei n true (G.fx ⟨S.σ, S.own.filter fun y => !(y == x)⟩) it S.σ).bind fun items => loopL (bndT G tgt) body items ⟨S.σ, S.own.filter fun y => !(y == x)⟩
mutual
noncomputable def es : Nat → Fn → Stmt → St → Option (Fl × St)
 | 0, _, _, _ => none
 | n + 1, G, st, S => match st with
  | .Assign ts e _ => esAssign n G S ts e
  | .AugAssign t op e _ => esAugA n G S t op e
  | .Delete ts _ => esDelA n G S ts
  | .Expr e _ => esExpr n G S e
  | .If t b o _ => (et n (G.fx S) t S.σ).bind fun c => bif c then esL n G b S else esL n G o S
  | .For tgt it b o _ => if o.isEmpty then esFor n G S tgt it (esL n G b) else none
  | .Assert t m _ => if m.isNone then (et n (G.fx S) t S.σ).bind fun c => if c then some (.next, S) else none else none
  | .Return e _ => e.bind fun e => (eo n (G.fx S) e S.σ).map fun v => (.ret v, S)
  | .Break _ => some (.brk, S)
  | _ => none
noncomputable def esL : Nat → Fn → List Stmt → St → Option (Fl × St)
 | 0, _, _, _ => none
 | n + 1, G, ss, S => match ss with
  | [] => some (.next, S)
  | st :: r => (es n G st S).bind fun z => match z.1 with
   | .next => esL n G r z.2
   | _ => some z
end
noncomputable def fuel : Nat := 60
noncomputable def bindP : List Arg → List X → Option Sig
 | [], vs => if vs.isEmpty then some fun _ => none else none
 | a :: r, vs => match vs with
  | [] => none
  | v :: l => (bindP r l).map fun σ => put σ a.arg v
noncomputable def Fl.val : Fl → Option X
 | .ret v => some v
 | _ => none
noncomputable def runFn (T : Tab) (params : Arguments) (body : List Stmt) (sc : Scope) (mu own2 : List Str) (args : List X) : Option X :=
 (bindP params.args args).bind fun σ => (esL fuel ⟨T, fun y => sc.names.lookup y, mu, own2⟩ body ⟨σ, []⟩).bind fun z => z.1.val
noncomputable def bump (count : List Int) (b : Nat) : List Int := if b < count.length then upd count b (count.getD b 0 + 1) else count ++ List.replicate (b - count.length) 0 ++ [1]
noncomputable def wsL : List Nat → List Int → Nat → Nat → Nat → List Int × Nat × Nat × Nat
 | [], count, b, n, nt => (count, b, n, nt)
 | c :: r, count, b, n, nt => if c = 32 then wsL r count (b + 1) (n + 1) nt else if c = 9 then wsL r (bump count b) 0 (n + 1) (nt + 1) else (count, b, n, nt)
noncomputable def wsOf (x : Str) : X := match wsL x.cps.toList [] 0 0 0 with
 | (count, b, n, nt) => .w x n nt count b (decide (count.length ≤ 1))
end
section
open PySem.Calls
structure Gl where
 prog : Program
 w : World
 K : Frag
 ws : Addr
 mg : Str → Option Value
 mb : Str → Option Value
structure Gd (G : Gl) (h : Heap) : Prop where
 kin : G.K.In h
 g : h.Ns mainGlobals G.mg
 b : h.Ns builtinsNs G.mb
 lim : h.NoLimit
noncomputable abbrev Keeps (h h' : Heap) : Prop := ∀ b o, h.get? b = some o → h'.get? b = some o
theorem Gd.keeps {G : Gl} {h h' : Heap} (x : Gd G h) (k : Keeps h h') : Gd G h' :=
 ⟨Frag.In.keeps x.kin k, x.g.keeps k, x.b.keeps k, x.lim.keeps k⟩
theorem lookup_of_mem {K : Frag} {b : Addr} (h : b ∈ K.map (·.1)) : ∃ o, K.lookup b = some o := by
 induction K with
 | nil => cases h
 | cons p r ih =>
  obtain ⟨c, o⟩ := p
  rw [List.lookup_cons]
  by_cases e : b == c
  ·exact e ▸ (⟨o, rfl⟩)
  ·have e' : (b == c) = false := by simpa using e
   rw [e']
   rcases List.mem_cons.mp h with q | q
   ·exact absurd (beq_iff_eq.mpr q) e
   ·exact ih q
theorem mem_of_lookup' {K : Frag} {b : Addr} {o : Obj} (h : K.lookup b = some o) : b ∈ K.map (·.1) := by
 induction K with
 | nil => exact none_ h
 | cons p r ih =>
  obtain ⟨c, o'⟩ := p
  rw [List.lookup_cons] at h
  by_cases e : b == c
  ·exact (beq_iff_eq.mp e) ▸ (.head _)
  ·have e' : (b == c) = false := by simpa using e
   rw [e'] at h; exact .tail _ (ih h)
noncomputable def Gl.base (G : Gl) : List Addr := mainGlobals :: builtinsNs :: cStatics :: G.K.map (·.1)
theorem Gd.base_ex {G : Gl} {h : Heap} (x : Gd G h) : ∀ b ∈ G.base, ∃ o, h.get? b = some o := fun b hb => by
 delta Gl.base at hb
 rcases List.mem_cons.mp hb with rfl | hb
 ·obtain ⟨o, _, _, e, _⟩ := x.g; exact ⟨o, e⟩
 rcases List.mem_cons.mp hb with rfl | hb
 ·obtain ⟨o, _, _, e, _⟩ := x.b; exact ⟨o, e⟩
 rcases List.mem_cons.mp hb with rfl | hb
 ·obtain ⟨_, ⟨o, _, _, e, _⟩, _⟩ := x.lim; exact ⟨o, e⟩
 ·obtain ⟨o, e⟩ := lookup_of_mem hb; exact ⟨o, x.kin _ _ e⟩
theorem Gd.of_base {G : Gl} {h h' : Heap} (x : Gd G h) (k : ∀ b ∈ G.base, ∀ o, h.get? b = some o → h'.get? b = some o) : Gd G h' :=
 ⟨fun b o e => k b (.tail _ (.tail _ (.tail _ (mem_of_lookup' e)))) o (x.kin b o e), x.g.at' (k _ (.head _)), x.b.at' (k _ (.tail _ (.head _))),
 let ⟨m, n, e⟩ := x.lim; ⟨m, n.at' (k _ (.tail _ (.tail _ (.head _)))), e⟩⟩
structure Cx where
 G : Gl
 A : Around
 env : Env
 cs : List (Str × Addr)
 H : List Addr
 g : Heap
noncomputable abbrev Cx.M (C : Cx) : Model := model C.G.prog C.G.w
noncomputable def Cx.hide (C : Cx) : List Addr := C.env.locals :: (C.cs.map (·.2) ++ C.H)
structure Own where
 name : Str
 at_ : Addr
 rows : List Addr
 two : Bool
noncomputable def Own.addrs (o : Own) : List Addr := o.at_ :: o.rows
noncomputable def addrs (ρ : List Own) : List Addr := ρ.flatMap Own.addrs
noncomputable def Cx.hh (C : Cx) (ρ : List Own) (s : Shared) : Heap := hideAll s.heap (addrs ρ ++ C.hide)
mutual
inductive Rd (h : Heap) : Value → PyData → Prop
 | none : Rd h Value.none PyData.none
 | bool (b : Bool) : Rd h (Value.bool b) (PyData.bool b)
 | int (i : Int) (t : Tok) : Rd h (Value.int i t) (PyData.int i)
 | str (x : Str) (t : Tok) : Rd h (Value.str x t) (PyData.str x)
 | list {a : Addr} {vs : List Value} {n : Nat} {ds : List PyData} : h.get? a = some { cls := .type "list", data := .seq vs.toArray n } → RdL h vs ds → Rd h (Value.ref a) (PyData.list ds)
 | tuple {a : Addr} {vs : List Value} {n : Nat} {ds : List PyData} : h.get? a = some { cls := .type "tuple", data := .seq vs.toArray n } → RdL h vs ds → Rd h (Value.ref a) (PyData.tuple ds)
inductive RdL (h : Heap) : List Value → List PyData → Prop
 | nil : RdL h [] []
 | cons {v : Value} {vs : List Value} {d : PyData} {ds : List PyData} : Rd h v d → RdL h vs ds → RdL h (v :: vs) (d :: ds)
end
theorem Rd.both {h : Heap} {P : Value → PyData → Prop} {L : List Value → List PyData → Prop} (none : P .none .none) (bool : ∀ b, P (.bool b) (.bool b)) (int : ∀ i t, P (.int i t) (.int i)) (str : ∀ x t, P (.str x t) (.str x))
  (list : ∀ {a vs n ds}, h.get? a = some { cls := .type "list", data := .seq vs.toArray n } → RdL h vs ds → L vs ds → P (.ref a) (.list ds)) (tuple : ∀ {a vs n ds}, h.get? a = some { cls := .type "tuple", data := .seq vs.toArray n } → RdL h vs ds → L vs ds → P (.ref a) (.tuple ds))
  (nil : L [] []) (cons : ∀ {v vs d ds}, Rd h v d → RdL h vs ds → P v d → L vs ds → L (v :: vs) (d :: ds)) : (∀ {v d}, Rd h v d → P v d) ∧ ∀ {vs ds}, RdL h vs ds → L vs ds :=
 ⟨fun r => Rd.rec (motive_1 := fun v d _ => P v d) (motive_2 := fun v d _ => L v d) none bool int str list tuple nil cons r, fun r => RdL.rec (motive_1 := fun v d _ => P v d) (motive_2 := fun v d _ => L v d) none bool int str list tuple nil cons r⟩
theorem RdL.ind {h : Heap} {L : List Value → List PyData → Prop} (nil : L [] []) (cons : ∀ {v vs d ds}, Rd h v d → RdL h vs ds → L vs ds → L (v :: vs) (d :: ds)) {vs : List Value} {ds : List PyData} (r : RdL h vs ds) : L vs ds :=
 (Rd.both (P := fun _ _ => True) (L := L) trivial (fun _ => trivial) (fun _ _ => trivial) (fun _ _ => trivial) (fun _ _ _ => trivial) (fun _ _ _ => trivial) nil fun a b _ ih => cons a b ih).2 r
theorem Rd.keeps2 {h h' : Heap} (k : Keeps h h') : (∀ {v : Value} {d : PyData}, Rd h v d → Rd h' v d) ∧ ∀ {v : List Value} {d : List PyData}, RdL h v d → RdL h' v d :=
 Rd.both (P := Rd h') (L := RdL h') .none .bool .int .str (fun e _ r => .list (k _ _ e) r) (fun e _ r => .tuple (k _ _ e) r) .nil fun _ _ a b => .cons a b
theorem Rd.keeps {h h' : Heap} (k : Keeps h h') {v : Value} {d : PyData} (r : Rd h v d) : Rd h' v d := (Rd.keeps2 k).1 r
theorem RdL.keeps {h h' : Heap} (k : Keeps h h') {v : List Value} {d : List PyData} (r : RdL h v d) : RdL h' v d := (Rd.keeps2 k).2 r
theorem Rd.reads2 {h : Heap} : (∀ {v : Value} {d : PyData}, Rd h v d → ∃ as, Reads h v d as) ∧ ∀ {v : List Value} {d : List PyData}, RdL h v d → ∃ as, ReadsAll h v d as :=
 Rd.both (P := fun v d => ∃ as, Reads h v d as) (L := fun v d => ∃ as, ReadsAll h v d as) ⟨_, .none⟩ (fun b => ⟨_, .bool b⟩) (fun i t => ⟨_, .int i t⟩) (fun x t => ⟨_, .str x t⟩)
  (fun e _ ⟨_, q⟩ => ⟨_, .list e rfl rfl q⟩) (fun e _ ⟨_, q⟩ => ⟨_, .tuple e rfl rfl q⟩) ⟨_, .nil⟩ fun _ _ ⟨_, p⟩ ⟨_, q⟩ => ⟨_, .cons p q⟩
theorem Rd.reads {h : Heap} {v : Value} {d : PyData} (r : Rd h v d) : ∃ as, Reads h v d as := Rd.reads2.1 r
theorem RdL.reads {h : Heap} {v : List Value} {d : List PyData} (r : RdL h v d) : ∃ as, ReadsAll h v d as := Rd.reads2.2 r
theorem RdL.length {h : Heap} {v : List Value} {d : List PyData} (r : RdL h v d) : v.length = d.length := r.ind (L := fun v d => v.length = d.length) rfl fun _ _ ih => congrArg (· + 1) ih
theorem RdL.append {h : Heap} {v u : List Value} {d e : List PyData} (r : RdL h v d) (q : RdL h u e) : RdL h (v ++ u) (d ++ e) := r.ind (L := fun v d => RdL h (v ++ u) (d ++ e)) q fun a _ ih => .cons a ih
theorem RdL.get {h : Heap} {v : List Value} {d : List PyData} (i : Nat) {p : PyData} (r : RdL h v d) (e : d[i]? = some p) : ∃ u, v[i]? = some u ∧ Rd h u p :=
 r.ind (L := fun v d => ∀ i, d[i]? = some p → ∃ u, v[i]? = some u ∧ Rd h u p) (fun i e => none_ (List.getElem?_nil.symm.trans e)) (fun a _ ih i e => by
  cases i with
  | zero => exact ⟨_, rfl, sm_ e ▸ a⟩
  | succ i => exact ih i e) i e
theorem RdL.take {h : Heap} {v : List Value} {d : List PyData} (i : Nat) (r : RdL h v d) : RdL h (v.take i) (d.take i) :=
 r.ind (L := fun v d => ∀ i, RdL h (v.take i) (d.take i)) (fun i => by rw [List.take_nil, List.take_nil]; exact .nil) (fun a _ ih i => by
  cases i with
  | zero => exact .nil
  | succ i => exact .cons a (ih i)) i
theorem RdL.drop {h : Heap} {v : List Value} {d : List PyData} (i : Nat) (r : RdL h v d) : RdL h (v.drop i) (d.drop i) :=
 r.ind (L := fun v d => ∀ i, RdL h (v.drop i) (d.drop i)) (fun i => by rw [List.drop_nil, List.drop_nil]; exact .nil) (fun a b ih i => by
  cases i with
  | zero => exact .cons a b
  | succ i => exact ih i) i
theorem RdL.rep {h : Heap} {v : List Value} {d : List PyData} (r : RdL h v d) : ∀ n : Nat, RdL h (List.replicate n v).flatten (List.replicate n d).flatten
 | 0 => .nil
 | n + 1 => by rw [List.replicate_succ, List.replicate_succ, List.flatten_cons, List.flatten_cons]; exact r.append (r.rep n)
theorem RdL.upd {h : Heap} {v : List Value} {d : List PyData} (i : Nat) {u : Value} {p : PyData} (r : RdL h v d) (q : Rd h u p) : RdL h (Mine.upd v i u) (Mine.upd d i p) :=
 r.ind (L := fun v d => ∀ i, RdL h (Mine.upd v i u) (Mine.upd d i p)) (fun _ => .nil) (fun a b ih i => by
  cases i with
  | zero => exact .cons q b
  | succ i => exact .cons a (ih i)) i
theorem Rd.int_ {h : Heap} {v : Value} {i : Int} (r : Rd h v (.int i)) : ∃ t, v = .int i t := by cases r; exact ⟨_, rfl⟩
theorem Rd.str_ {h : Heap} {v : Value} {x : Str} (r : Rd h v (.str x)) : ∃ t, v = .str x t := by cases r; exact ⟨_, rfl⟩
theorem Rd.bool_ {h : Heap} {v : Value} {b : Bool} (r : Rd h v (.bool b)) : v = .bool b := by cases r; rfl
theorem Rd.none_ {h : Heap} {v : Value} (r : Rd h v .none) : v = .none := by cases r; rfl
theorem Rd.list_ {h : Heap} {v : Value} {ds : List PyData} (r : Rd h v (.list ds)) : ∃ a vs n, v = .ref a ∧ h.get? a = some { cls := .type "list", data := .seq vs.toArray n } ∧ RdL h vs ds := by cases r; exact ⟨_, _, _, rfl, by assumption, by assumption⟩
theorem Rd.tuple_ {h : Heap} {v : Value} {ds : List PyData} (r : Rd h v (.tuple ds)) : ∃ a vs n, v = .ref a ∧ h.get? a = some { cls := .type "tuple", data := .seq vs.toArray n } ∧ RdL h vs ds := by cases r; exact ⟨_, _, _, rfl, by assumption, by assumption⟩
structure WsAt (G : Gl) (h : Heap) (v : Value) (raw : Str) (n nt : Int) (cnt : List Int) (tr : Int) (sm : Bool) : Prop where
 it : ∃ (x dx : Addr) (es : List DictEntry) (m : Nat) (vn : Value), v = .ref x ∧ h.get? x = some (instObj G.ws dx) ∧ h.get? dx = some (dictOf es m) ∧
  (∃ t, getL "raw" es = some (some (.str raw t))) ∧ (∃ t, getL "n" es = some (some (.int n t))) ∧ (∃ t, getL "nt" es = some (some (.int nt t))) ∧
  getL "norm" es = some (some vn) ∧ Rd h vn (.tuple [.tuple (intsD cnt), .int tr]) ∧ getL "is_simple" es = some (some (.bool sm)) ∧
  (∀ y : Str, y ∉ (["raw", "n", "nt", "norm", "is_simple"] : List Str) → getL y es = some none)
noncomputable def RdX (G : Gl) (h : Heap) (v : Value) : X → Prop
 | .d p => Rd h v p
 | .w raw n nt cnt tr sm => WsAt G h v raw n nt cnt tr sm
 | .r a => v = .ref a
theorem WsAt.keeps {G : Gl} {h h' : Heap} {v : Value} {raw : Str} {n nt : Int} {cnt : List Int} {tr : Int} {sm : Bool} (k : Keeps h h') (x : WsAt G h v raw n nt cnt tr sm) : WsAt G h' v raw n nt cnt tr sm := by
 obtain ⟨y, dx, es, m, vn, e, h1, h2, r1, r2, r3, r4, r5, r6, r7⟩ := x.it
 exact ⟨y, dx, es, m, vn, e, k _ _ h1, k _ _ h2, r1, r2, r3, r4, r5.keeps k, r6, r7⟩
theorem RdX.keeps {G : Gl} {h h' : Heap} {v : Value} {x : X} (k : Keeps h h') (r : RdX G h v x) : RdX G h' v x := by
 cases x with
 | d p => exact Rd.keeps k r
 | w => exact WsAt.keeps k r
 | r a => exact r
theorem keeps_hide {h h' : Heap} {l : List Addr} (k : ∀ b o, b ∉ l → h.get? b = some o → h'.get? b = some o) : Keeps (hideAll h l) (hideAll h' l) := fun b o e => by
 by_cases m : b ∈ l
 ·rw [hideAll_none l m] at e; cases e
 ·exact hideAll_get l (k b o m (of_hideAll l e)) m
theorem keeps_hide_of {h : Heap} {l : List Addr} : Keeps (hideAll h l) h := fun _ _ e => of_hideAll l e
theorem keeps_hide_sub {h h' : Heap} {l l' : List Addr} (k : ∀ b o, b ∉ l → h.get? b = some o → b ∉ l' ∧ h'.get? b = some o) : Keeps (hideAll h l) (hideAll h' l') := fun b o e => by
 by_cases m : b ∈ l
 ·rw [hideAll_none l m] at e; cases e
 ·obtain ⟨m', e'⟩ := k b o m (of_hideAll l e)
  exact hideAll_get l' e' m'
noncomputable def VarAt (env : Env) (h : Heap) (x : Str) (v : Value) : Prop := match env.kindOf x with
 | some .local => ∃ m, h.Ns env.locals m ∧ m x = some v
 | some .cell => ∃ c, env.cells.lookup x = some c ∧ h.IsCell c (some v)
 | some .free => ∃ c, env.cells.lookup x = some c ∧ h.IsCell c (some v)
 | _ => False
theorem IsCell.keeps {h h' : Heap} {c : Addr} {v : Option Value} (k : Keeps h h') (x : h.IsCell c v) : h'.IsCell c v := let ⟨o, e, d⟩ := x; ⟨o, k _ _ e, d⟩
theorem VarAt.map {env : Env} {h h' : Heap} {x : Str} {v : Value} (y : VarAt env h x v) (l : ∀ m, h.Ns env.locals m → m x = some v → ∃ m, h'.Ns env.locals m ∧ m x = some v) (c : (env.kindOf x = some .cell ∨ env.kindOf x = some .free) → ∀ c, env.cells.lookup x = some c → h.IsCell c (some v) → h'.IsCell c (some v)) : VarAt env h' x v := by
 delta VarAt at *
 cases hk : env.kindOf x with
 | none => rw [hk] at y; exact y.elim
 | some z =>
  rw [hk] at y c
  cases z with
  | «local» => obtain ⟨m, n, e⟩ := y; exact l m n e
  | cell => obtain ⟨d, n, e⟩ := y; exact ⟨d, n, c (.inl rfl) d n e⟩
  | free => obtain ⟨d, n, e⟩ := y; exact ⟨d, n, c (.inr rfl) d n e⟩
  | _ => exact y.elim
theorem VarAt.keeps {env : Env} {h h' : Heap} {x : Str} {v : Value} (k : Keeps h h') (y : VarAt env h x v) : VarAt env h' x v := y.map (fun m n e => ⟨m, n.keeps k, e⟩) fun _ _ _ e => IsCell.keeps k e
structure Ext (L : Addr) (s s' : Shared) : Prop where
 keep : ∀ b o, b ≠ L → s.heap.get? b = some o → s'.heap.get? b = some o
 ns : ∀ m, s.heap.Ns L m → s'.heap.Ns L m
 os : s'.os = s.os
 gens : ∀ (k : Nat) (x : GenState), s.gens[k]? = some x → s'.gens[k]? = some x
 bare : AllBare s.gens → AllBare s'.gens
section
variable {L : Addr}
theorem Ext.refl {s : Shared} : Ext L s s := ⟨fun _ _ _ e => e, fun _ e => e, rfl, fun _ _ e => e, id⟩
theorem Ext.trans {a b c : Shared} (x : Ext L a b) (y : Ext L b c) : Ext L a c := ⟨fun p o n e => y.keep p o n (x.keep p o n e), fun m e => y.ns m (x.ns m e), y.os.trans x.os, fun k z e => y.gens k z (x.gens k z e), fun h => y.bare (x.bare h)⟩
theorem Ext.toks {s : Shared} {t : Nat} : Ext L s { s with toks := t } := ⟨fun _ _ _ e => e, fun _ e => e, rfl, fun _ _ e => e, id⟩
theorem Ext.heap {s : Shared} {h : Heap} {t : Nat} (k : Keeps s.heap h) : Ext L s { s with heap := h, toks := t } := ⟨fun b o _ e => k b o e, fun _ e => e.keeps k, rfl, fun _ _ e => e, id⟩
theorem Ext.heap' {s : Shared} {h : Heap} (k : Keeps s.heap h) : Ext L s { s with heap := h } := ⟨fun b o _ e => k b o e, fun _ e => e.keeps k, rfl, fun _ _ e => e, id⟩
end
theorem keeps_push {h : Heap} {o : Obj} : Keeps h (h.push o) := fun _ _ e => Heap.get?_push_of_some _ e
noncomputable def OwnAt (h hd : Heap) (o : Own) (v : Value) (x : X) : Prop := v = .ref o.at_ ∧ ∃ (l : List PyData) (vs : List Value), x = .d (PyData.list l) ∧ h.PlainList o.at_ vs.toArray ∧
 match o.two with
 | false => o.rows = [] ∧ RdL hd vs l
 | true => vs = o.rows.map Value.ref ∧ o.rows.length = l.length ∧ ∀ (i : Nat) (a : Addr) (p : PyData), o.rows[i]? = some a → l[i]? = some p → ∃ (m : List PyData) (us : List Value), p = PyData.list m ∧ h.PlainList a us.toArray ∧ RdL hd us m
theorem PlainList.keeps {h h' : Heap} {a : Addr} {vs : Array Value} (k : Keeps h h') (x : h.PlainList a vs) : h'.PlainList a vs := let ⟨n, e⟩ := x; ⟨n, k _ _ e⟩
theorem OwnAt.keeps {h h' hd hd' : Heap} {o : Own} {v : Value} {x : X} (k : Keeps h h') (kd : Keeps hd hd') (y : OwnAt h hd o v x) : OwnAt h' hd' o v x := by
 obtain ⟨e, l, vs, e2, p, r⟩ := y
 refine ⟨e, l, vs, e2, PlainList.keeps k p, ?_⟩
 cases q : o.two with
 | false => rw [q] at r; exact ⟨r.1, RdL.keeps kd r.2⟩
 | true =>
  rw [q] at r
  refine ⟨r.1, r.2.1, fun i a p' ha hp => ?_⟩
  obtain ⟨m, us, e3, p3, r3⟩ := r.2.2 i a p' ha hp
  exact ⟨m, us, e3, PlainList.keeps k p3, RdL.keeps kd r3⟩
noncomputable def Held (G : Gl) (f : Option Own) (h hd : Heap) (u : Value) (v : X) : Prop := match f with
 | some o => OwnAt h hd o u v
 | none => RdX G hd u v
structure Inv (C : Cx) (σ : Sig) (ρ : List Own) (s : Shared) : Prop where
 gd : Gd C.G C.g
 ns : ∃ m, s.heap.Ns C.env.locals m
 keep : Keeps C.g s.heap
 vars : ∀ x v, σ x = some v → ∃ u, VarAt C.env s.heap x u ∧ Held C.G (ρ.find? (·.name == x)) s.heap (C.hh ρ s) u v
 owns : ∀ o ∈ ρ, ∃ v, σ o.name = some v
 cells : ∀ p ∈ C.cs, ∃ v, s.heap.IsCell p.2 v
 nodup : (addrs ρ ++ C.env.locals :: C.cs.map (·.2)).Nodup
 names : (ρ.map (·.name)).Nodup
 new : ∀ a ∈ addrs ρ ++ C.env.locals :: C.cs.map (·.2), C.g.get? a = none
 old : ∀ a ∈ C.H, (∃ o, s.heap.get? a = some o) ∧ a ∉ addrs ρ ++ C.env.locals :: C.cs.map (·.2)
 there : ∀ a ∈ addrs ρ, ∃ o, s.heap.get? a = some o
 bare : AllBare s.gens
 cl : ∀ y c, C.env.cells.lookup y = some c → ∃ o, s.heap.get? c = some o
theorem hh_keeps {C : Cx} {ρ : List Own} {s s' : Shared} (x : Ext C.env.locals s s') : Keeps (C.hh ρ s) (C.hh ρ s') := keeps_hide fun b o m e => x.keep b o (fun q => m (by rw [q]; exact List.mem_append_right _ (.head _))) e
theorem Inv.notL {C : Cx} {σ : Sig} {ρ : List Own} {s : Shared} (I : Inv C σ ρ s) : ∀ a ∈ addrs ρ ++ C.cs.map (·.2), a ≠ C.env.locals := by
 intro a ha q
 subst q
 have n := I.nodup
 have : C.env.locals ∈ addrs ρ ∨ C.env.locals ∈ C.cs.map (·.2) := List.mem_append.mp ha
 rw [List.nodup_append] at n
 rcases this with q | q
 ·exact n.2.2 _ q _ (.head _) rfl
 ·exact (List.nodup_cons.mp n.2.1).1 q
theorem not_cell_ns {h : Heap} {c : Addr} {v : Option Value} {m : Str → Option Value} (x : h.IsCell c v) (y : h.Ns c m) : False := by
 obtain ⟨o, e, d⟩ := x
 obtain ⟨o', es, ep, e', d', _⟩ := y
 rw [e] at e'; cases e'
 rw [d] at d'; cases d'
theorem VarAt.ext {env : Env} {s s' : Shared} {x : Str} {v : Value} {m : Str → Option Value} (k : Ext env.locals s s') (n : s.heap.Ns env.locals m) (y : VarAt env s.heap x v) : VarAt env s'.heap x v := by
 have cell : ∀ c, s.heap.IsCell c (some v) → s'.heap.IsCell c (some v) := fun c e => by
  have : c ≠ env.locals := fun q => not_cell_ns e (q ▸ n)
  obtain ⟨o, e, d⟩ := e; exact ⟨o, k.keep _ _ this e, d⟩
 exact y.map (fun m n e => ⟨m, k.ns m n, e⟩) fun _ c _ e => cell c e
theorem Heap.PlainList.at' {h h' : Heap} {a : Addr} {vs : Array Value} (k : ∀ o, h.get? a = some o → h'.get? a = some o) (x : h.PlainList a vs) : h'.PlainList a vs := let ⟨n, e⟩ := x; ⟨n, k _ e⟩
theorem mem_addrs {ρ : List Own} {o : Own} (h : o ∈ ρ) : ∀ a ∈ o.addrs, a ∈ addrs ρ := fun a m => List.mem_flatMap.mpr ⟨o, h, m⟩
theorem OwnAt.at' {h h' hd hd' : Heap} {o : Own} {v : Value} {x : X} (k : ∀ a ∈ o.addrs, ∀ b, h.get? a = some b → h'.get? a = some b) (kd : Keeps hd hd') (y : OwnAt h hd o v x) : OwnAt h' hd' o v x := by
 obtain ⟨e, l, vs, e2, p, r⟩ := y
 refine ⟨e, l, vs, e2, Heap.PlainList.at' (k _ (.head _)) p, ?_⟩
 cases q : o.two with
 | false => rw [q] at r; exact ⟨r.1, RdL.keeps kd r.2⟩
 | true =>
  rw [q] at r
  refine ⟨r.1, r.2.1, fun i a p' ha hp => ?_⟩
  obtain ⟨m, us, e3, p3, r3⟩ := r.2.2 i a p' ha hp
  exact ⟨m, us, e3, Heap.PlainList.at' (k _ (.tail _ (List.mem_of_getElem? ha))) p3, RdL.keeps kd r3⟩
theorem Held.at' {G : Gl} {f : Option Own} {h h' hd hd' : Heap} {u : Value} {v : X} (r : Held G f h hd u v) (kf : ∀ o, f = some o → ∀ a ∈ o.addrs, ∀ b, h.get? a = some b → h'.get? a = some b) (k : Keeps hd hd') : Held G f h' hd' u v := by
 cases f with
 | none => exact RdX.keeps k r
 | some o => exact OwnAt.at' (kf o rfl) k r
theorem find_mem {ρ : List Own} {x : Str} {o : Own} (h : ρ.find? (·.name == x) = some o) : o ∈ ρ := List.mem_of_find?_eq_some h
theorem Inv.ext {C : Cx} {σ : Sig} {ρ : List Own} {s s' : Shared} (I : Inv C σ ρ s) (x : Ext C.env.locals s s') : Inv C σ ρ s' := by
 obtain ⟨m, n⟩ := I.ns
 have nL : ∀ a, C.g.get? a ≠ none → a ≠ C.env.locals := fun a h q => h (q ▸ (I.new _ (List.mem_append_right _ (.head _))))
 refine ⟨I.gd, ⟨m, x.ns m n⟩, fun b o e => x.keep _ _ (nL b (e ▸ (fun q => nomatch q))) (I.keep b o e), fun y v e => ?_, I.owns, fun p hp => ?_, I.nodup, I.names, I.new, fun a ha => ?_, fun a ha => ?_, x.bare I.bare, fun y c e => ?_⟩
 ·obtain ⟨u, h1, h2⟩ := I.vars y v e
  exact ⟨u, h1.ext x n, h2.at' (fun o ho a ha b eb => x.keep a b (I.notL a (List.mem_append_left _ (mem_addrs (find_mem ho) a ha))) eb) (hh_keeps x)⟩
 ·obtain ⟨v, o, c, d⟩ := I.cells p hp
  exact ⟨v, o, x.keep _ _ (I.notL _ (List.mem_append_right _ (List.mem_map_of_mem hp))) c, d⟩
 ·obtain ⟨⟨o, e⟩, d⟩ := I.old a ha; exact ⟨⟨o, x.keep _ _ (fun q => d (q ▸ (List.mem_append_right _ (.head _)))) e⟩, d⟩
 ·obtain ⟨o, e⟩ := I.there a ha; exact ⟨o, x.keep _ _ (I.notL a (List.mem_append_left _ ha)) e⟩
 ·obtain ⟨o, e'⟩ := I.cl y c e
  by_cases q : c = C.env.locals
  ·subst q; obtain ⟨o', _, _, e2, _⟩ := x.ns m n; exact ⟨o', e2⟩
  ·exact ⟨o, x.keep _ _ q e'⟩
theorem Inv.gdH {C : Cx} {σ : Sig} {ρ : List Own} {s : Shared} (I : Inv C σ ρ s) : Gd C.G s.heap := I.gd.keeps I.keep
theorem Inv.hidLt {C : Cx} {σ : Sig} {ρ : List Own} {s : Shared} (I : Inv C σ ρ s) : ∀ a ∈ addrs ρ ++ C.hide, ∃ o, s.heap.get? a = some o := by
 intro a ha
 rcases List.mem_append.mp ha with q | q
 ·exact I.there a q
 ·rcases List.mem_cons.mp q with rfl | q
  ·obtain ⟨m, o, _, _, e, _⟩ := I.ns; exact ⟨o, e⟩
  ·rcases List.mem_append.mp q with q | q
   ·obtain ⟨p, hp, rfl⟩ := List.mem_map.mp q
    obtain ⟨v, o, e, _⟩ := I.cells p hp; exact ⟨o, e⟩
   ·exact (I.old a q).1
theorem Inv.newNot {C : Cx} {σ : Sig} {ρ : List Own} {s : Shared} (I : Inv C σ ρ s) {a : Addr} (h : s.heap.objs.size ≤ a) : a ∉ addrs ρ ++ C.hide := fun m => by
 obtain ⟨o, e⟩ := I.hidLt a m
 exact absurd (Heap.lt_size e) (Nat.not_lt.mpr h)
theorem Inv.seen {C : Cx} {σ : Sig} {ρ : List Own} {s s' : Shared} (I : Inv C σ ρ s) {a : Addr} {o : Obj} (h : s.heap.objs.size ≤ a) (e : s'.heap.get? a = some o) : (C.hh ρ s').get? a = some o :=
 hideAll_get _ e (I.newNot h)
noncomputable def trunc (h : Heap) (L : Nat) : Heap := { h with objs := h.objs.extract 0 L }
theorem trunc_get {h : Heap} {L b : Nat} {o : Obj} : (trunc h L).get? b = some o ↔ b < L ∧ h.get? b = some o := by
 rw [Heap.get?_some_iff, Heap.get?_some_iff]
 delta trunc
 simp only [Array.getElem?_extract]
 constructor
 ·rintro ⟨e, f⟩
  split at e
  ·rename_i hl; rw [Nat.zero_add] at e; exact ⟨by exact miA ‹_›, e, f⟩
  ·exact none_ e
 ·rintro ⟨l, e, f⟩
  have := (Array.getElem?_eq_some_iff.mp e).1
  refine ⟨?_, f⟩
  rw [if_pos (by exact miB ‹_› ‹_›), Nat.zero_add]; exact e
noncomputable def allNews (h : Heap) (L : Nat) : List (Addr × Obj) := (List.range h.objs.size).filterMap fun b => if L < b then (h.get? b).map fun o => (b, o) else none
theorem mem_allNews {h : Heap} {L : Nat} {p : Addr × Obj} : p ∈ allNews h L ↔ L < p.1 ∧ h.get? p.1 = some p.2 := by
 delta allNews
 rw [List.mem_filterMap]
 constructor
 ·rintro ⟨b, hb, e⟩
  split at e
  ·rename_i hl
   cases q : h.get? b with
   | none => rw [q] at e; cases e
   | some o => rw [q] at e; obtain rfl := sm_ e; exact ⟨hl, q⟩
  ·exact none_ e
 ·rintro ⟨hl, e⟩
  refine ⟨p.1, List.mem_range.mpr (Heap.lt_size e), ?_⟩
  rw [if_pos hl, e]; rfl
theorem frOf {h : Heap} {L : Addr} {m : Str → Option Value} (n : h.Ns L m) : Fr (trunc h L) L h m ∧ News (trunc h L) L h (allNews h L) := by
 refine ⟨⟨n, fun b o e => (trunc_get.mp e).2, ?_⟩, fun p hp => ?_⟩
 ·delta trunc; simp only [Array.size_extract]; exact miC
 ·obtain ⟨a, b⟩ := mem_allNews.mp hp
  refine ⟨b, fun q => absurd a (q ▸ (Nat.lt_irrefl _)), ?_⟩
  cases q : (trunc h L).get? p.1 with
  | none => rfl
  | some o => exact absurd (trunc_get.mp q).1 (by lia)
theorem frBack {h h' : Heap} {L : Addr} {m : Str → Option Value} {news : List (Addr × Obj)} (F : Fr (trunc h L) L h' m) (N : News (trunc h L) L h' news) (hs : ∀ p ∈ allNews h L, p ∈ news) : ∀ b o, b ≠ L → h.get? b = some o → h'.get? b = some o := fun b o hb e => by
 rcases Nat.lt_or_ge b L with q | q
 ·exact F.keep b o (trunc_get.mpr ⟨q, e⟩)
 ·exact N.get (hs (b, o) (mem_allNews.mpr ⟨by show L < b; exact Nat.lt_of_le_of_ne q (Ne.symm hb), e⟩))
theorem Ext.fr {s : Shared} {L : Addr} {m : Str → Option Value} {h' : Heap} {t : Nat} {news : List (Addr × Obj)} (n : s.heap.Ns L m) (F : Fr (trunc s.heap L) L h' m) (N : News (trunc s.heap L) L h' news) (hs : ∀ p ∈ allNews s.heap L, p ∈ news) : Ext L s { s with heap := h', toks := t } :=
 ⟨frBack F N hs, fun m' n' => by
  have : m' = m := by
   obtain ⟨o, es, ep, e, d, _, f⟩ := n
   obtain ⟨o', es', ep', e', d', _, f'⟩ := n'
   rw [e] at e'; cases e'; rw [d] at d'; cases d'
   funext x; rw [← f, ← f']
  rw [this]; exact F.ns, rfl, fun _ _ e => e, id⟩
noncomputable def Fresh (s : Shared) (u : Value) : Prop := ∀ a, u = .ref a → s.heap.get? a = none
theorem Fresh.int {s : Shared} {i : Int} {t : Tok} : Fresh s (.int i t) := fun _ z => nomatch z
theorem Fresh.str {s : Shared} {i : Str} {t : Tok} : Fresh s (.str i t) := fun _ z => nomatch z
theorem Fresh.bool {s : Shared} {i : Bool} : Fresh s (.bool i) := fun _ z => nomatch z
theorem get?_ge {h : Heap} {a : Addr} (q : h.objs.size ≤ a) : h.get? a = none := by
 cases e : h.get? a with
 | none => rfl
 | some o => exact absurd (Heap.lt_size e) (Nat.not_lt.mpr q)
theorem Fresh.size {s : Shared} : Fresh s (.ref s.heap.objs.size) := fun a z => by cases z; exact get?_ge (Nat.le_refl _)
noncomputable def Evs (C : Cx) (σ : Sig) (ρ : List Own) (e : Expr) (v : X) : Prop := ∀ (s : Shared) (Q : Value → Shared → Prop) (E : Value → Shared → Prop), Inv C σ ρ s →
 (∀ u s', Ext C.env.locals s s' → RdX C.G (C.hh ρ s') u v → (makesList e = true → Fresh s u) → Q u s') → wpAny C.M C.A (eval e C.env) Q E s
noncomputable def RdO (C : Cx) (ρ : List Own) (s : Shared) (u : Value) (v : X) : Prop := RdX C.G (C.hh ρ s) u v ∨
 ∃ (a : Addr) (l : List PyData) (vs : List Value), u = .ref a ∧ v = .d (PyData.list l) ∧ s.heap.PlainList a vs.toArray ∧ RdL (C.hh ρ s) vs l ∧ a ∈ addrs ρ
noncomputable def Evo (C : Cx) (σ : Sig) (ρ : List Own) (e : Expr) (v : X) : Prop := ∀ (s : Shared) (Q : Value → Shared → Prop) (E : Value → Shared → Prop), Inv C σ ρ s →
 (∀ u s', Ext C.env.locals s s' → RdO C ρ s' u v → Q u s') → wpAny C.M C.A (eval e C.env) Q E s
noncomputable def Evt (C : Cx) (σ : Sig) (ρ : List Own) (e : Expr) (b : Bool) : Prop := ∀ (s : Shared) (Q : Bool → Shared → Prop) (E : Value → Shared → Prop), Inv C σ ρ s →
 (∀ s', Ext C.env.locals s s' → Q b s') → wpAny C.M C.A (isTrue e C.env (eval e C.env)) Q E s
end
section
open PySem.Calls
structure Lv (A : Around) (n : Nat) : Prop where
 hh : A.handled = none
 depth : A.depth + 20 * n < 900
 units : A.units + 200 * n + 200 < 9000
structure CxOk (C : Cx) (n : Nat) : Prop where
 fn : C.env.scope.kind = .function
 gl : C.env.globals = mainGlobals
 bl : C.env.builtins = builtinsNs
 lv : Lv C.A n
section
variable {C : Cx} {σ : Sig} {ρ : List Own} {s : Shared} {E : Value → Shared → Prop}
theorem RdO.of {u : Value} {x : X} (r : RdX C.G (C.hh ρ s) u x) : RdO C ρ s u x := .inl r
theorem RdO.int {u : Value} {i : Int} (r : RdO C ρ s u (.d (.int i))) : ∃ t, u = .int i t := by
 rcases r with r | ⟨_, _, _, _, e, _⟩
 ·exact Rd.int_ r
 ·cases e
theorem RdO.str {u : Value} {i : Str} (r : RdO C ρ s u (.d (.str i))) : ∃ t, u = .str i t := by
 rcases r with r | ⟨_, _, _, _, e, _⟩
 ·exact Rd.str_ r
 ·cases e
theorem RdO.bool {u : Value} {i : Bool} (r : RdO C ρ s u (.d (.bool i))) : u = .bool i := by
 rcases r with r | ⟨_, _, _, _, e, _⟩
 ·exact Rd.bool_ r
 ·cases e
theorem RdO.none {u : Value} (r : RdO C ρ s u (.d .none)) : u = .none := by
 rcases r with r | ⟨_, _, _, _, e, _⟩
 ·exact Rd.none_ r
 ·cases e
theorem RdO.list {u : Value} {l : List PyData} (r : RdO C ρ s u (.d (.list l))) : ∃ a vs n, u = .ref a ∧ IsL s.heap a vs.toArray n ∧ RdL (C.hh ρ s) vs l := by
 rcases r with r | ⟨a, l', vs, e1, e2, ⟨n, p⟩, q, _⟩
 ·obtain ⟨a, vs, n, e, h, q⟩ := Rd.list_ r
  exact ⟨a, vs, n, e, keeps_hide_of _ _ h, q⟩
 ·cases e2; exact ⟨a, vs, n, e1, p, q⟩
theorem RdO.tuple {u : Value} {l : List PyData} (r : RdO C ρ s u (.d (.tuple l))) : ∃ a vs n, u = .ref a ∧ s.heap.get? a = some { cls := .type "tuple", data := .seq vs.toArray n } ∧ RdL (C.hh ρ s) vs l := by
 rcases r with r | ⟨_, _, _, _, e, _⟩
 ·obtain ⟨a, vs, n, e, h, q⟩ := Rd.tuple_ r
  exact ⟨a, vs, n, e, keeps_hide_of _ _ h, q⟩
 ·cases e
theorem RdO.reads {u : Value} {p : PyData} (r : RdO C ρ s u (.d p)) : ∃ as, Reads s.heap u p as := by
 rcases r with r | ⟨a, l, vs, rfl, e, ⟨n, h⟩, q, _⟩
 ·exact (Rd.keeps keeps_hide_of r).reads
 ·cases e
  obtain ⟨as, z⟩ := (RdL.keeps keeps_hide_of q).reads
  exact ⟨_, .list h rfl rfl z⟩
theorem RdO.ext {s' : Shared} {u : Value} {x : X} (r : RdO C ρ s u x) (I : Inv C σ ρ s) (k : Ext C.env.locals s s') : RdO C ρ s' u x := by
 obtain ⟨m, n⟩ := I.ns
 rcases r with r | ⟨a, l, vs, e1, e2, ⟨c, p⟩, q, hm⟩
 ·exact .inl (r.keeps (hh_keeps k))
 ·refine .inr ⟨a, l, vs, e1, e2, ⟨c, k.keep _ _ (fun z => ?_) p⟩, q.keeps (hh_keeps k), hm⟩
  subst z
  obtain ⟨o', es, ep, e', d', _⟩ := n
  rw [p] at e'; cases e'; cases d'
theorem seen_list {s' : Shared} (I : Inv C σ ρ s) {a : Addr} {vs : List Value} {n : Nat} {l : List PyData} (h : s.heap.objs.size ≤ a) (e : s'.heap.get? a = some { cls := .type "list", data := .seq vs.toArray n }) (q : RdL (C.hh ρ s') vs l) : Rd (C.hh ρ s') (.ref a) (.list l) :=
 .list (I.seen h e) q
theorem seen_tuple {s' : Shared} (I : Inv C σ ρ s) {a : Addr} {vs : List Value} {n : Nat} {l : List PyData} (h : s.heap.objs.size ≤ a) (e : s'.heap.get? a = some { cls := .type "tuple", data := .seq vs.toArray n }) (q : RdL (C.hh ρ s') vs l) : Rd (C.hh ρ s') (.ref a) (.tuple l) :=
 .tuple (I.seen h e) q
theorem rdl_ext {s' : Shared} {vs : List Value} {l : List PyData} (q : RdL (C.hh ρ s) vs l) (k : Ext C.env.locals s s') : RdL (C.hh ρ s') vs l := q.keeps (hh_keeps k)
theorem short_le {n : Nat} (h : short n = true) : n ≤ 1048576 := of_decide_eq_true h
theorem sizeLine_is : sizeLine = 16777216 := rfl
theorem and2 {a b : Bool} (h : (a && b) = true) : a = true ∧ b = true := Bool.and_eq_true_iff.mp h
theorem rep_fold (xs : Array Value) : ∀ k : Nat, List.foldl (fun x1 x2 => x1 ++ x2) #[] (List.replicate k xs) = ((List.replicate k xs.toList).flatten).toArray := by
 have gen : ∀ (k : Nat) (acc : Array Value), List.foldl (fun x1 x2 => x1 ++ x2) acc (List.replicate k xs) = acc ++ ((List.replicate k xs.toList).flatten).toArray := by
  intro k
  induction k with
  | zero => intro acc; simp
  | succ k ih => intro acc; rw [List.replicate_succ, List.replicate_succ, List.foldl_cons, ih, List.flatten_cons]; apply Array.ext'; simp
 intro k; rw [gen]; simp
theorem rep_foldN (xs : Array Nat) (k : Nat) : List.foldl (· ++ ·) #[] (List.replicate k xs) = ((List.replicate k xs.toList).flatten).toArray := by
 have gen : ∀ (k : Nat) (acc : Array Nat), List.foldl (· ++ ·) acc (List.replicate k xs) = acc ++ ((List.replicate k xs.toList).flatten).toArray := by
  intro k
  induction k with
  | zero => intro acc; simp
  | succ k ih => intro acc; rw [List.replicate_succ, List.replicate_succ, List.foldl_cons, ih, List.flatten_cons]; apply Array.ext'; simp
 rw [gen]; simp
theorem flat_len {α : Type} (l : List α) : ∀ k : Nat, (List.replicate k l).flatten.length = k * l.length
 | 0 => by simp
 | k + 1 => by rw [List.replicate_succ, List.flatten_cons, List.length_append, flat_len l k, Nat.add_mul, Nat.one_mul, Nat.add_comm]
theorem intBits_lt {a : Int} (h : a.natAbs < 2 ^ 62) : Builtin.Int.intBits a ≤ 64 := intBits_le_64 (by omega) (by exact naA ‹_›)
noncomputable abbrev PF (C : Cx) (ρ : List Own) (s : Shared) (r : PyData) (Q : Value → Shared → Prop) : Prop := ∀ x s', Ext C.env.locals s s' → Rd (C.hh ρ s') x r → Fresh s x → Q x s'
theorem ints_sound {α : Type} {f : Int → Int → Option α} {a b : PyData} {r : α} {u v : Value} (e : intsF a b f = some r) (ru : RdO C ρ s u (.d a)) (rv : RdO C ρ s v (.d b)) : ∃ i t j t', u = .int i t ∧ v = .int j t' ∧ f i j = some r := by
 obtain ⟨i, h1, e⟩ := bnd e
 obtain ⟨j, h2, e⟩ := bnd e
 rw [intV_ h1] at ru
 rw [intV_ h2] at rv
 obtain ⟨t, q⟩ := ru.int
 obtain ⟨t', q'⟩ := rv.int
 exact ⟨i, t, j, t', q, q', e⟩
theorem int1_sound {b : PyData} {j : Int} {v : Value} (e : intV b = some j) (rv : RdO C ρ s v (.d b)) : ∃ t', v = .int j t' := by
 rw [intV_ e] at rv; exact rv.int
theorem str1_sound {b : PyData} {j : Str} {v : Value} (e : strV b = some j) (rv : RdO C ρ s v (.d b)) : ∃ t', v = .str j t' := by
 rw [strV_ e] at rv; exact rv.str
theorem Rd.of {h : Heap} {u : Value} {p q : PyData} (e : some p = some q) (x : Rd h u p) : Rd h u q := sm_ e ▸ x
@[elab_as_elim] theorem ints_elim {α : Type} {f : Int → Int → Option α} {a b : PyData} {r : α} {u v : Value} {P : Value → Value → Prop} (e : intsF a b f = some r) (ru : RdO C ρ s u (.d a)) (rv : RdO C ρ s v (.d b)) (k : ∀ i t j t', f i j = some r → P (.int i t) (.int j t')) : P u v := by
 obtain ⟨i, t, j, t', rfl, rfl, e⟩ := ints_sound e ru rv
 exact k i t j t' e
@[elab_as_elim] theorem RdO.intE {u : Value} {i : Int} {P : Value → Prop} (r : RdO C ρ s u (.d (.int i))) (k : ∀ t, P (.int i t)) : P u := by
 obtain ⟨t, rfl⟩ := r.int; exact k t
@[elab_as_elim] theorem RdO.strE {u : Value} {i : Str} {P : Value → Prop} (r : RdO C ρ s u (.d (.str i))) (k : ∀ t, P (.str i t)) : P u := by
 obtain ⟨t, rfl⟩ := r.str; exact k t
@[elab_as_elim] theorem int1E {b : PyData} {j : Int} {v : Value} {P : Value → Prop} (e : intV b = some j) (rv : RdO C ρ s v (.d b)) (k : ∀ t, P (.int j t)) : P v := by
 rw [intV_ e] at rv; exact rv.intE k
@[elab_as_elim] theorem RdO.boolE {u : Value} {i : Bool} {P : Value → Prop} (r : RdO C ρ s u (.d (.bool i))) (k : P (.bool i)) : P u := r.bool ▸ k
@[elab_as_elim] theorem RdO.noneE {u : Value} {P : Value → Prop} (r : RdO C ρ s u (.d .none)) (k : P .none) : P u := r.none ▸ k
@[elab_as_elim] theorem RdO.listE {u : Value} {l : List PyData} {P : Value → Prop} (r : RdO C ρ s u (.d (.list l))) (k : ∀ a vs n, IsL s.heap a vs.toArray n → RdL (C.hh ρ s) vs l → P (.ref a)) : P u := by
 obtain ⟨a, vs, n, rfl, h1, h2⟩ := r.list; exact k a vs n h1 h2
@[elab_as_elim] theorem RdO.tupleE {u : Value} {l : List PyData} {P : Value → Prop} (r : RdO C ρ s u (.d (.tuple l))) (k : ∀ a vs n, s.heap.get? a = some { cls := .type "tuple", data := .seq vs.toArray n } → RdL (C.hh ρ s) vs l → P (.ref a)) : P u := by
 obtain ⟨a, vs, n, rfl, h1, h2⟩ := r.tuple; exact k a vs n h1 h2
@[elab_as_elim] theorem str1E {b : PyData} {j : Str} {v : Value} {P : Value → Prop} (e : strV b = some j) (rv : RdO C ρ s v (.d b)) (k : ∀ t, P (.str j t)) : P v := by
 rw [strV_ e] at rv; exact rv.strE k
section
variable {a b r : PyData} {u v : Value} {Q : Value → Shared → Prop}
theorem add_sound (e : addD a b = some r) (I : Inv C σ ρ s) (ru : RdO C ρ s u (.d a)) (rv : RdO C ρ s v (.d b)) (h : PF C ρ s r Q) : wpAny C.M C.A (binaryOp .Add u v) Q E s := by
 cases a with
 | int i =>
  obtain ⟨j, h1, e⟩ := bnd e
  obtain rfl := sm_ e
  obtain ⟨t, rfl⟩ := ru.int; obtain ⟨t', rfl⟩ := int1_sound h1 rv
  exact PyProof.Rows.add_int (h _ _ .toks (.int _ _) .int)
 | str x =>
  obtain ⟨y, h1, e⟩ := bnd e
  obtain ⟨hs, e⟩ := ifd e
  obtain rfl := sm_ e
  obtain ⟨t, rfl⟩ := ru.str; obtain ⟨t', rfl⟩ := str1_sound h1 rv
  exact PyProof.Rows.add_str (fun t' tk => h _ _ .toks (.str _ _) .str) (Nat.le_trans (short_le (and2 hs).2) (by decide))
 | list l =>
  obtain ⟨l', h1, e⟩ := bnd e
  obtain ⟨hs, e⟩ := ifd e
  obtain rfl := sm_ e
  rw [listV_ h1] at rv
  obtain ⟨i, vs, n, rfl, hl, q⟩ := ru.list; obtain ⟨j, vs', n', rfl, hl', q'⟩ := rv.list
  have h1 := short_le (and2 hs).1
  have h2 := short_le (and2 hs).2
  refine P.add_list hl hl' (h _ _ (.heap' keeps_push) ?_ .size) (by rw [sizeLine_is, List.size_toArray, List.size_toArray, q.length, q'.length]; exact ad2 ‹_› ‹_› rfl)
  exact seen_list (vs := vs ++ vs') (n := 0) I (Nat.le_refl _) (by rw [Heap.get?_push_size _ rfl]; simp) ((rdl_ext q (.heap' keeps_push)).append (rdl_ext q' (.heap' keeps_push)))
 | _ => exact none_ e
theorem mulstr_sound {x : Str} {n : Int} {t t' : Tok} (hs : (short x.length && decide (n ≤ 1000) && decide (-1000 ≤ n) && short (x.length * n.toNat)) = true) (h : PF C ρ s (.str ⟨(List.replicate n.toNat x.cps.toList).flatten.toArray⟩) Q) : wpAny C.M C.A (binaryOp .Mult (.str x t) (.int n t')) Q E s := by
 have h1 := short_le (and2 (and2 (and2 hs).1).1).1
 have h2 := of_decide_eq_true (and2 (and2 (and2 hs).1).1).2
 have h3 := of_decide_eq_true (and2 (and2 hs).1).2
 have h4 := short_le (and2 hs).2
 clear hs
 refine P.mul_str (by rw [Bool.or_eq_false_iff]; exact ⟨decide_eq_false (by lia), decide_eq_false (by lia)⟩) (fun hn _ => ?_) (fun _ _ => ?_) ?_
 ·have : (x.length : Int) * n ≤ 2 ^ 63 - 1 := by
   have : ((x.length * n.toNat : Nat) : Int) ≤ ((1048576 : Nat) : Int) := Int.ofNat_le.mpr h4
   rw [Int.natCast_mul] at this
   rw [Int.toNat_of_nonneg (by lia)] at this
   lia
  intro q
  have := (Int.le_ediv_iff_mul_le (a := (x.length : Int)) (b := 2 ^ 63 - 1) (c := n) (by lia)).mpr this
  lia
 ·exact decide_eq_false (by rw [sizeLine_is]; lia)
 ·have hx : ∀ y : Array Nat, ((List.replicate n.toNat x.cps.toList).flatten.toArray = y) → ∀ t' k, Q (.str ⟨y⟩ t') { s with toks := k } := fun y ey t' k => h _ _ .toks (ey.symm ▸ (.str _ _)) .str
  split
  ·rename_i hn
   have hz : n.toNat = 0 := by lia
   exact ⟨by simp [Str.length, Str.empty], hx _ (hz ▸ rfl) _ _⟩
  ·split
   ·rename_i hn hc
    have : (List.replicate n.toNat x.cps.toList).flatten.toArray = x.cps := by
     rcases Bool.or_eq_true_iff.mp hc with q | q
     ·have : n = 1 := by simpa using q
      subst this; simp
     ·have : x.cps.size = 0 := by simpa [Str.length] using q
      rw [Array.eq_empty_of_size_eq_zero this]; simp
    exact hx _ this _ _
   ·refine ⟨?_, hx _ (by rw [rep_foldN]) _ _⟩
    rw [rep_foldN]
    show (List.toArray _).size ≤ _
    rw [List.size_toArray, flat_len, sizeLine_is, Array.length_toList, Nat.mul_comm]
    exact Nat.le_trans h4 (by decide)
theorem mullist_sound {l : List PyData} {n : Int} {u : Value} {t' : Tok} (hs : (short l.length && decide (n ≤ 1000) && decide (-1000 ≤ n) && short (l.length * n.toNat)) = true) (I : Inv C σ ρ s) (ru : RdO C ρ s u (.d (.list l))) (h : PF C ρ s (.list (List.replicate n.toNat l).flatten) Q) : wpAny C.M C.A (binaryOp .Mult u (.int n t')) Q E s := by
 obtain ⟨i, vs, m, rfl, hl, q⟩ := ru.list
 have h1 := short_le (and2 (and2 (and2 hs).1).1).1
 have h2 := of_decide_eq_true (and2 (and2 (and2 hs).1).1).2
 have h3 := of_decide_eq_true (and2 (and2 hs).1).2
 have h4 := short_le (and2 hs).2
 have hsz : vs.toArray.size * n.toNat ≤ 1048576 := by rw [List.size_toArray, q.length]; exact h4
 clear hs h4 h1
 refine wpAny_binaryOp_repeat_ref (T := "list") (U := "int") (by decide) ⟨_, hl, rfl⟩ (fun s' => typeIs_int s' n t') noFill_list_mul F.fills_int_mul F.slot_int_rmul repeat_list F.slot_int_index.lookup
  (call_meets F.slot_int_rmul (typeIs_int s n t') F.entry_int_rmul (F.args_int_rmul_2 _ _) (int___rmul___int_list n t' i vs.toArray m)
  ⟨hl, rfl, ⟨_, hl, rfl⟩, call_meets F.slot_list_mul ⟨_, hl, rfl⟩ F.entry_list_mul (F.args_list_mul_2 _ _)
   (AutoListH.list___mul___list_int_3 i vs.toArray m n t' (by simp [Builtin.List.listFitsIndex]; exact nI ‹_› ‹_›) (by lia) (by simp [Builtin.List.listTooLong, sizeLine]; rw [List.size_toArray] at hsz; exact wk ‹_› rfl))
   ⟨hl, h _ _ (.heap' keeps_push) ?_ .size⟩⟩)
 refine seen_list (vs := (List.replicate n.toNat vs).flatten) (n := 0) I (Nat.le_refl _) ?_ ((rdl_ext q (.heap' keeps_push)).rep _)
 show (Heap.push _ _).get? _ = _
 rw [Heap.get?_push_size _ rfl, rep_fold]
 by_cases he : vs.toArray.isEmpty = true
 ·have : vs = [] := by simpa using he
  subst this; simp
 ·simp [he]
theorem mul_sound (e : mulD a b = some r) (I : Inv C σ ρ s) (ru : RdO C ρ s u (.d a)) (rv : RdO C ρ s v (.d b)) (h : PF C ρ s r Q) : wpAny C.M C.A (binaryOp .Mult u v) Q E s := by
 cases a with
 | int i =>
  obtain ⟨j, h1, e⟩ := bnd e
  obtain ⟨hs, e⟩ := ifd e
  obtain rfl := sm_ e
  obtain ⟨t, rfl⟩ := ru.int; obtain ⟨t', rfl⟩ := int1_sound h1 rv
  exact PyProof.Rows.mul_int (h _ _ .toks (.int _ _) .int) (.of_left (intBits_lt (of_decide_eq_true (and2 hs).1)))
 | str x =>
  obtain ⟨n, h1, e⟩ := bnd e
  obtain ⟨hs, e⟩ := ifd e
  obtain rfl := sm_ e
  obtain ⟨t, rfl⟩ := ru.str; obtain ⟨t', rfl⟩ := int1_sound h1 rv
  exact mulstr_sound hs h
 | list l =>
  obtain ⟨n, h1, e⟩ := bnd e
  obtain ⟨hs, e⟩ := ifd e
  obtain rfl := sm_ e
  obtain ⟨t', rfl⟩ := int1_sound h1 rv
  exact mullist_sound hs I ru h
 | _ => exact none_ e
theorem pow_sound {i j : Int} {t t' : Tok} (hs : (decide (0 ≤ j) && decide (j ≤ 1000) && decide (i.natAbs < 2 ^ 62)) = true) (h : PF C ρ s (.int (i ^ j.toNat)) Q) : wpAny C.M C.A (binaryOp .Pow (.int i t) (.int j t')) Q E s := by
 have h1 := of_decide_eq_true (and2 (and2 hs).1).1
 have h2 := of_decide_eq_true (and2 (and2 hs).1).2
 refine PyProof.Rows.pow_int h1 ?_ (h _ _ .toks (.int _ _) .int)
 exact Int.le_trans (Int.mul_le_mul (a := (Builtin.Int.intBits _ : Int)) (c := 64) (Int.ofNat_le.mpr (intBits_lt (of_decide_eq_true (and2 hs).2))) h2 h1 (by decide)) (by decide)
theorem bin_sound {op : Operator} (e : binD op a b = some r) (I : Inv C σ ρ s) (ru : RdO C ρ s u (.d a)) (rv : RdO C ρ s v (.d b)) (h : PF C ρ s r Q) : wpAny C.M C.A (binaryOp op u v) Q E s := by
 cases op with
 | Add => exact add_sound e I ru rv h
 | Mult => exact mul_sound e I ru rv h
 | Sub => refine ints_elim e ru rv fun i t j t' e => PyProof.Rows.sub_int (h _ _ .toks (.of e (.int _ _)) .int)
 | Mod => refine ints_elim e ru rv fun i t j t' e => ifE e fun hs e => PyProof.Rows.mod_int' (fun z => hs (.inl z)) (h _ _ .toks (.of e (.int _ _)) .int)
 | FloorDiv =>
  refine ints_elim e ru rv fun i t j t' e => ?_
  refine ifE e fun hs e => PyProof.Rows.floordiv_int (fun z => hs (.inl z)) (h _ _ .toks (.of e (.int _ _)) .int) (Or.inl (PyProof.noPylong_small (Nat.lt_trans (Nat.lt_of_not_le (a := 2 ^ 20) fun z => hs (.inr z)) (by decide))))
 | Pow =>
  refine ints_elim e ru rv fun i t j t' e => ?_
  refine ifE e fun hs e => pow_sound (ρ := ρ) hs ?_
  exact sm_ e ▸ h
 | _ => exact none_ e
end
end
end
section
open PySem.Calls
section
variable {C : Cx} {σ : Sig} {ρ : List Own} {s : Shared} {E : Value → Shared → Prop} {k : Nat}
theorem Lv.u64 {A : Around} (h : Lv A k) : A.units + 64 < cLine := by have := h.units; show _ < 9900; lia
noncomputable abbrev PB (C : Cx) (s : Shared) (r : Bool) (Q : Value → Shared → Prop) : Prop := ∀ s', Ext C.env.locals s s' → Q (.bool r) s'
section
variable {a b : PyData} {r : Bool} {u v : Value} {Q : Value → Shared → Prop}
theorem PB.of {r q : Bool} (h : PB C s r Q) (e : some q = some r) : Q (.bool q) s := (sm_ e).symm ▸ h s .refl
theorem is_sound (e : isD a b = some r) (ru : RdO C ρ s u (.d a)) (rv : RdO C ρ s v (.d b)) (h : PB C s r Q) : wpAny C.M C.A (compareOp .Is u v) Q E s := by
 cases a with
 | bool x =>
  refine bndE e fun y h1 e => ?_
  rw [boolV_ h1] at rv
  refine ru.boolE (rv.boolE ?_)
  exact is_bool (h.of e)
 | none =>
  refine ifE e fun h1 e => ?_
  rw [noneV_ h1] at rv
  refine ru.noneE (rv.noneE ?_)
  exact is_none_none (h.of e)
 | int i =>
  refine ifE e fun h1 e => ?_
  rw [noneV_ h1] at rv
  refine ru.intE fun t => rv.noneE ?_
  exact is_int_none (h.of e)
 | _ => exact none_ e
theorem in_sound {x : Str} (e : inD x b = some r) (K : CxOk C k) (ru : RdO C ρ s u (.d (.str x))) (rv : RdO C ρ s v (.d b)) (h : PB C s r Q) : wpAny C.M C.A (compareOp .In u v) Q E s := by
 cases b with
 | str y =>
  refine ifE e fun hs e => ?_
  refine ru.strE fun t => rv.strE fun t' => ?_
  exact PyProof.Rows.in_str (h.of e)
 | tuple l =>
  refine ifE e fun hs e => ?_
  obtain ⟨as, r1⟩ := ru.reads; obtain ⟨bs, r2⟩ := rv.reads
  refine SeqAt.in_tuple_reads r2 r1 (SeqAt.canLay_of_shaped (and2 hs).2) (SeqAt.canLay_of_shaped (and2 hs).1) ?_ (h.of e)
  refine Nat.lt_of_le_of_lt (Nat.add_le_add_left (Nat.min_le_right _ _) _) ?_
  have d1 := SeqAt.depth_of_shaped (and2 hs).1
  have := K.lv.units
  clear ru rv r1 r2 h hs e
  show _ < 9900
  lia
 | _ => exact none_ e
theorem cmp_sound {op : CmpOp} (e : cmpD op a b = some r) (K : CxOk C k) (I : Inv C σ ρ s) (ru : RdO C ρ s u (.d a)) (rv : RdO C ρ s v (.d b)) (h : PB C s r Q) : wpAny C.M C.A (compareOp op u v) Q E s := by
 cases op with
 | Eq => exact ifE e fun hs e => let ⟨as, r1⟩ := ru.reads; let ⟨bs, r2⟩ := rv.reads; eq_dataH r1 r2 (and2 hs).1 (and2 hs).2 K.lv.u64 (h.of e)
 | NotEq => exact ifE e fun hs e => let ⟨as, r1⟩ := ru.reads; let ⟨bs, r2⟩ := rv.reads; ne_dataH r1 r2 (and2 hs).1 (and2 hs).2 K.lv.u64 (h.of e)
 | Lt => refine ints_elim e ru rv fun i t j t' e => PyProof.Rows.lt_int (h.of e)
 | LtE => refine ints_elim e ru rv fun i t j t' e => PyProof.Rows.le_int (h.of e)
 | Gt => refine ints_elim e ru rv fun i t j t' e => PyProof.Rows.gt_int (h.of e)
 | GtE => refine ints_elim e ru rv fun i t j t' e => PyProof.Rows.ge_int (h.of e)
 | Is => exact is_sound e ru rv h
 | IsNot =>
  refine bndE e fun x h1 e => bndE e fun y h2 e => ?_
  rw [boolV_ h1] at ru
  rw [boolV_ h2] at rv
  refine ru.boolE (rv.boolE ?_)
  exact isnot_bool (h.of e)
 | In =>
  refine bndE e fun x h1 e => ?_
  rw [strV_ h1] at ru
  exact in_sound e K ru rv h
 | NotIn =>
  refine bndE e fun x h1 e => bndE e fun y h2 e => ifE e fun hs e => ?_
  refine str1E h1 ru fun t => str1E h2 rv fun t' => ?_
  exact PyProof.Rows.notIn_str (by rw [Bool.not_not]; exact h.of e)
end
theorem truth_sound {a : PyData} {r : Bool} {u : Value} {Q : Bool → Shared → Prop} (e : truthD a = some r) (ru : RdO C ρ s u (.d a)) (h : ∀ s', Ext C.env.locals s s' → Q r s') : wpAny C.M C.A (truthy u) Q E s := by
 cases a with
 | bool b => obtain rfl := sm_ e; exact ru.boolE (wpAny_truthy_bool (h _ .refl))
 | int i =>
  obtain rfl := sm_ e
  refine ru.intE fun t => PyProof.Rows.truthy_int ?_
  have : (i != 0) = decide (i ≠ 0) := by by_cases q : i = 0 <;> simp [q]
  rw [this]; exact h _ .refl
 | str x =>
  refine ifE e fun hs e => ?_
  obtain rfl := sm_ e
  refine ru.strE fun t => P.truthy_str (by have := short_le hs; clear ru h; exact naB ‹_›) ?_
  have : ((x.length : Int) != 0) = decide (x.length ≠ 0) := by by_cases q : x.length = 0 <;> simp [q]
  rw [this]; exact h _ .toks
 | _ => exact none_ e
theorem at_some {α : Type} {l : List α} {i : Int} {x : α} (e : at? l i = some x) : ∃ j, seqIndex? i l.length = some j ∧ l[j]? = some x ∧ (0 ≤ i → j = i.toNat) := by
 unfold at? at e
 split at e
 ·rename_i h0
  have hl := (List.getElem?_eq_some_iff.mp e).1
  exact ⟨i.toNat, seqIndex_of h0 (by exact tnL ‹_› ‹_›), e, fun _ => rfl⟩
 ·rename_i h0
  split at e
  ·rename_i h1
   exact ⟨(i + l.length).toNat, seqIndex_neg (by lia) (by lia), e, fun q => absurd q h0⟩
  ·exact none_ e
theorem subscripted_eq {sl : Expr} {o i : Value} : ∃ ops, subscripted sl false o i = operate ops (getItem o i) := by
 by_cases h : sl.ctorIdx = 26
 ·exact Expr.Slice.elim (motive_1 := fun sl => ∃ ops, subscripted sl false o i = operate ops (getItem o i)) sl h fun _ _ st _ => by cases st <;> exact ⟨_, rfl⟩
 ·refine ⟨[o, i], ?_⟩
  cases sl <;> first | rfl | exact absurd rfl h
noncomputable def Sub_ (s : Shared) (u : Value) : Prop := ∃ T id, s.TypeIs u T ∧ typeLookup (.type T) "__getitem__" = pure (some (.builtin id))
section
variable {r : PyData} {u v : Value} {Q : Value → Shared → Prop} {i : Int} {t : Tok}
noncomputable abbrev PR (C : Cx) (ρ : List Own) (s : Shared) (r : PyData) (Q : Value → Shared → Prop) : Prop := ∀ x s', Ext C.env.locals s s' → Rd (C.hh ρ s') x r → Q x s'
theorem neg_at {α : Type} {l : List α} {j : Nat} {x : α} (hi : ¬0 ≤ i) (e : at? l i = some x) (h : seqIndex? i l.length = some j) : -(l.length : Int) ≤ i ∧ (i + l.length).toNat = j := by
 unfold at? at e
 rw [if_neg hi] at e
 have h1 := (ifd e).1
 have h2 : -(l.length : Int) ≤ i := by lia
 exact ⟨h2, Option.some.inj ((seqIndex_neg (k := i) (n := l.length) (by lia) h2).symm.trans h)⟩
theorem getList_sound {l : List PyData} {c : Addr} {vs : List Value} {n : Nat} (hs : i.natAbs ≤ 1048576) (e : at? l i = some r) (hl : IsL s.heap c vs.toArray n) (q : RdL (C.hh ρ s) vs l) (h : PR C ρ s r Q) : wpAny C.M C.A (getItem (.ref c) (.int i t)) Q E s := by
 obtain ⟨j, h1, h2, h3⟩ := at_some e
 obtain ⟨x, h4, h5⟩ := q.get j h2
 have hlen := q.length
 by_cases h0 : 0 ≤ i
 ·rw [h3 h0] at h4
  exact wpAny_getItem_list hl.isList h0 (by lia) (by simpa using h4) (h _ _ .refl h5)
 ·obtain ⟨g1, g2⟩ := neg_at h0 e h1
  refine wpAny_getItem_list_neg hl.isList (by lia) (by rw [List.size_toArray, hlen]; assumption) (by exact naC ‹_›) ?_ (h _ _ .refl h5)
  rw [List.size_toArray, hlen, g2]; simpa using h4
theorem getItem_sound {a b : PyData} (e : subD a b = some r) (ru : RdO C ρ s u (.d a)) (rv : RdO C ρ s v (.d b)) (h : PR C ρ s r Q) : Sub_ s u ∧ wpAny C.M C.A (getItem u v) Q E s := by
 refine bndE e fun i h0 e => ifE e fun hs e => ?_
 have hs := short_le hs
 refine int1E h0 rv fun t => ?_
 clear h0 rv
 cases a with
 | list l => exact ru.listE fun c vs n hl q => ⟨⟨_, _, hl.isList.typeIs, slot_list_getitem.lookup⟩, getList_sound hs e hl q h⟩
 | tuple l =>
  refine ru.tupleE fun c vs n hl q => ?_
  obtain ⟨j, h1, h2, h3⟩ := at_some e
  obtain ⟨x, h4, h5⟩ := q.get j h2
  have ht : IsTup s.heap c vs.toArray := ⟨_, hl, rfl, n, rfl⟩
  exact ⟨⟨_, _, ht.typeIs, slot_tuple_getitem.lookup⟩, getItem_tuple ht (by exact naC ‹_›) (by lia) (by rw [List.size_toArray, q.length]; exact h1) (by simpa using h4) (h _ _ .refl h5)⟩
 | str x =>
  refine ru.strE fun t' => ?_
  obtain ⟨c, q, e⟩ := mpd e
  obtain ⟨j, h1, h2, _⟩ := at_some q
  refine ⟨⟨_, _, typeIs_str _ _ _, F.slot_str_getitem.lookup⟩, PyProof.Rows.getItem_str (c := c) (by rw [Bool.or_eq_false_iff]; exact ⟨decide_eq_false (by lia), decide_eq_false (by exact naB ‹_›)⟩) ?_ (h _ _ .toks (e ▸ .str _ _))⟩
  rw [show x.length = x.cps.toList.length from rfl, h1]
  simpa using h2
 | _ => exact none_ e
end
end
end
section
open PySem.Calls
inductive RdOs (C : Cx) (ρ : List Own) (s : Shared) : List Value → List PyData → Prop
 | nil : RdOs C ρ s [] []
 | cons {u : Value} {us : List Value} {p : PyData} {ps : List PyData} : RdO C ρ s u (.d p) → RdOs C ρ s us ps → RdOs C ρ s (u :: us) (p :: ps)
noncomputable def bval (f : Str) : Option Value :=
 if f = "len" then some (.builtin "len") else if f = "sum" then some (.builtin "sum") else if f = "max" then some (.builtin "max")
 else if f = "tuple" then some (.type "tuple") else if f = "chr" then some (.builtin "chr") else if f = "list" then some (.type "list") else if f = "range" then some (.type "range")
 else if f = "enumerate" then some (.type "enumerate") else none
section
variable {C : Cx} {σ : Sig} {ρ : List Own} {s : Shared} {E : Value → Shared → Prop} {k : Nat}
theorem RdOs.one {us : List Value} {p : PyData} (r : RdOs C ρ s us [p]) : ∃ u, us = [u] ∧ RdO C ρ s u (.d p) := by
 cases r with
 | cons a b => cases b; exact ⟨_, rfl, a⟩
@[elab_as_elim] theorem RdOs.oneE {us : List Value} {p : PyData} {ps : List PyData} {P : List Value → Prop} (e : Mine.one ps = some p) (r : RdOs C ρ s us ps) (k : ∀ u, RdO C ρ s u (.d p) → P [u]) : P us := by
 rw [one_ e] at r
 obtain ⟨u, rfl, a⟩ := r.one
 exact k u a
@[elab_as_elim] theorem RdOs.twoE {us : List Value} {p : PyData × PyData} {ps : List PyData} {P : List Value → Prop} (e : Mine.two ps = some p) (r : RdOs C ρ s us ps) (k : ∀ u v, RdO C ρ s u (.d p.1) → RdO C ρ s v (.d p.2) → P [u, v]) : P us := by
 rw [two_ e] at r
 cases r with
 | cons a r => obtain ⟨u, rfl, b⟩ := r.one; exact k _ u a b
@[elab_as_elim] theorem RdOs.threeE {us : List Value} {p : PyData × PyData × PyData} {ps : List PyData} {P : List Value → Prop} (e : Mine.three ps = some p) (r : RdOs C ρ s us ps) (k : ∀ u v w, RdO C ρ s u (.d p.1) → RdO C ρ s v (.d p.2.1) → RdO C ρ s w (.d p.2.2) → P [u, v, w]) : P us := by
 rw [three_ e] at r
 cases r with
 | cons a r => cases r with
  | cons b r => obtain ⟨u, rfl, c⟩ := r.one; exact k _ _ u a b c
theorem intsAre_of : ∀ {l : List PyData} {ns : List Int} {vs : List Value} {h : Heap}, intsOf l = some ns → RdL h vs l → IntsAre vs ns
 | [], ns, _, _, e, .nil => sm_ e ▸ .nil
 | p :: l, ns, _, _, e, .cons x y => by
  obtain ⟨i, h1, e⟩ := bnd e
  obtain ⟨r, h2, rfl⟩ := mpd e
  rw [intV_ h1] at x
  obtain ⟨t, rfl⟩ := Rd.int_ x
  exact .cons i t (intsAre_of h2 y)
theorem maxL_spec : ∀ (l : List Int) (m : Int), (maxL l m = m ∨ maxL l m ∈ l) ∧ m ≤ maxL l m ∧ ∀ a ∈ l, a ≤ maxL l m
 | [], m => ⟨.inl rfl, Int.le_refl _, fun _ h => nomatch h⟩
 | x :: r, m => by
  unfold maxL
  obtain ⟨h1, h2, h3⟩ := maxL_spec r (if m < x then x else m)
  by_cases q : m < x
  ·rw [if_pos q] at *
   refine ⟨?_, by lia, fun a ha => ?_⟩
   ·rcases h1 with h1 | h1
    ·right; rw [h1]; exact .head _
    ·right; exact .tail _ h1
   ·rcases List.mem_cons.mp ha with rfl | ha
    ·exact h2
    ·exact h3 a ha
  ·rw [if_neg q] at *
   refine ⟨?_, h2, fun a ha => ?_⟩
   ·rcases h1 with h1 | h1
    ·left; exact h1
    ·right; exact .tail _ h1
   ·rcases List.mem_cons.mp ha with rfl | ha
    ·lia
    ·exact h3 a ha
theorem max_is {n : Int} {ns : List Int} {M : Int} (hm : M ∈ n :: ns) (ha : ∀ a ∈ n :: ns, a ≤ M) : M = maxL ns n := by
 obtain ⟨h1, h2, h3⟩ := maxL_spec ns n
 have : M ≤ maxL ns n := by
  rcases List.mem_cons.mp hm with rfl | q
  ·exact h2
  ·exact h3 _ q
 have : maxL ns n ≤ M := by
  rcases h1 with q | q
  ·rw [q]; exact ha _ (.head _)
  ·exact ha _ (.tail _ q)
 lia
section
variable {ps : List PyData} {r : PyData} {us : List Value} {Q : Value → Shared → Prop}
theorem PR.of {q : PyData} (h : PR C ρ s r Q) (e : some q = some r) : PR C ρ s q Q := (sm_ e).symm ▸ h
theorem len_sound (e : lenD ps = some r) (ru : RdOs C ρ s us ps) (h : PR C ρ s r Q) : wpAny C.M C.A (call (.builtin "len") us []) Q E s := by
 refine bndE e fun p h1 e => ru.oneE h1 fun u r1 => ?_
 clear h1 ru
 cases p with
 | list l =>
  refine ifE e fun hs e => r1.listE fun c vs n hl q => ?_
  have hs := short_le hs
  have hl' : vs.toArray.size = _ := (List.size_toArray ..).trans q.length
  exact call_len_list hl.isList (by rw [hl']; lia) (hl' ▸ (h.of e _ _ .toks (.int _ _)))
 | tuple l =>
  refine ifE e fun hs e => r1.tupleE fun c vs n hl q => ?_
  have hs := short_le hs
  have hl' : vs.toArray.size = _ := (List.size_toArray ..).trans q.length
  exact PyProof.Rows.len_tuple ⟨_, hl, rfl, n, rfl⟩ (by rw [hl']; lia) (hl' ▸ (h.of e _ _ .toks (.int _ _)))
 | str x =>
  refine ifE e fun hs e => r1.strE fun t => ?_
  have hs := short_le hs
  exact P.len_str (by exact naB ‹_›) (h.of e _ _ .toks (.int _ _))
 | _ => exact none_ e
theorem sum_sound (e : sumD ps = some r) (K : CxOk C k) (I : Inv C σ ρ s) (ru : RdOs C ρ s us ps) (h : PR C ρ s r Q) : wpAny C.M C.A (call (.builtin "sum") us []) Q E s := by
 refine bndE e fun p h1 e => ru.oneE h1 fun u r1 => bndE e fun l h2 e => ?_
 rw [listV_ h2] at r1
 obtain ⟨ns, q, e⟩ := mpd e
 obtain ⟨m, hn⟩ := I.ns
 obtain ⟨Fr0, N0⟩ := frOf hn
 exact r1.listE fun c vs n hl q' => sumK K.lv.hh Fr0 N0 hl.isList (intsAre_of q q') fun h' tk t' F' N' => h _ _ (.fr hn F' N' fun _ z => z) (e ▸ .int _ _)
theorem max_sound (e : maxD ps = some r) (K : CxOk C k) (I : Inv C σ ρ s) (ru : RdOs C ρ s us ps) (h : PR C ρ s r Q) : wpAny C.M C.A (call (.builtin "max") us []) Q E s := by
 obtain ⟨m, hn⟩ := I.ns
 obtain ⟨Fr0, N0⟩ := frOf hn
 unfold maxD at e
 cases h1 : one ps with
 | some p =>
  rw [h1] at e
  refine ru.oneE h1 fun u r1 => bndE e fun l h2 e => bndE e fun ns q e => ?_
  rw [listV_ h2] at r1
  cases ns with
  | nil => exact none_ e
  | cons n ns => exact r1.listE fun c vs n' hl q' => kso_max Fr0 N0 hl.isList (intsAre_of q q') (Nat.succ_pos _) K.lv.hh fun h' M t tk F' N' hm ha => h.of e _ _ (.fr hn F' N' fun _ z => z) ((max_is hm ha).symm ▸ (.int _ _))
 | none =>
  rw [h1] at e
  refine bndE e fun p h2 e => ru.twoE h2 fun u v r1 r2 => ?_
  exact ints_elim e r1 r2 fun i t j t' e => max_two_N K.lv.hh Fr0 N0 fun h' tk F' N' => h.of e _ _ (.fr hn F' N' fun _ z => z) (.int _ _)
end
theorem newFresh {s' : Shared} {h' : Heap} {D : Addr} {o : Obj} (N' : News (trunc s.heap C.env.locals) C.env.locals h' ((D, o) :: allNews s.heap C.env.locals)) (lt : ∀ p ∈ allNews s.heap C.env.locals, p.1 < D) : Fresh s (.ref D) := fun a z => by
 cases z
 cases eo : s.heap.get? D with
 | none => rfl
 | some o' =>
 exfalso
 rcases Nat.lt_trichotomy D C.env.locals with z | z | z
 ·have := (N' _ (.head _)).2.2
  exact none_ (this.symm.trans (trunc_get.mpr ⟨z, eo⟩))
 ·exact (N' _ (.head _)).2.1 z
 ·have := lt (D, o') (mem_allNews.mpr ⟨z, eo⟩)
  exact Nat.lt_irrefl _ this
theorem newD {s' : Shared} {h' : Heap} {D : Addr} {o : Obj} (I : Inv C σ ρ s) (N' : News (trunc s.heap C.env.locals) C.env.locals h' ((D, o) :: allNews s.heap C.env.locals)) (lt : ∀ p ∈ allNews s.heap C.env.locals, p.1 < D) (hs : s'.heap = h') :
  (C.hh ρ s').get? D = some o := by
 subst hs
 refine hideAll_get _ (N'.get (.head _)) fun hD => ?_
 obtain ⟨o, eo⟩ := I.hidLt D hD
 have := newFresh (s' := s') N' lt D rfl
 exact none_ (this.symm.trans eo)
theorem tuple_sound {ps : List PyData} {r : PyData} {us : List Value} {Q : Value → Shared → Prop} (e : tupleD ps = some r) (K : CxOk C k) (I : Inv C σ ρ s) (ru : RdOs C ρ s us ps) (h : PR C ρ s r Q) :
  wpAny C.M C.A (call (.type "tuple") us []) Q E s := by
 refine bndE e fun p h1 e => ru.oneE h1 fun u r1 => bndE e fun l h2 e => ifE e fun hs e => ?_
 rw [listV_ h2] at r1
 obtain ⟨m, hn⟩ := I.ns
 obtain ⟨Fr0, N0⟩ := frOf hn
 refine r1.listE fun c vs n' hl q' => kde_tupleOf (zs := vs) Fr0 N0 hl.isList (by rw [List.size_toArray, q'.length]; exact of_decide_eq_true hs) (by simp) fun D h' F' N' lt => ?_
 have X : Ext C.env.locals s { s with heap := h' } := Ext.fr (t := s.toks) hn F' N' fun _ z => .tail _ z
 exact h.of e _ _ X (.tuple (vs := vs) (n := 0) (newD I N' lt rfl) (rdl_ext q' X))
theorem chr_sound {ps : List PyData} {r : PyData} {us : List Value} {Q : Value → Shared → Prop} (e : chrD ps = some r) (ru : RdOs C ρ s us ps) (h : PR C ρ s r Q) :
  wpAny C.M C.A (call (.builtin "chr") us []) Q E s := by
 refine bndE e fun p h1 e => ru.oneE h1 fun u r1 => bndE e fun i h2 e => ifE e fun hs e => int1E h2 r1 fun t => ?_
 exact P.chr_of_int (by rw [Bool.or_eq_false_iff]; exact ⟨decide_eq_false (Int.not_lt.mpr hs.1), decide_eq_false (by have := hs.2; clear h ru; lia)⟩) (h.of e _ _ .toks (.str _ _))
theorem pick_ {α : Type} {c : Prop} [Decidable c] {a b : Option α} {r : α} {P : Prop} (h : (if c then a else b) = some r) (k1 : c → a = some r → P) (k2 : ¬c → b = some r → P) : P := by
 by_cases q : c
 ·rw [if_pos q] at h; exact k1 q h
 ·rw [if_neg q] at h; exact k2 q h
theorem pick2_ {α β : Type} {c : Prop} [Decidable c] {a b : Option α} {a' b' : Option β} {r : α} {r' : β} {P : Prop} (h : (if c then a else b) = some r) (h' : (if c then a' else b') = some r') (k1 : a = some r → a' = some r' → P) (k2 : b = some r → b' = some r' → P) : P := by
 by_cases q : c
 ·rw [if_pos q] at h h'; exact k1 h h'
 ·rw [if_neg q] at h h'; exact k2 h h'
theorem builtin_sound {f : Str} {fv : Value} {ps : List PyData} {r : PyData} {us : List Value} {Q : Value → Shared → Prop} (e : builtD f ps = some r) (hf : bval f = some fv) (K : CxOk C k) (I : Inv C σ ρ s)
  (ru : RdOs C ρ s us ps) (h : PR C ρ s r Q) : wpAny C.M C.A (call fv us []) Q E s :=
 pick2_ e hf (fun e q => sm_ q ▸ len_sound e ru h) fun e hf => pick2_ e hf (fun e q => sm_ q ▸ sum_sound e K I ru h) fun e hf => pick2_ e hf (fun e q => sm_ q ▸ max_sound e K I ru h) fun e hf =>
  pick2_ e hf (fun e q => sm_ q ▸ tuple_sound e K I ru h) fun e hf => pick2_ e hf (fun e q => sm_ q ▸ chr_sound e ru h) fun e _ => none_ e
noncomputable def mthId (m : Str) : Option String :=
 if m = "startswith" then some "str.startswith" else if m = "endswith" then some "str.endswith" else if m = "lstrip" then some "str.lstrip"
 else if m = "split" then some "str.split" else if m = "find" then some "str.find" else if m = "join" then some "str.join" else none
theorem mthId_slot {m : Str} {id : String} (h : mthId m = some id) : Slot "str" m id ∧ typeOf (.builtin id) = pure (.type "method_descriptor") :=
 pick_ h (fun q e => q.symm ▸ sm_ e ▸ ⟨F.slot_str_startswith, F.type_str_startswith⟩) fun _ h => pick_ h (fun q e => q.symm ▸ sm_ e ▸ ⟨F.slot_str_endswith, F.type_str_endswith⟩) fun _ h =>
  pick_ h (fun q e => q.symm ▸ sm_ e ▸ ⟨F.slot_str_lstrip, F.type_str_lstrip⟩) fun _ h => pick_ h (fun q e => q.symm ▸ sm_ e ▸ ⟨F.slot_str_split, F.type_str_split⟩) fun _ h =>
  pick_ h (fun q e => q.symm ▸ sm_ e ▸ ⟨F.slot_str_find, F.type_str_find⟩) fun _ h => pick_ h (fun q e => q.symm ▸ sm_ e ▸ ⟨F.slot_str_join, F.type_str_join⟩) fun _ h => none_ h
open PySem.Builtin PySem.Builtin.Str in
theorem gives_str_find_4 (x y : Str) (i j : Int) (t u v w : Tok) : Gives («str.find» ⟨[.str x t, .str y u, .int i v, .int j w], []⟩) (.int (match occurrences x y (fromIndex x.length i) (min (fromIndex x.length j) x.length) 1 with | k :: _ => (k : Int) | [] => -1)) := by
 show Gives (match occurrences x y (fromIndex x.length i) (min (fromIndex x.length j) x.length) 1 with | k :: _ => retInt k | [] => (do rule "str.find.not-found"; retInt (-1))) _
 cases occurrences x y (fromIndex x.length i) (min (fromIndex x.length j) x.length) 1 with
 | nil => exact .rule (.of_eq rfl)
 | cons k _ => exact .of_eq rfl
theorem fromIndex_nat {n : Nat} {i : Int} (h : 0 ≤ i) : fromIndex n i = i.toNat := by
 delta fromIndex; rw [if_neg (by lia)]; congr 1; lia
theorem strs_rd {h : Heap} : ∀ {l : List (Str × Tok)} {ss : List Str}, l.map (·.1) = ss → RdL h (strValues l) (ss.map PyData.str)
 | [], _, e => by subst e; exact .nil
 | p :: l, _, e => by subst e; exact .cons (.str _ _) (strs_rd rfl)
theorem strsAre_of : ∀ {l : List PyData} {ns : List Str} {vs : List Value} {h : Heap}, strsD l = some ns → RdL h vs l → StrsAre vs ns
 | [], ns, _, _, e, .nil => sm_ e ▸ .nil
 | p :: l, ns, _, _, e, .cons x y => by
  obtain ⟨i, h1, e⟩ := bnd e
  obtain ⟨r, h2, rfl⟩ := mpd e
  rw [strV_ h1] at x
  obtain ⟨t, rfl⟩ := Rd.str_ x
  exact .cons i t (strsAre_of h2 y)
theorem sumLen_is : ∀ l : List Str, sumLen l = (l.map (·.length)).sum
 | [] => rfl
 | x :: r => by unfold sumLen; exact (sumLen_is r) ▸ rfl
theorem strsD_length : ∀ {l : List PyData} {ns : List Str}, strsD l = some ns → ns.length = l.length
 | [], ns, e => sm_ e ▸ rfl
 | p :: l, ns, e => by
  obtain ⟨i, h1, e⟩ := bnd e
  obtain ⟨r, h2, rfl⟩ := mpd e
  rw [List.length_cons, List.length_cons, strsD_length h2]
section
variable {x m : Str} {t : Tok} {r : PyData} {us : List Value} {Q : Value → Shared → Prop}
noncomputable abbrev Meth (C : Cx) (m x : Str) (t : Tok) (us : List Value) (Q E : Value → Shared → Prop) (s : Shared) : Prop := ∃ id, mthId m = some id ∧ wpAny C.M C.A (call (.builtin id) (.str x t :: us) []) Q E s
theorem PF.of {q : PyData} (h : PF C ρ s r Q) (e : some q = some r) : PF C ρ s q Q := (sm_ e).symm ▸ h
theorem split_sound {y : Str} {t' : Tok} (h1 : x.length ≤ 1048576) (hy : ¬y.length = 0) (I : Inv C σ ρ s) (h : PF C ρ s (.list ((Txt.split x y).map .str)) Q) : wpAny C.M C.A (call (.builtin "str.split") [.str x t, .str y t'] []) Q E s := by
 obtain ⟨mm, hn⟩ := I.ns
 obtain ⟨Fr0, N0⟩ := frOf hn
 refine KSpl.split1 Fr0 N0 (by simpa using hy) (fun D l h' k' el sa F' N' lt => ?_) (by rw [sizeLine_is]; exact adc ‹_› rfl)
 have X : Ext C.env.locals s { s with heap := h', toks := k' } := Ext.fr hn F' N' fun _ z => .tail _ z
 exact h _ _ X (.list (n := 0) (newD I N' lt rfl) (strs_rd el)) (newFresh (s' := s) N' lt)
theorem methS_sound {y : Str} {t' : Tok} (e : methS x m y = some r) (I : Inv C σ ρ s) (h : PF C ρ s r Q) : Meth C m x t [.str y t'] Q E s := by
 refine ifE e fun hs e => pick_ e (fun q e => q.symm ▸ ⟨_, rfl, SC.startswith (h.of e _ _ .refl (.bool _) .bool)⟩) fun _ e => pick_ e (fun q e => q.symm ▸ ⟨_, rfl, SC.endswith (h.of e _ _ .refl (.bool _) .bool)⟩) fun _ e =>
  pick_ e (fun q e => q.symm ▸ ⟨_, rfl, SC.lstripChars (fun t' k => h.of e _ _ .toks (.str _ _) .str) (by have := short_le (and2 hs).1; rw [sizeLine_is]; clear h I; exact wk ‹_› rfl)⟩) fun _ e =>
  pick_ e (fun q e => q.symm ▸ ifE e fun hy e => ⟨_, rfl, split_sound (short_le (and2 hs).1) hy I (h.of e)⟩) fun _ e => none_ e
theorem find_sound {y : Str} {i j : Int} {t1 t2 t3 : Tok} (hs : (short x.length && short y.length && decide (0 ≤ i) && decide (i ≤ lim) && decide (0 ≤ j) && decide (j ≤ x.length)) = true) (h : PF C ρ s (.int (findAt x y i.toNat j.toNat)) Q) :
  wpAny C.M C.A (call (.builtin "str.find") [.str x t, .str y t1, .int i t2, .int j t3] []) Q E s := by
 have h1 := of_decide_eq_true (and2 hs).2
 have h2 := of_decide_eq_true (and2 (and2 hs).1).2
 have h4 := of_decide_eq_true (and2 (and2 (and2 (and2 hs).1).1).1).2
 refine call_gives F.slot_str_find (typeIs_str _ _ _) F.entry_str_find (F.args_str_find_4 _ _ _ _) (gives_str_find_4 x _ _ _ t t1 t2 t3) ?_
 rw [fromIndex_nat h4, fromIndex_nat h2, Nat.min_eq_left (by clear hs h; lia)]
 exact h _ _ .toks (.int _ _) .int
theorem join_sound {l : List PyData} {u : Value} (e : joinT x l = some r) (ru : RdO C ρ s u (.d (.list l))) (h : PF C ρ s r Q) : wpAny C.M C.A (call (.builtin "str.join") [.str x t, u] []) Q E s := by
 refine bndE e fun ss he e => ifE e fun hs e => ru.listE fun c vs n hl q => PyProof.Rows.join_list (ys := ss) hl.isList (strsAre_of he q) ?_ fun t' k' => h.of e _ _ .toks (.str _ _) .str
 have h1 := short_le (and2 hs).2
 have h2 := short_le (and2 (and2 hs).1).2
 rw [← sumLen_is, strsD_length he, Nat.mul_comm]
 clear hs h e
 exact ad2 ‹_› ‹_› rfl
theorem meth_sound {ps : List PyData} (e : methD x m ps = some r) (I : Inv C σ ρ s) (ru : RdOs C ρ s us ps) (h : PF C ρ s r Q) : Meth C m x t us Q E s := by
 delta methD at e
 cases h1 : one ps with
 | some p =>
  rw [h1] at e
  refine ru.oneE h1 fun u r1 => ?_
  cases p with
  | str y => exact r1.strE fun t' => methS_sound e I h
  | list l => exact ifE e fun q e => ⟨_, q ▸ rfl, join_sound e r1 h⟩
  | _ => exact none_ e
 | none =>
  rw [h1] at e
  refine bndE e fun p h2 e => ru.threeE h2 fun u v w r1 r2 r3 => bndE e fun y h3 e => str1E h3 r1 fun t1 => ?_
  exact ints_elim e r2 r3 fun i t2 j t3 e => ifE e fun q e => ifE e fun hs e => ⟨_, q ▸ rfl, find_sound hs (h.of e)⟩
end
end
end
section
open PySem.Calls
structure Mv (wr : List Addr) (gw : List Nat) (s s' : Shared) : Prop where
 keep : ∀ b o, b ∉ wr → s.heap.get? b = some o → s'.heap.get? b = some o
 os : s'.os = s.os
 gens : ∀ (k : Nat) (x : GenState), k ∉ gw → s.gens[k]? = some x → s'.gens[k]? = some x
 bare : AllBare s.gens → AllBare s'.gens
theorem Mv.heap {wr : List Addr} {s : Shared} {h : Heap} {t : Nat} (k : ∀ b o, b ∉ wr → s.heap.get? b = some o → h.get? b = some o) : Mv wr [] s { s with heap := h, toks := t } := ⟨k, rfl, fun _ _ _ e => e, id⟩
structure It (M : Model) (A : Around) (I : Addr) (fp wr : List Addr) (gw : List Nat) (h0 : Heap) (ps : List PyData) (St : Nat → Shared → Prop) : Prop where
 sub : ∀ b ∈ wr, b ∈ fp
 there : ∀ i s, St i s → ∀ b ∈ fp, ∃ o, s.heap.get? b = some o
 frame : ∀ i s s', St i s → (∀ b ∈ fp, ∀ o, s.heap.get? b = some o → s'.heap.get? b = some o) → (∀ (k : Nat) (x : GenState), s.gens[k]? = some x → s'.gens[k]? = some x) → (AllBare s.gens → AllBare s'.gens) → St i s'
 item : ∀ i p s Q E, ps[i]? = some p → St i s →
  (∀ v s', St (i + 1) s' → Mv wr gw s s' → (∀ l, Keeps h0 (hideAll s.heap l) → (∀ a ∈ l, ∃ o, s.heap.get? a = some o) → Rd (hideAll s'.heap l) v p) →
   (∀ t (Q' : Unit → Shared → Prop) E', Q' () s' → wpAny M A (letOwnedTupleGo t (.ref I) v) Q' E' s') → Q (some v) s') → wpAny M A (pyNext (.ref I)) Q E s
 done : ∀ s Q E, St ps.length s → (∀ s', Mv wr gw s s' → Q none s') → wpAny M A (pyNext (.ref I)) Q E s
 self : ∀ i s (Q : Value → Shared → Prop) E, St i s → Q (.ref I) s → wpAny M A (pyIter (.ref I)) Q E s
structure It0 (M : Model) (A : Around) (J L : Addr) (g : Nat) (base : List Addr) (ps : List PyData) (G0 : Shared → Prop) : Prop where
 typ : ∀ s, G0 s → s.TypeIs (.ref J) "generator"
 there : ∀ s, G0 s → ∀ b ∈ J :: L :: base, ∃ o, s.heap.get? b = some o
 frame : ∀ s s', G0 s → (∀ b ∈ J :: L :: base, ∀ o, s.heap.get? b = some o → s'.heap.get? b = some o) → (∀ (k : Nat) (x : GenState), s.gens[k]? = some x → s'.gens[k]? = some x) → (AllBare s.gens → AllBare s'.gens) → G0 s'
 self : ∀ s (Q : Value → Shared → Prop) E, G0 s → Q (.ref J) s → wpAny M A (pyIter (.ref J)) Q E s
 first : ∀ (h0 : Heap) s Q E, G0 s → (ps = [] → ∀ s3, Mv [L] [g] s s3 → Q none s3) →
  (∀ p v s3 wr St, ps[0]? = some p → It M A J (J :: (wr ++ base)) wr [g] h0 ps St → St 1 s3 → Mv [L] [g] s s3 → (∀ b ∈ wr, b = L ∨ s.heap.get? b = none) → L ∈ wr →
   (∀ l, (∀ a ∈ l, (∃ o, s.heap.get? a = some o) ∨ a ∈ wr) → Rd (hideAll s3.heap l) v p) →
   (∀ t (Q' : Unit → Shared → Prop) E', Q' () s3 → wpAny M A (letOwnedTupleGo t (.ref J) v) Q' E' s3) → Q (some v) s3) → wpAny M A (pyNext (.ref J)) Q E s
theorem It.of_walks {prog : Program} {w : World} {A : Around} {I : Addr} {fp wr : List Addr} {n : Nat} {P : Nat → Value → Prop} {T : Nat → Heap → Prop} {h0 : Heap} {ps : List PyData} (W : Walks prog w A I fp wr n P T) (hn : ps.length = n)
  (hwr : ∀ b ∈ wr, h0.get? b = none) (there : ∀ i h, T i h → ∀ b ∈ fp, ∃ o, h.get? b = some o) (hP : ∀ i v p, P i v → ps[i]? = some p → Rd h0 v p)
  (hgo : ∀ i v p (s : Shared), P i v → ps[i]? = some p → T (i + 1) s.heap → ∀ t (Q' : Unit → Shared → Prop) E', Q' () s → wpAny (model prog w) A (letOwnedTupleGo t (.ref I) v) Q' E' s) :
  It (model prog w) A I fp wr [] h0 ps (fun i s => T i s.heap) where
 sub := W.sub
 there := fun i s st => there i _ st
 frame := fun i s s' st k _ _ => W.frame i _ _ st k
 item := fun i p s Q E hp st h => by
  have hi : i < n := hn ▸ (List.getElem?_eq_some_iff.mp hp).1
  refine W.item i s Q E hi st fun v h' tk hv st' k => h v _ st' (.heap k) (fun l kl hl => (hP i v p hv hp).keeps fun b o e => ?_) fun t Q' E' q => hgo i v p _ hv hp st' t Q' E' q
  have hb : b ∉ wr := fun z => by exact none_ ((hwr b z).symm.trans e)
  have e1 := kl b o e
  by_cases m : b ∈ l
  ·exact none_ ((hideAll_none l m).symm.trans e1)
  ·exact hideAll_get l (k b o hb (of_hideAll l e1)) m
 done := fun s Q E st h => W.done s Q E (hn ▸ st) fun h' tk k => h _ (.heap k)
 self := fun i s Q E st h => W.self i s Q E st h
section
variable {C : Cx} {A : Around} {σ : Sig} {ρ : List Own} {s : Shared} {E : Value → Shared → Prop} {k : Nat}
theorem go_cases {M : Model} {t : Expr} {it v : Value} {Q : Unit → Shared → Prop} (h0 : Q () s) (h1 : wpAny M A (letOwnedTupleGo (.List [] ⟨0, 0, 0, 0⟩) it v) Q E s) : wpAny M A (letOwnedTupleGo t it v) Q E s := by
 cases t <;> first | exact h1 | exact wpAny_pure h0
theorem go_noref {M : Model} {t : Expr} {I : Addr} {v : Value} {Q : Unit → Shared → Prop} (hv : ∀ a, v ≠ .ref a) (h : Q () s) : wpAny M A (letOwnedTupleGo t (.ref I) v) Q E s := by
 refine go_cases h ?_
 cases v <;> first | exact wpAny_pure h | exact absurd rfl (hv _)
theorem go_ref {M : Model} {t : Expr} {I : Addr} {v : Value} {Q : Unit → Shared → Prop} {o : Obj} {n : String} (ho : s.heap.get? I = some o) (hc : o.cls = .type n) (hn : (["enumerate", "zip", "dict_itemiterator", "dict_reverseitemiterator", "odict_iterator", "itertools.zip_longest", "itertools.pairwise"] : List String).contains n = false) (h : Q () s) :
  wpAny M A (letOwnedTupleGo t (.ref I) v) Q E s := by
 refine go_cases h ?_
 cases v <;> first | exact wpAny_pure h | skip
 refine wpAny_bind (wpAny_load ho ?_)
 rw [hc]
 cases o.data <;> first | exact wpAny_pure h | skip
 dsimp only
 rw [hn]
 exact wpAny_pure h
theorem iter_list {a : Addr} {vs : List Value} {ps : List PyData} {Q : Value → Shared → Prop} (hh : A.handled = none) (I : Inv C σ ρ s) (hl : s.heap.IsList a vs.toArray) (r : RdL (C.hh ρ s) vs ps)
  (h : ∀ J s' St, J = s.heap.objs.size → It C.M A J [J, a] [J] [] (C.hh ρ s) ps St → St 0 s' → Ext C.env.locals s s' → Q (.ref J) s') : wpAny C.M A (pyIter (.ref a)) Q E s := by
 have ha : a < s.heap.objs.size := let ⟨o, e, _⟩ := hl; Heap.lt_size e
 refine wpAny_pyIter_list hl (h _ _ _ rfl (.of_walks (Walks.list hh _ a (Nat.ne_of_lt ha) vs.toArray) (by rw [List.size_toArray, r.length]) (fun b hb => ?_) (fun i h' st b hb => ?_) (fun i v p hv hp => ?_) fun i v p s' hv hp st t Q' E' q => ?_) ⟨⟨_, Heap.get?_push_size _ rfl, rfl, rfl⟩, ?_⟩ (.heap' keeps_push))
 ·obtain rfl := List.mem_singleton.mp hb
  cases e : (C.hh ρ s).get? s.heap.objs.size with
  | none => rfl
  | some o => exact absurd (Heap.lt_size (of_hideAll _ e)) (Nat.lt_irrefl _)
 ·rcases List.mem_cons.mp hb with rfl | hb
  ·obtain ⟨o, e, _⟩ := st.1; exact ⟨o, e⟩
  ·obtain rfl := List.mem_singleton.mp hb; obtain ⟨o, e, _⟩ := st.2; exact ⟨o, e⟩
 ·obtain ⟨u, e, x⟩ := r.get i hp
  have : v = u := by
   have : vs.toArray[i]? = some v := hv
   rw [List.getElem?_toArray, e] at this; exact (Option.some.inj this).symm
  exact this ▸ x
 ·obtain ⟨o, e, c, d⟩ := st.1
  exact go_ref (n := "list_iterator") e c (by decide +kernel) q
 ·obtain ⟨o, e, z⟩ := hl; exact ⟨o, Heap.get?_push_of_some _ e, z⟩
theorem iter_tuple {a : Addr} {vs : List Value} {ps : List PyData} {Q : Value → Shared → Prop} (hh : A.handled = none) (I : Inv C σ ρ s) (hl : s.heap.IsTuple a vs.toArray) (r : RdL (C.hh ρ s) vs ps)
  (h : ∀ J s' St, J = s.heap.objs.size → It C.M A J [J, a] [J] [] (C.hh ρ s) ps St → St 0 s' → Ext C.env.locals s s' → Q (.ref J) s') : wpAny C.M A (pyIter (.ref a)) Q E s := by
 have ha : a < s.heap.objs.size := let ⟨o, e, _⟩ := hl; Heap.lt_size e
 refine wpAny_pyIter_tuple hl (h _ _ _ rfl (.of_walks (Walks.tuple hh _ a (Nat.ne_of_lt ha) vs.toArray) (by rw [List.size_toArray, r.length]) (fun b hb => ?_) (fun i h' st b hb => ?_) (fun i v p hv hp => ?_) fun i v p s' hv hp st t Q' E' q => ?_) ⟨⟨_, Heap.get?_push_size _ rfl, rfl, rfl⟩, ?_⟩ (.heap' keeps_push))
 ·obtain rfl := List.mem_singleton.mp hb
  cases e : (C.hh ρ s).get? s.heap.objs.size with
  | none => rfl
  | some o => exact absurd (Heap.lt_size (of_hideAll _ e)) (Nat.lt_irrefl _)
 ·rcases List.mem_cons.mp hb with rfl | hb
  ·obtain ⟨o, e, _⟩ := st.1; exact ⟨o, e⟩
  ·obtain rfl := List.mem_singleton.mp hb; obtain ⟨o, e, _⟩ := st.2; exact ⟨o, e⟩
 ·obtain ⟨u, e, x⟩ := r.get i hp
  have : v = u := by
   have : vs.toArray[i]? = some v := hv
   rw [List.getElem?_toArray, e] at this; exact (Option.some.inj this).symm
  exact this ▸ x
 ·obtain ⟨o, e, c, d⟩ := st.1
  exact go_ref (n := "tuple_iterator") e c (by decide +kernel) q
 ·obtain ⟨o, e, z⟩ := hl; exact ⟨o, Heap.get?_push_of_some _ e, z⟩
theorem iter_range {a : Addr} {x y : Int} {t u v : Tok} {Q : Value → Shared → Prop} (hh : A.handled = none) (I : Inv C σ ρ s) (hl : IsRange s.heap a x y 1 t u v) (hs : Builtin.Range.small x y 1 = true)
  (h : ∀ J s' St, J = s.heap.objs.size → It C.M A J [J] [J] [] (C.hh ρ s) (intsD (rangeL x y)) St → St 0 s' → Ext C.env.locals s s' → Q (.ref J) s') : wpAny C.M A (pyIter (.ref a)) Q E s := by
 refine wpAny_pyIter_range hl hs (h _ _ _ rfl (.of_walks (Walks.range hh _ x 1 (y - x).toNat).bound (by simp [intsD, rangeL]) (fun b hb => ?_) (fun i h' st b hb => ?_) (fun i v p hv hp => ?_) fun i v p s' hv hp st t Q' E' q => ?_) (by
   show IsRangeIter _ _ _ _ _
   rw [rangeSize_nat]; simpa using Heap.get?_push_size _ rfl) (.heap' keeps_push))
 ·obtain rfl := List.mem_singleton.mp hb
  cases e : (C.hh ρ s).get? s.heap.objs.size with
  | none => rfl
  | some o => exact absurd (Heap.lt_size (of_hideAll _ e)) (Nat.lt_irrefl _)
 ·obtain rfl := List.mem_singleton.mp hb
  exact ⟨_, st⟩
 ·obtain ⟨hi, t, rfl⟩ := hv
  have : p = .int (x + (i : Int)) := by
   simp only [intsD, rangeL, List.getElem?_map, List.getElem?_range hi, Option.map_some, Option.some.injEq] at hp
   exact hp.symm
  subst this
  have : x + (i : Int) * 1 = x + i := by lia
  exact this ▸ (.int _ _)
 ·obtain ⟨hi, t, rfl⟩ := hv
  exact go_noref (fun _ z => nomatch z) q
theorem iter_str {x : Str} {t : Tok} {Q : Value → Shared → Prop} (hh : A.handled = none) (I : Inv C σ ρ s)
  (h : ∀ J s' St, J = s.heap.objs.size → It C.M A J [J] [J] [] (C.hh ρ s) (charsD x) St → St 0 s' → Ext C.env.locals s s' → Q (.ref J) s') : wpAny C.M A (pyIter (.str x t)) Q E s := by
 have hwr : ∀ b ∈ [s.heap.objs.size], (C.hh ρ s).get? b = none := fun b hb => by
  obtain rfl := List.mem_singleton.mp hb
  cases e : (C.hh ρ s).get? s.heap.objs.size with
  | none => rfl
  | some o => exact absurd (Heap.lt_size (of_hideAll _ e)) (Nat.lt_irrefl _)
 have hlen : (charsD x).length = x.cps.size := by simp [charsD]
 have hP : ∀ i v p, SignAt x i v → (charsD x)[i]? = some p → Rd (C.hh ρ s) v p := fun i v p hv hp => by
  obtain ⟨c, u, e, rfl⟩ := hv
  have e' : x.cps.toList[i]? = some c := by simpa using e
  simp only [charsD, List.getElem?_map, e', Option.map_some, Option.some.injEq] at hp
  subst hp; exact .str _ _
 have hgo : ∀ i v, SignAt x i v → ∀ (s' : Shared) (J : Addr) t (Q' : Unit → Shared → Prop) E', Q' () s' → wpAny C.M A (letOwnedTupleGo t (.ref J) v) Q' E' s' := fun i v hv s' J t Q' E' q => by
  obtain ⟨c, u, e, rfl⟩ := hv
  exact go_noref (fun _ z => nomatch z) q
 cases ha : x.cps.all (· < 128)
 ·refine wpAny_pyIter_wide ha (h _ _ _ rfl (.of_walks (Walks.strWide hh _ x t) hlen hwr (fun i h' st b hb => ?_) hP fun i v p s' hv hp st t Q' E' q => hgo i v hv _ _ t Q' E' q) ⟨_, Heap.get?_push_size _ rfl, rfl, rfl⟩ (.heap' keeps_push))
  obtain rfl := List.mem_singleton.mp hb; obtain ⟨o, e, _⟩ := st; exact ⟨o, e⟩
 ·refine wpAny_pyIter_ascii ha (h _ _ _ rfl (.of_walks (Walks.strAscii hh _ x t) hlen hwr (fun i h' st b hb => ?_) hP fun i v p s' hv hp st t Q' E' q => hgo i v hv _ _ t Q' E' q) ⟨_, Heap.get?_push_size _ rfl, rfl, rfl⟩ (.heap' keeps_push))
  obtain rfl := List.mem_singleton.mp hb; obtain ⟨o, e, _⟩ := st; exact ⟨o, e⟩
theorem iter_sound {p : PyData} {ps : List PyData} {u : Value} {Q : Value → Shared → Prop} (e : itemsD p = some ps) (hh : A.handled = none) (I : Inv C σ ρ s) (r : RdO C ρ s u (.d p))
  (h : ∀ J fp s' St, It C.M A J fp [J] [] (C.hh ρ s) ps St → St 0 s' → Ext C.env.locals s s' → J = s.heap.objs.size → (∀ b ∈ fp, b = J ∨ u = .ref b) → Q (.ref J) s') : wpAny C.M A (pyIter u) Q E s := by
 cases p with
 | list l =>
  obtain rfl := sm_ e
  obtain ⟨a, vs, n, rfl, hl, q⟩ := r.list
  exact iter_list hh I hl.isList q fun J s' St hJ W st X => h J _ s' St W st X hJ fun b hb => (List.mem_cons.mp hb).imp_right fun hb => by rw [List.mem_singleton.mp hb]
 | tuple l =>
  obtain rfl := sm_ e
  obtain ⟨a, vs, n, rfl, hl, q⟩ := r.tuple
  exact iter_tuple hh I ⟨_, hl, rfl, n, rfl⟩ q fun J s' St hJ W st X => h J _ s' St W st X hJ fun b hb => (List.mem_cons.mp hb).imp_right fun hb => by rw [List.mem_singleton.mp hb]
 | str x =>
  refine ifE e fun hs e => ?_
  obtain rfl := sm_ e
  exact r.strE fun t => iter_str hh I fun J s' St hJ W st X => h J _ s' St W st X hJ fun b hb => .inl (List.mem_singleton.mp hb)
 | _ => exact none_ e
end
end
section
open PySem.Calls
noncomputable def Cx.own' (C : Cx) (ρ : List Own) : List Addr := addrs ρ ++ C.env.locals :: C.cs.map (·.2)
structure Step (C : Cx) (ρ ρ' : List Own) (s s' : Shared) : Prop where
 keep : ∀ b o, b ∉ C.own' ρ → s.heap.get? b = some o → s'.heap.get? b = some o
 sub : ∀ a ∈ addrs ρ', a ∈ addrs ρ ∨ s.heap.get? a = none
 live : ∀ b, s.heap.get? b ≠ none → s'.heap.get? b ≠ none
 os : s'.os = s.os
 gens : ∀ (k : Nat) (x : GenState), s.gens[k]? = some x → s'.gens[k]? = some x
 bare : AllBare s.gens → AllBare s'.gens
section
variable {C : Cx} {σ : Sig} {ρ ρ' ρ'' : List Own} {s s' s'' : Shared} {E : Value → Shared → Prop}
theorem Step.refl : Step C ρ ρ s s := ⟨fun _ _ _ e => e, fun a h => .inl h, fun _ h => h, rfl, fun _ _ e => e, id⟩
theorem Step.trans (x : Step C ρ ρ' s s') (y : Step C ρ' ρ'' s' s'') : Step C ρ ρ'' s s'' where
 keep := fun b o hb e => y.keep b o (fun m => by
  rcases List.mem_append.mp m with q | q
  ·rcases x.sub b q with r | r
   ·exact hb (List.mem_append_left _ r)
   ·exact none_ (r.symm.trans e)
  ·exact hb (List.mem_append_right _ q)) (x.keep b o hb e)
 sub := fun a ha => by
  rcases y.sub a ha with r | r
  ·exact x.sub a r
  ·right
   cases e : s.heap.get? a with
   | none => rfl
   | some o => exact absurd r (x.live a (e ▸ (fun z => nomatch z)))
 live := fun b h => y.live b (x.live b h)
 os := y.os.trans x.os
 gens := fun k z e => y.gens k z (x.gens k z e)
 bare := fun h => y.bare (x.bare h)
theorem Step.ext (I : Inv C σ ρ s) (x : Ext C.env.locals s s') : Step C ρ ρ s s' := by
 refine ⟨fun b o hb e => x.keep b o (fun q => hb (q ▸ (List.mem_append_right _ (.head _)))) e, fun a h => .inl h, fun b h => ?_, x.os, x.gens, x.bare⟩
 cases e : s.heap.get? b with
 | none => exact absurd e h
 | some o =>
  by_cases q : b = C.env.locals
  ·subst q
   obtain ⟨m, n⟩ := I.ns
   obtain ⟨o', _, _, e', _⟩ := x.ns m n
   exact e' ▸ (fun z => nomatch z)
  ·rw [x.keep b o q e]; exact fun z => nomatch z
theorem Step.hh (x : Step C ρ ρ' s s') : Keeps (C.hh ρ s) (C.hh ρ' s') := keeps_hide_sub fun b o m e => by
 have m1 : b ∉ addrs ρ := fun q => m (List.mem_append_left _ q)
 have m2 : b ∉ C.hide := fun q => m (List.mem_append_right _ q)
 have m3 : b ∉ C.env.locals :: C.cs.map (·.2) := fun q => m2 (by
  rcases List.mem_cons.mp q with q | q
  ·rw [q]; exact .head _
  ·exact .tail _ (List.mem_append_left _ q))
 refine ⟨fun q => ?_, x.keep b o (fun q => (List.mem_append.mp q).elim m1 m3) e⟩
 rcases List.mem_append.mp q with q | q
 ·rcases x.sub b q with r | r
  ·exact m1 r
  ·exact none_ (r.symm.trans e)
 ·exact m2 q
structure StOk (C : Cx) (ok : Str → Bool) (ρ : List Own) : Prop where
 fn : C.env.scope.kind = .function
 free : ∀ x, ok x = true → ρ.find? (·.name == x) = none
 kind : ∀ x, ok x = true → C.env.kindOf x = some .local ∨ (C.env.kindOf x = some .cell ∧ ∃ c, C.env.cells.lookup x = some c ∧ c ∈ C.cs.map (·.2) ∧ ∀ y, C.env.kindOf y = some .cell ∨ C.env.kindOf y = some .free → C.env.cells.lookup y = some c → y = x)
theorem Inv.own' (I : Inv C σ ρ s) : ∀ a ∈ C.own' ρ, ∃ o, s.heap.get? a = some o := fun a h => by
 rcases List.mem_append.mp h with q | q
 ·exact I.there a q
 ·rcases List.mem_cons.mp q with rfl | q
  ·obtain ⟨m, o, _, _, e, _⟩ := I.ns; exact ⟨o, e⟩
  ·obtain ⟨p, hp, rfl⟩ := List.mem_map.mp q
   obtain ⟨v, o, e, _⟩ := I.cells p hp; exact ⟨o, e⟩
theorem own_name {o : Own} {y : Str} (h : ρ.find? (·.name == y) = some o) : o.name = y := by
 have := List.find?_some h; simpa using this
theorem VarAt.stored {env : Env} {h h' : Heap} {m : Str → Option Value} {x y : Str} {u w : Value} (v : VarAt env h y u) (hn : h.Ns env.locals m) (hn' : h'.Ns env.locals (fun z => if z = x then some w else m z)) (keep : ∀ b o, b ≠ env.locals → h.get? b = some o → h'.get? b = some o) (q : y ≠ x) : VarAt env h' y u :=
 v.map (fun m' n' e' => by
  have : m' = m := by
   obtain ⟨o, es, ep, e1, d, _, f⟩ := hn
   obtain ⟨o', es', ep', e1', d', _, f'⟩ := n'
   obtain rfl := sm_ (e1.symm.trans e1')
   rw [d] at d'; cases d'
   funext x; rw [← f, ← f']
  exact ⟨_, hn', (if_neg q).trans (this ▸ e')⟩) fun _ c n e => let ⟨o, e1, d⟩ := e; ⟨o, keep _ _ (fun q => not_cell_ns e (q ▸ hn)) e1, d⟩
theorem Inv.put_local' {m : Str → Option Value} {u : Value} {v : X} {x : Str} {s' : Shared} (I : Inv C σ ρ s) (hk : C.env.kindOf x = some .local) (hf : ρ.find? (·.name == x) = none) (r : RdX C.G (C.hh ρ s') u v)
  (hn : s.heap.Ns C.env.locals m) (hn' : s'.heap.Ns C.env.locals (fun y => if y = x then some u else m y)) (keep : ∀ b o, b ≠ C.env.locals → s.heap.get? b = some o → s'.heap.get? b = some o)
  (hos : s'.os = s.os) (hgens : ∀ (k : Nat) (x : GenState), s.gens[k]? = some x → s'.gens[k]? = some x) (hbare : AllBare s.gens → AllBare s'.gens) :
  Inv C (put σ x v) ρ s' ∧ Step C ρ ρ s s' := by
 have notL : ∀ a ∈ addrs ρ ++ C.cs.map (·.2), a ≠ C.env.locals := I.notL
 have kh : Keeps (C.hh ρ s) (C.hh ρ s') := keeps_hide fun b o m e => keep b o (fun q => m (q ▸ (List.mem_append_right _ (.head _)))) e
 have cellk : ∀ c w, s.heap.IsCell c w → s'.heap.IsCell c w := fun c w e => by
  have : c ≠ C.env.locals := fun q => not_cell_ns e (q ▸ hn)
  obtain ⟨o, e, d⟩ := e; exact ⟨o, keep _ _ this e, d⟩
 have live : ∀ b, (∃ o, s.heap.get? b = some o) → ∃ o, s'.heap.get? b = some o := fun b ⟨o, e⟩ => by
  by_cases q : b = C.env.locals
  ·subst q; obtain ⟨o', _, _, e', _⟩ := hn'; exact ⟨o', e'⟩
  ·exact ⟨o, keep b o q e⟩
 constructor
 ·refine ⟨I.gd, ⟨_, hn'⟩, fun b o e => keep b o (fun q => ?_) (I.keep b o e), fun y w e => ?_, fun o ho => ?_, fun p hp => ?_, I.nodup, I.names, I.new, fun a ha => ⟨live a (I.old a ha).1, (I.old a ha).2⟩, fun a ha => live a (I.there a ha), hbare I.bare, fun y c e => live c (I.cl y c e)⟩
  ·have := I.new C.env.locals (List.mem_append_right _ (.head _))
   rw [← q, e] at this; cases this
  ·unfold put at e
   split at e
   ·rename_i q; subst q; obtain rfl := sm_ e
    refine ⟨u, ?_, ?_⟩
    ·delta VarAt; exact hk ▸ (⟨_, hn', by simp⟩)
    ·exact hf ▸ r
   ·rename_i q
    obtain ⟨u', h1, h2⟩ := I.vars y w e
    refine ⟨u', ?_, ?_⟩
    ·exact h1.stored hn hn' keep q
    ·exact h2.at' (fun o ho a ha b eb => keep a b (notL a (List.mem_append_left _ (mem_addrs (find_mem ho) a ha))) eb) kh
  ·obtain ⟨w, e⟩ := I.owns o ho
   delta put
   by_cases q : o.name = x
   ·exact ⟨v, by rw [if_pos q]⟩
   ·exact ⟨w, by rw [if_neg q]; exact e⟩
  ·obtain ⟨w, e⟩ := I.cells p hp
   exact ⟨w, cellk _ _ e⟩
 ·refine ⟨fun b o hb e => keep b o (fun q => hb (q ▸ (List.mem_append_right _ (.head _)))) e, fun a h => .inl h, fun b h => ?_, hos, hgens, hbare⟩
  cases e : s.heap.get? b with
  | none => exact absurd e h
  | some o =>
   obtain ⟨o', e'⟩ := live b ⟨o, e⟩
   rw [e']; exact fun z => nomatch z
theorem Inv.put_local {m : Str → Option Value} {u : Value} {v : X} {x : Str} {h' : Heap} {t : Nat} (I : Inv C σ ρ s) (hk : C.env.kindOf x = some .local) (hf : ρ.find? (·.name == x) = none) (r : RdX C.G (C.hh ρ s) u v)
  (hn : s.heap.Ns C.env.locals m) (hn' : h'.Ns C.env.locals (fun y => if y = x then some u else m y)) (hs : Heap.SameBut C.env.locals s.heap h') :
  Inv C (put σ x v) ρ { s with heap := h', toks := t } ∧ Step C ρ ρ s { s with heap := h', toks := t } :=
 I.put_local' hk hf (r.keeps (keeps_hide fun b o m e => hs.extBut b o (fun q => m (q ▸ (List.mem_append_right _ (.head _)))) e)) hn hn' (fun b o q e => hs.extBut b o q e) rfl (fun _ _ e => e) id
theorem Inv.put_cell {u : Value} {v : X} {x : Str} {h' : Heap} {c : Addr} (I : Inv C σ ρ s) (hk : C.env.kindOf x = some .cell) (hc : C.env.cells.lookup x = some c) (hm : c ∈ C.cs.map (·.2))
  (inj : ∀ y, C.env.kindOf y = some .cell ∨ C.env.kindOf y = some .free → C.env.cells.lookup y = some c → y = x) (hf : ρ.find? (·.name == x) = none) (r : RdX C.G (C.hh ρ s) u v)
  (hn' : h'.IsCell c (some u)) (hs : Heap.SameBut c s.heap h') :
  Inv C (put σ x v) ρ { s with heap := h' } ∧ Step C ρ ρ s { s with heap := h' } := by
 have keep : ∀ b o, b ≠ c → s.heap.get? b = some o → h'.get? b = some o := fun b o q e => hs.extBut b o q e
 have hLc : C.env.locals ≠ c := fun q => I.notL c (List.mem_append_right _ hm) q.symm
 have hown : c ∈ C.own' ρ := List.mem_append_right _ (.tail _ hm)
 have hin : c ∈ addrs ρ ++ C.hide := List.mem_append_right _ (.tail _ (List.mem_append_left _ hm))
 have addrsNe : ∀ a ∈ addrs ρ, a ≠ c := fun a ha q => by
  have n := I.nodup
  rw [List.nodup_append] at n
  exact n.2.2 a ha c (.tail _ hm) q
 have kh : Keeps (C.hh ρ s) (C.hh ρ { s with heap := h' }) := keeps_hide fun b o m e => keep b o (fun q => m (q ▸ hin)) e
 constructor
 ·refine ⟨I.gd, ?_, fun b o e => keep b o (fun q => ?_) (I.keep b o e), fun y w e => ?_, fun o ho => ?_, fun p hp => ?_, I.nodup, I.names, I.new, fun a ha => ?_, fun a ha => ?_, I.bare, fun y d e => ?_⟩
  ·obtain ⟨m, n⟩ := I.ns; exact ⟨m, n.sameBut hs hLc⟩
  ·have := I.new c hown
   rw [← q, e] at this; cases this
  ·unfold put at e
   split at e
   ·rename_i q; subst q; obtain rfl := sm_ e
    refine ⟨u, ?_, ?_⟩
    ·delta VarAt; exact hk ▸ (⟨_, hc, hn'⟩)
    ·exact hf ▸ (r.keeps kh)
   ·rename_i q
    obtain ⟨u', h1, h2⟩ := I.vars y w e
    refine ⟨u', ?_, ?_⟩
    ·have cellk : (C.env.kindOf y = some .cell ∨ C.env.kindOf y = some .free) → ∀ d, C.env.cells.lookup y = some d → s.heap.IsCell d (some u') → h'.IsCell d (some u') := fun hy d hd e => by
      obtain ⟨o, e, z⟩ := e
      exact ⟨o, keep _ _ (fun q' => q (inj y hy (hd ▸ q' ▸ rfl))) e, z⟩
     exact h1.map (fun m' n' e' => ⟨m', n'.sameBut hs hLc, e'⟩) cellk
    ·exact h2.at' (fun o ho a ha b eb => keep a b (addrsNe a (mem_addrs (find_mem ho) a ha)) eb) kh
  ·obtain ⟨w, e⟩ := I.owns o ho
   delta put
   by_cases q : o.name = x
   ·exact ⟨v, (if_pos q) ▸ rfl⟩
   ·exact ⟨w, by rw [if_neg q]; exact e⟩
  ·obtain ⟨w, o, e, d⟩ := I.cells p hp
   by_cases q : p.2 = c
   ·exact ⟨_, q ▸ hn'⟩
   ·exact ⟨w, o, keep _ _ q e, d⟩
  ·obtain ⟨⟨o, e⟩, d⟩ := I.old a ha
   exact ⟨⟨o, keep _ _ (fun q => d (q ▸ hown)) e⟩, d⟩
  ·obtain ⟨o, e⟩ := I.there a ha; exact ⟨o, keep _ _ (addrsNe a ha) e⟩
  ·obtain ⟨o, e'⟩ := I.cl y d e
   by_cases q : d = c
   ·subst q; obtain ⟨o', e2, _⟩ := hn'; exact ⟨o', e2⟩
   ·exact ⟨o, keep _ _ q e'⟩
 ·refine ⟨fun b o hb e => keep b o (fun q => hb (q ▸ hown)) e, fun a h => .inl h, fun b h => ?_, rfl, fun _ _ e => e, id⟩
  cases e : s.heap.get? b with
  | none => exact absurd e h
  | some o =>
   by_cases q : b = c
   ·subst q
    obtain ⟨o', e', _⟩ := hn'
    show h'.get? _ ≠ none
    exact e' ▸ (fun z => nomatch z)
   ·show h'.get? _ ≠ none
    exact (keep b o q e) ▸ (fun z => nomatch z)
theorem store_sound {ok : Str → Bool} {u : Value} {v : X} {x : Str} {Q : Unit → Shared → Prop} (K : StOk C ok ρ) (hx : ok x = true) (I : Inv C σ ρ s) (r : RdX C.G (C.hh ρ s) u v)
  (h : ∀ s', Inv C (put σ x v) ρ s' → Step C ρ ρ s s' → Q () s') : wpAny C.M C.A (storeName C.env x u) Q E s := by
 obtain ⟨m, n⟩ := I.ns
 rcases K.kind x hx with hk | ⟨hk, c, hc, hm, inj⟩
 ·refine wpAny_storeName_local hk n (fun h' n' hs => ?_) (K.fn ▸ rfl)
  obtain ⟨I', S'⟩ := I.put_local (t := s.toks + 1) hk (K.free x hx) r n n' hs
  exact h _ I' S'
 ·obtain ⟨p, hp, e⟩ := List.mem_map.mp hm
  obtain ⟨w, iw⟩ := I.cells p hp
  rw [e] at iw
  refine wpAny_storeName_cell K.fn hk hc iw fun h' n' hs => ?_
  obtain ⟨I', S'⟩ := I.put_cell hk hc hm inj (K.free x hx) r n' hs
  exact h _ I' S'
theorem putD_elim {ok : Str → Bool} {P : Sig → List Expr → List PyData → Sig → Prop} (nil : ∀ σ, P σ [] [] σ) (cons : ∀ σ x q ts p l τ, ok x = true → putD ok (put σ x (.d p)) ts l = some τ → P (put σ x (.d p)) ts l τ → P σ (.Name x q :: ts) (p :: l) τ) {ts : List Expr} : ∀ {σ : Sig} {l : List PyData} {τ : Sig}, putD ok σ ts l = some τ → P σ ts l τ := by
 induction ts with
 | nil => exact fun {σ l τ} e => ifE e fun h e => by rw [nil_ h, ← sm_ e]; exact nil σ
 | cons t ts ih =>
  intro σ l τ e
  cases l with
  | nil => exact none_ e
  | cons p l =>
   refine bndE e fun x h1 e1 => ifE e1 fun h2 e2 => ?_
   obtain ⟨q, rfl⟩ := nameV_ h1
   exact cons σ x q ts p l τ h2 e2 (ih e2)
theorem bindE {ok : Str → Bool} {tgt : Expr} {σ τ : Sig} {p : PyData} {P : Expr → PyData → Sig → Prop} (e : bindTD ok tgt σ p = some τ) (k1 : ∀ x q, ok x = true → P (.Name x q) p (put σ x (.d p))) (k2 : ∀ ts k q l, putD ok σ ts l = some τ → P (.Tuple ts k q) (.tuple l) τ) : P tgt p τ := by
 delta bindTD at e
 cases h : nameV tgt with
 | some x =>
  rw [h] at e
  obtain ⟨q, rfl⟩ := nameV_ h
  exact ifE e fun h1 e => sm_ e ▸ k1 x q h1
 | none =>
  rw [h] at e
  refine bndE e fun ts h1 e1 => bndE e1 fun l h2 e2 => ?_
  obtain ⟨k, q, rfl⟩ := tupE_ h1
  rw [tupV_ h2]
  exact k2 ts k q l e2
theorem assignEach_names {ok : Str → Bool} {env : Env} {ts : List Expr} {σ σ' : Sig} {l : List PyData} (e : putD ok σ ts l = some σ') : (assignEach ts env).findIdx? (·.1) = none ∧ (assignEach ts env).length = l.length :=
 putD_elim (P := fun _ ts l _ => (assignEach ts env).findIdx? (·.1) = none ∧ (assignEach ts env).length = l.length) (fun _ => ⟨rfl, rfl⟩) (fun _ _ _ ts _ _ _ _ _ ih => ⟨by
  show List.findIdx? _ ((false, _) :: assignEach ts env) = none
  rw [List.findIdx?_cons, ih.1]; rfl, by
  show (_ :: assignEach ts env).length = _
  rw [List.length_cons, ih.2, List.length_cons]⟩) e
noncomputable abbrev PS_ (C : Cx) (ρ : List Own) (s : Shared) (σ : Sig) (Q : Unit → Shared → Prop) : Prop := ∀ s', Inv C σ ρ s' → Step C ρ ρ s s' → Q () s'
theorem putD_sound {ok : Str → Bool} (K : StOk C ok ρ) {ts : List Expr} {σ σ' : Sig} {l : List PyData} (e : putD ok σ ts l = some σ') : ∀ {us : List Value} {s : Shared} {Q : Unit → Shared → Prop}, Inv C σ ρ s → RdL (C.hh ρ s) us l → PS_ C ρ s σ' Q → wpAny C.M C.A (assignInOrder ((assignEach ts C.env).map (·.2)) us) Q E s :=
 putD_elim (P := fun σ ts l σ' => ∀ {us : List Value} {s : Shared} {Q : Unit → Shared → Prop}, Inv C σ ρ s → RdL (C.hh ρ s) us l → PS_ C ρ s σ' Q → wpAny C.M C.A (assignInOrder ((assignEach ts C.env).map (·.2)) us) Q E s)
  (fun σ {us s Q} I r h => assignInOrder_nil (h _ I .refl)) (fun σ x q ts p l τ hx e ih {us s Q} I r h => by
   cases r with
   | cons r1 r2 => exact assignInOrder_cons (wpAny_assign_Name (store_sound (v := .d p) K hx I r1 fun s1 I1 S1 => ih I1 (r2.keeps S1.hh) fun s2 I2 S2 => h s2 I2 (S1.trans S2)))) e
theorem bind_sound {ok : Str → Bool} {tgt : Expr} {σ' : Sig} {p : PyData} {u : Value} {Q : Unit → Shared → Prop} (K : StOk C ok ρ) (hh : C.A.handled = none) (e : bindTD ok tgt σ p = some σ') (I : Inv C σ ρ s) (r : Rd (C.hh ρ s) u p)
  (h : PS_ C ρ s σ' Q) : wpAny C.M C.A (assign tgt C.env u) Q E s :=
 bindE (P := fun tgt p σ' => Rd (C.hh ρ s) u p → PS_ C ρ s σ' Q → wpAny C.M C.A (assign tgt C.env u) Q E s) e
  (fun x q hx r h => wpAny_assign_Name (store_sound (v := .d p) K hx I r h)) (fun ts k q l e r h => by
   obtain ⟨a, vs, n, rfl, hl, q⟩ := r.tuple_
   obtain ⟨h1, h2⟩ := assignEach_names (env := C.env) e
   refine wpAny_assign_Tuple hh ⟨_, keeps_hide_of _ _ hl, rfl, n, rfl⟩ (by rw [h2, List.size_toArray, q.length]) h1 fun h' hx => ?_
   have X : Ext C.env.locals s { s with heap := h' } := .heap' fun b o e => hx b o (Nat.ne_of_lt (Heap.lt_size e)) e
   exact putD_sound K e (I.ext X) (rdl_ext q X) fun s' I' S' => h s' I' ((Step.ext I X).trans S')) r h
end
end
section
open PySem.Calls
theorem cut_min {α : Type} (l : List α) (A B : Nat) : (l.drop (min A l.length)).take (min B l.length - min A l.length) = (l.drop A).take (B - A) := by
 rcases Nat.le_total A l.length with h | h
 ·rw [Nat.min_eq_left h]
  rcases Nat.le_total B l.length with g | g
  ·rw [Nat.min_eq_left g]
  ·rw [Nat.min_eq_right g, List.take_of_length_le (by simp), List.take_of_length_le (by simp; exact leB ‹_›)]
 ·rw [Nat.min_eq_right h, List.drop_of_length_le (Nat.le_refl _), List.drop_of_length_le h]; simp
theorem cut_is {α : Type} (l : List α) (a b : Option Nat) : cutL l a b = (l.drop (min (a.getD 0) l.length)).take (min (b.getD l.length) l.length - min (a.getD 0) l.length) := (cut_min l _ _).symm
noncomputable def optI : Option Nat → Option Int
 | none => none
 | some k => some (k : Int)
theorem pick_cut (vs : List Value) (a b : Option Nat) : slicePick vs.toArray (optI a) (optI b) none = (cutL vs a b).toArray := by
 rw [slicePick_plain, cut_is]
 have e1 : (optI a).elim 0 (clipAt vs.toArray.size) = min (a.getD 0) vs.length := by
  cases a with
  | none => simp [optI]
  | some k => simp [optI, clipAt_nat]
 have e2 : (optI b).elim vs.toArray.size (clipAt vs.toArray.size) = min (b.getD vs.length) vs.length := by
  cases b with
  | none => simp [optI]
  | some k => simp [optI, clipAt_nat]
 rw [e1, e2]
theorem cut_rd {h : Heap} {vs : List Value} {l : List PyData} (r : RdL h vs l) (a b : Option Nat) : RdL h (cutL vs a b) (cutL l a b) := by
 delta cutL; exact r.length ▸ ((r.drop _).take _)
theorem nat_max_min (x n : Nat) : max (0 : Int) (min (x : Int) (n : Int)) = ((min x n : Nat) : Int) := by exact mxI
open Builtin Builtin.Str in
theorem idx_of (A B n : Nat) : strSliceIndices (some (A : Int)) (some (B : Int)) 1 n = (List.range (min B n - min A n)).map fun k => min A n + k := by
 have z1 : ∀ x : Nat, ¬ ((x : Int) < 0) := fun x => Int.not_lt.mpr (Int.natCast_nonneg x)
 have e : strSliceIndices (some (A : Int)) (some (B : Int)) 1 n = strSliceIndices (some ((min A n : Nat) : Int)) (some ((min B n : Nat) : Int)) 1 n := by
  simp only [strSliceIndices, z1, if_false, show ((1 : Int) > 0) = True from by simp, if_true, nat_max_min, Nat.min_assoc, Nat.min_self]
 rw [e]
 rcases Nat.le_total (min A n) (min B n) with h | h
 ·exact StrLaws.strSliceIndices_plain h (Nat.min_le_right _ _)
 ·rw [Nat.sub_eq_zero_of_le h]
  simp only [strSliceIndices, z1, if_false, show ((1 : Int) > 0) = True from by simp, if_true, nat_max_min, Nat.min_assoc, Nat.min_self, sliceRange]
  rw [if_neg (by lia)]; simp
open Builtin Builtin.Str in
theorem idx_is (a b : Option Nat) (n : Nat) : strSliceIndices (optI a) (optI b) 1 n = (List.range (min (b.getD n) n - min (a.getD 0) n)).map fun k => min (a.getD 0) n + k := by
 have h1 : strSliceIndices (optI a) (optI b) 1 n = strSliceIndices (some ((a.getD 0 : Nat) : Int)) (some ((b.getD n : Nat) : Int)) 1 n := by
  cases a <;> cases b <;> simp only [optI, Option.getD_none, Option.getD_some]
  ·rw [StrLaws.sliceIdx_none_lo, StrLaws.sliceIdx_none_hi]; rfl
  ·rw [StrLaws.sliceIdx_none_lo]; rfl
  ·rw [StrLaws.sliceIdx_none_hi]
 rw [h1, idx_of]
noncomputable def OptIs (v : Value) (a : Option Nat) : Prop := (v = .none ∧ a = none) ∨ ∃ (k : Nat) (t : Tok), v = .int k t ∧ a = some k
theorem OptIs.part {v : Value} {a : Option Nat} (h : OptIs v a) : IsPart v (optI a) := by
 rcases h with ⟨rfl, rfl⟩ | ⟨k, t, rfl, rfl⟩
 ·exact .none
 ·exact .int _ _
theorem OptIs.opt {v : Value} {a : Option Nat} (h : OptIs v a) : ∃ o : Option (Int × Tok), v = partValue o ∧ o.map (·.1) = optI a := by
 rcases h with ⟨rfl, rfl⟩ | ⟨k, t, rfl, rfl⟩
 ·exact ⟨none, rfl, rfl⟩
 ·exact ⟨some (k, t), rfl, rfl⟩
section
variable {C : Cx} {σ : Sig} {ρ : List Own} {s : Shared} {E : Value → Shared → Prop} {k : Nat}
theorem min_all {n A B : Nat} (h1 : B ≤ n) (h2 : A ≤ n) (h : B - A = n) : A = 0 := by lia
theorem str_pick (l : Array Nat) (a b : Option Nat) : ((Builtin.Str.strSliceIndices (optI a) (optI b) 1 l.size).filterMap (l[·]?)) = cutL l.toList a b := by
 have hx : l.size = l.toList.length := rfl
 rw [idx_is, cut_is, hx]
 generalize min (a.getD 0) l.toList.length = A
 generalize hB : min (b.getD l.toList.length) l.toList.length = B
 have hle : B ≤ l.toList.length := hB ▸ Nat.min_le_right _ _
 rcases Nat.le_total A B with g | g
 ·have := StrLaws.picks l.toList (B - A) A (by lia)
  simpa using this
 ·rw [Nat.sub_eq_zero_of_le g]; simp
theorem str_all {l : List Nat} {a b : Option Nat} (h : ((Builtin.Str.strSliceIndices (optI a) (optI b) 1 l.length).length == l.length) = true) : cutL l a b = l := by
 rw [idx_is, List.length_map, List.length_range] at h
 have h := eq_of_beq h
 rw [cut_is, h, min_all (Nat.min_le_right _ _) (Nat.min_le_right _ _) h, List.drop_zero, List.take_length]
theorem slicestr_sound {x : Str} {a b : Option Nat} {va vb : Value} {sl : Addr} {t : Tok} {Q : Value → Shared → Prop} (hn : x.length ≤ 1048576) (hs : s.heap.get? sl = some { cls := .type "slice", data := .fields #[va, vb, .none] })
  (ha : OptIs va a) (hb : OptIs vb b) (h : PR C ρ s (.str ⟨(cutL x.cps.toList a b).toArray⟩) Q) : wpAny C.M C.A (getItem (.str x t) (.ref sl)) Q E s := by
 obtain ⟨oa, rfl, ea⟩ := ha.opt
 obtain ⟨ob, rfl, eb⟩ := hb.opt
 refine wpAny_getItem_str_slice (l := oa) (u := ob) (st := none) ⟨_, hs, rfl, rfl⟩ rfl ?_
 delta sliceMade slicePicked
 rw [ea, eb]
 show Made.post (if ((1 : Int) == 1 && (Builtin.Str.strSliceIndices (optI a) (optI b) 1 x.length).length == x.length) = true then _ else _) Q s
 split
 ·rename_i hc
  have : (⟨(cutL x.cps.toList a b).toArray⟩ : Str) = x := by rw [str_all (and2 hc).2]
  rw [this] at h
  exact h (.str x t) s .refl (.str _ _)
 ·have pk := congrArg List.toArray (str_pick x.cps a b)
  refine ⟨?_, ?_⟩
  ·show (List.filterMap (fun i => x.cps[i]?) (Builtin.Str.strSliceIndices (optI a) (optI b) 1 x.cps.size)).toArray.size ≤ _
   rw [pk, List.size_toArray, cut_is, sizeLine_is]
   refine Nat.le_trans (List.length_take_le' ..) (Nat.le_trans (List.length_drop .. ▸ Nat.sub_le ..) (Nat.le_trans hn (by decide)))
  ·show Q (.str ⟨(List.filterMap (fun i => x.cps[i]?) (Builtin.Str.strSliceIndices (optI a) (optI b) 1 x.cps.size)).toArray⟩ _) _
   exact pk ▸ (h _ _ .toks (.str _ _))
theorem slice_sound {p r : PyData} {a b : Option Nat} {u va vb : Value} {sl : Addr} {Q : Value → Shared → Prop} (e : sliceD p a b = some r) (I : Inv C σ ρ s) (ru : RdO C ρ s u (.d p)) (hs : s.heap.get? sl = some { cls := .type "slice", data := .fields #[va, vb, .none] })
  (ha : OptIs va a) (hb : OptIs vb b) (h : PR C ρ s r Q) : Sub_ s u ∧ wpAny C.M C.A (getItem u (.ref sl)) Q E s := by
 cases p with
 | list l =>
  refine ifE e fun hn e => ru.listE fun c vs n hl q => ?_
  refine ⟨⟨_, _, hl.isList.typeIs, slot_list_getitem.lookup⟩, wpAny_getItem_list_slice hl.isList ⟨_, hs, rfl, rfl⟩ ha.part hb.part .none (fun z => nomatch z) (h.of e _ _ (.heap' keeps_push) ?_) (by rw [List.size_toArray, q.length, sizeLine_is]; exact Nat.le_trans (short_le hn) (by decide))⟩
  refine seen_list (vs := cutL vs a b) (n := 0) I (Nat.le_refl _) ?_ (cut_rd (rdl_ext q (.heap' keeps_push)) a b)
  rw [pick_cut]; exact Heap.get?_push_size _ rfl
 | str x => exact ifE e fun hn e => ru.strE fun t => ⟨⟨_, _, typeIs_str _ _ _, F.slot_str_getitem.lookup⟩, slicestr_sound (short_le hn) hs ha hb (h.of e)⟩
 | _ => exact none_ e
end
end
section
open PySem.Calls
inductive RdXs (G : Gl) (h : Heap) : List Value → List X → Prop
 | nil : RdXs G h [] []
 | cons {u : Value} {us : List Value} {p : X} {ps : List X} : RdX G h u p → RdXs G h us ps → RdXs G h (u :: us) (p :: ps)
theorem RdXs.keeps {G : Gl} {h h' : Heap} (k : Keeps h h') {us : List Value} {ps : List X} (r : RdXs G h us ps) : RdXs G h' us ps := by
 induction r with
 | nil => exact .nil
 | cons a _ ih => exact .cons (a.keeps k) ih
@[elab_as_elim] theorem RdXs.oneE {G : Gl} {h : Heap} {us : List Value} {p : X} {P : List Value → Prop} (r : RdXs G h us [p]) (k : ∀ u, RdX G h u p → P [u]) : P us := by
 cases r with
 | cons a b => cases b; exact k _ a
structure Full (s s' : Shared) : Prop where
 keep : Keeps s.heap s'.heap
 os : s'.os = s.os
 gens : ∀ (k : Nat) (x : GenState), s.gens[k]? = some x → s'.gens[k]? = some x
 bare : AllBare s.gens → AllBare s'.gens
theorem Full.ext {s s' : Shared} {L : Addr} (x : Full s s') : Ext L s s' := ⟨fun b o _ e => x.keep b o e, fun m n => n.keeps x.keep, x.os, x.gens, x.bare⟩
theorem Full.refl {s : Shared} : Full s s := ⟨fun _ _ e => e, rfl, fun _ _ e => e, id⟩
theorem Full.trans {a b c : Shared} (x : Full a b) (y : Full b c) : Full a c := ⟨fun p o e => y.keep p o (x.keep p o e), y.os.trans x.os, fun k z e => y.gens k z (x.gens k z e), fun h => y.bare (x.bare h)⟩
noncomputable def FnSpec (G : Gl) (n : Nat) (f : Value) (F : List X → Option X) : Prop := ∀ (A : Around) (H : List Addr) (s : Shared) (us : List Value) (l : List X) (v : X) (Q E : Value → Shared → Prop),
 F l = some v → Lv A n → Gd G s.heap → AllBare s.gens → (∀ a ∈ H, ∃ o, s.heap.get? a = some o) → RdXs G (hideAll s.heap H) us l →
 (∀ u s', Full s s' → RdX G (hideAll s'.heap H) u v → Q u s') → wpAny (model G.prog G.w) A (call f us []) Q E s
noncomputable def GenL (G : Gl) (n : Nat) (a : Addr) (p : PyData) (l : List PyData) : Prop := ∀ (A : Around) (H : List Addr) (s : Shared) (u : Value) (Q E : Value → Shared → Prop), Lv A n → Gd G s.heap → AllBare s.gens → (∀ a ∈ H, ∃ o, s.heap.get? a = some o) → Rd (hideAll s.heap H) u p →
 (∀ u' s', Full s s' → Rd (hideAll s'.heap H) u' (.list l) → Q u' s') → wpAny (model G.prog G.w) A (call (.ref a) [u] []) (fun g s1 => wpAny (model G.prog G.w) A (call (.type "list") [g] []) Q E s1) E s
noncomputable def GenF (G : Gl) (n : Nat) (a : Addr) (p : PyData) (l : List PyData) : Prop := ∀ (A : Around) (s : Shared) (u : Value) (h : Heap) (Q E : Value → Shared → Prop), Lv A n → Gd G s.heap → AllBare s.gens → Keeps h s.heap → Rd h u p →
 (∀ J L gi s' G0, Full s s' → It0 (model G.prog G.w) A J L gi G.base l G0 → G0 s' → s.heap.get? J = none → s.heap.get? L = none → s.gens[gi]? = none → Q (.ref J) s') → wpAny (model G.prog G.w) A (call (.ref a) [u] []) Q E s
noncomputable def PatOk (G : Gl) (P : Addr) (r x y : Str) : Prop := ∃ ty id : String, PlainAttrs ty ∧ Slot ty "sub" id ∧ typeOf (.builtin id) = pure (.type "method_descriptor") ∧
 ∀ (A : Around) (s : Shared), Gd G s.heap → s.TypeIs (.ref P) ty ∧ (∃ ob, s.heap.get? P = some ob ∧ ob.dict = none) ∧
  ∀ (u t : Tok) (Q E : Value → Shared → Prop), (∀ s' t', Full s s' → Q (.str y t') s') → wpAny (model G.prog G.w) A (call (.builtin id) [.ref P, .str r u, .str x t] []) Q E s
structure TabOk (G : Gl) (T : Tab) (n : Nat) : Prop where
 const : ∀ x p, T.const x = some p → ∃ y t, p = .str y ∧ G.mg x = some (.str y t)
 cat : ∀ c a p, T.cat c a = some p → ∃ y, p = .str y ∧ G.mg c = some (.ref G.ws) ∧ ∀ (A : Around) (s : Shared) (Q E : Value → Shared → Prop), Gd G s.heap → (∀ t k, Q (.str y t) { s with toks := k }) → wpAny (model G.prog G.w) A (getAttr (.ref G.ws) a true) Q E s
 bi : ∀ f v, bval f = some v → G.mg f = none ∧ G.mb f = some v
 fn : ∀ f l v, T.fn f l = some v → ∃ a, G.mg f = some (.ref a) ∧ keepIn G.K (.ref a) = true ∧ FnSpec G n (.ref a) (T.fn f)
 mt : ∀ m x l v, T.mt m (x :: l) = some v → ∃ a, keepIn G.K (.ref a) = true ∧ FnSpec G n (.ref a) (T.mt m) ∧
  ∀ (A : Around) (s : Shared) (pl : Sem Bool) (ov : Value) (h : Heap) (raw : Str) (i nt : Int) (cnt : List Int) (tr : Int) (sm : Bool) (Q : Value × List Value → Shared → Prop) (E : Value → Shared → Prop), Gd G s.heap → Keeps h s.heap → WsAt G h ov raw i nt cnt tr sm →
   Q (.ref a, [ov]) s → wpAny (model G.prog G.w) A (getMethod ov m pl) Q E s
 attr : ∀ (A : Around) (s : Shared) (ov : Value) (h : Heap) (raw : Str) (i nt : Int) (cnt : List Int) (tr : Int) (sm : Bool) (a : Str) (p : PyData) (Q E : Value → Shared → Prop), Gd G s.heap → Keeps h s.heap → WsAt G h ov raw i nt cnt tr sm → attrX (.w raw i nt cnt tr sm) a = some p →
  (∀ u k, Rd h u p → Q u { s with toks := k }) → wpAny (model G.prog G.w) A (getAttr ov a true) Q E s
 gen : ∀ g p l, T.gen g p = some l → ∃ a, G.mg g = some (.ref a) ∧ keepIn G.K (.ref a) = true ∧ GenL G n a p l ∧ GenF G n a p l
 pat : ∀ g r x y, T.pat g r x = some y → ∃ P : Addr, G.mg g = some (.ref P) ∧ PatOk G P r x y
structure FxOk (F : Fx) (C : Cx) (ρ : List Own) (n : Nat) : Prop where
 T : TabOk C.G F.T n
 kd : ∀ x, F.kd x = C.env.kindOf x
 own : ∀ o ∈ ρ, match o.two with
  | false => F.own.contains o.name = true ∧ F.own2.contains o.name = false
  | true => F.own.contains o.name = false ∧ F.own2.contains o.name = true
 cx : CxOk C n
 cell : ∀ x, F.kd x = some .cell → ∃ c, C.env.cells.lookup x = some c
section
variable {C : Cx} {σ : Sig} {ρ : List Own} {s s' : Shared} {E : Value → Shared → Prop} {k : Nat} {F : Fx}
theorem Fresh.back {u : Value} (f : Fresh s' u) (I : Inv C σ ρ s) (x : Ext C.env.locals s s') : Fresh s u := fun a e => by
 have := f a e
 cases q : s.heap.get? a with
 | none => rfl
 | some o =>
  exfalso
  by_cases z : a = C.env.locals
  ·subst z
   obtain ⟨m, n⟩ := I.ns
   obtain ⟨o', _, _, e', _⟩ := x.ns m n
   exact none_ (this.symm.trans e')
  ·exact none_ (this.symm.trans (x.keep a o z q))
theorem okName_dbg {x : Str} (h : okName x = true) : (x == ("__debug__" : Str)) = false ∧ (x == ("__classdict__" : Str)) = false := by
 delta okName at h
 have := and2 h
 exact ⟨by simpa using this.1, by simpa using this.2⟩
theorem name_load {x : Str} {u : Value} {Q : Value → Shared → Prop} (K : CxOk C k) (ok : okName x = true) (h1 : VarAt C.env s.heap x u) (h : Q u s) : wpAny C.M C.A (loadName C.env x) Q E s := by
 delta VarAt at h1
 cases hk : C.env.kindOf x with
 | none => rw [hk] at h1; exact h1.elim
 | some z =>
  rw [hk] at h1
  cases z with
  | «local» => obtain ⟨m, n, e⟩ := h1; exact wpAny_loadName_local K.fn hk n e h
  | cell => obtain ⟨c, hc, e⟩ := h1; exact wpAny_loadName_cell K.fn hk hc e h
  | free => obtain ⟨c, hc, e⟩ := h1; exact wpAny_loadName_free K.fn hk hc e h (okName_dbg ok).2
  | _ => exact h1.elim
theorem var_load {x : Str} {u : Value} {pos : Pos} {Q : Value → Shared → Prop} (K : CxOk C k) (ok : okName x = true) (h1 : VarAt C.env s.heap x u) (h : Q u s) : wpAny C.M C.A (eval (.Name x pos) C.env) Q E s := wpAny_Name (name_load K ok h1 h) (okName_dbg ok).1
theorem own_none (K : FxOk F C ρ k) {x : Str} (h : (F.own.contains x || F.own2.contains x) = false) : ρ.find? (·.name == x) = none := by
 cases e : ρ.find? (·.name == x) with
 | none => rfl
 | some o =>
  have hn := own_name e
  have ho := K.own o (find_mem e)
  obtain ⟨h1, h2⟩ := Bool.or_eq_false_iff.mp h
  cases q : o.two with
  | false => rw [q, hn, h1] at ho; exact absurd ho.1 (by decide)
  | true => rw [q, hn, h2] at ho; exact absurd ho.2 (by decide)
theorem glob_load {x : Str} {v : Value} {pos : Pos} {Q : Value → Shared → Prop} (K : CxOk C k) (ok : okName x = true) (hk : C.env.kindOf x = some .globalImplicit) (I : Inv C σ ρ s) (h1 : C.G.mg x = some v ∨ (C.G.mg x = none ∧ C.G.mb x = some v)) (h : Q v s) :
  wpAny C.M C.A (eval (.Name x pos) C.env) Q E s := by
 refine wpAny_Name ?_ (okName_dbg ok).1
 rw [loadName_read K.fn hk]
 delta loadGlobal
 rw [K.gl, K.bl]
 refine wpAny_bind (wpAny_nsGet I.gdH.g ?_)
 rcases h1 with e | ⟨e, e'⟩
 ·exact e ▸ (wpAny_pure h)
 ·rw [e]
  refine wpAny_bind (wpAny_nsGet I.gdH.b ?_)
  exact e' ▸ (wpAny_pure h)
noncomputable def EvL (C : Cx) (σ : Sig) (ρ : List Own) (es : List Expr) (P : Shared → List Value → Prop) : Prop := ∀ (pos : Pos) (s : Shared) (Q : List Value → Shared → Prop) (E : Value → Shared → Prop), Inv C σ ρ s →
 (∀ us s', Ext C.env.locals s s' → P s' us → Q us s') → wpAny C.M C.A (spliced (backTo pos (starEach es C.env))) Q E s
noncomputable def noStar (e : Expr) : Bool := decide (e.ctorIdx ≠ 22)
theorem star_cons {e : Expr} {r : List Expr} {env : Env} (h : noStar e = true) : starEach (e :: r) env = (false, eval e env) :: starEach r env := by
 have h := of_decide_eq_true h
 cases e <;> first | rfl | exact absurd rfl h
theorem back_cons {x : Sem Value} {r : List (Bool × Sem Value)} {pos : Pos} : backTo pos ((false, x) :: r) = (false, x) :: backTo pos r := rfl
noncomputable def noStars (es : List Expr) : Prop := ∀ e ∈ es, noStar e = true
theorem plain_args {es : List Expr} {pos : Pos} {env : Env} (h : noStars es) : (backTo pos (starEach es env)).any (·.1) = false := by
 induction es with
 | nil => rfl
 | cons e r ih =>
  rw [star_cons (h e (.head _)), back_cons, List.any_cons]
  exact ih fun x hx => h x (.tail _ hx)
theorem star_len {es : List Expr} {pos : Pos} {env : Env} (h : noStars es) : (backTo pos (starEach es env)).all (fun x => !x.1) = true := by
 induction es with
 | nil => rfl
 | cons e r ih =>
  rw [star_cons (h e (.head _)), back_cons, List.all_cons]
  exact ih fun x hx => h x (.tail _ hx)
theorem evalArgs_any {f : Value} {es : List Expr} {pos : Pos} {Q : Args → Shared → Prop} (hs : noStars es) (h : wpAny C.M C.A (spliced (backTo pos (starEach es C.env))) (fun vs s' => Q ⟨vs, []⟩ s') E s) :
  wpAny C.M C.A (evalArgs f true (backTo pos (starEach es C.env)) []) Q E s := by
 cases es with
 | nil =>
  delta evalArgs
  show wpAny C.M C.A (spliced [] >>= _) Q E s
  refine wpAny_bind (wpAny_mono h (fun vs s' h' => ?_) fun _ _ x => x)
  refine wpAny_holding ?_
  exact wpAny_bind (wpAny_pure (wpAny_bind (wpAny_pure (wpAny_pure h'))))
 | cons e r =>
  rw [star_cons (hs e (.head _)), back_cons] at h ⊢
  exact evalArgs_plain h
theorem args_builtin {pos : Pos} {id : String} {first : List Value} {es : List Expr} {Q : Value → Shared → Prop} (hs : noStars es) (h : wpAny C.M C.A (spliced (backTo pos (starEach es C.env))) (fun vs s1 => wpAny C.M C.A (call (.builtin id) (first ++ vs) []) Q E s1) E s) :
  wpAny C.M C.A (callWith pos (.builtin id) first (backTo pos (starEach es C.env)) []) Q E s := by
 exact callWith_builtin (plain_args hs) (evalArgs_any hs h)
theorem args_type {pos : Pos} {id : String} {first : List Value} {es : List Expr} {Q : Value → Shared → Prop} (hs : noStars es) (h : wpAny C.M C.A (spliced (backTo pos (starEach es C.env))) (fun vs s1 => wpAny C.M C.A (call (.type id) (first ++ vs) []) Q E s1) E s) :
  wpAny C.M C.A (callWith pos (.type id) first (backTo pos (starEach es C.env)) []) Q E s :=
 PyProof.Rows.callWith_type (plain_args hs) (evalArgs_any hs h)
theorem args_K {pos : Pos} {f : Value} {first : List Value} {es : List Expr} {Q : Value → Shared → Prop} (hs : noStars es) (hk : keepIn C.G.K f = true) (h : wpAny C.M C.A (spliced (backTo pos (starEach es C.env))) (fun vs s1 => C.G.K.In s1.heap ∧ wpAny C.M C.A (call f (first ++ vs) []) Q E s1) E s) :
  wpAny C.M C.A (callWith pos f first (backTo pos (starEach es C.env)) []) Q E s :=
 callWith_of (by rw [plain_args hs]; rfl) (keeps_K hk) (evalArgs_any hs h)
end
end
section
open PySem.Calls
theorem closure_of {scope : Scope} {env : Env} (h : ∀ x ∈ scope.names, x.2 = .free → ∃ c, env.cells.lookup x.1 = some c) :
  ∃ cl, closureFor scope env = pure cl ∧ (∀ p ∈ cl, env.cells.lookup p.1 = some p.2) ∧ ∀ x ∈ scope.names, x.2 = .free → (cl.lookup x.1).isSome = true := by
 have main : ∀ (names : List (Str × NameKind)) (cs : List (Str × Addr)), (∀ x ∈ names, x.2 = .free → ∃ c, env.cells.lookup x.1 = some c) → (∀ p ∈ cs, env.cells.lookup p.1 = some p.2) →
   ∃ cl, (forIn names cs (fun x r => (if (x.2 == .free) = true then do let y ← cellOf env x.1; pure (ForInStep.yield ((x.1, y) :: r)) else pure (ForInStep.yield r) : Sem (ForInStep (List (Str × Addr))))) : Sem (List (Str × Addr))) = pure cl ∧
    (∀ p ∈ cl, env.cells.lookup p.1 = some p.2) ∧ (∀ x ∈ names, x.2 = .free → (cl.lookup x.1).isSome = true) ∧ ∀ y, (cs.lookup y).isSome = true → (cl.lookup y).isSome = true := by
  intro names
  induction names with
  | nil => intro cs _ hc; exact ⟨cs, rfl, hc, fun _ h => (nomatch h), fun _ h => h⟩
  | cons x r ih =>
   intro cs h hc
   by_cases q : x.2 = .free
   ·obtain ⟨c, e⟩ := h x (.head _) q
    obtain ⟨cl, e1, e2, e3, e4⟩ := ih ((x.1, c) :: cs) (fun y hy => h y (.tail _ hy)) (fun p hp => by
     rcases List.mem_cons.mp hp with rfl | hp
     ·exact e
     ·exact hc p hp)
    refine ⟨cl, ?_, e2, fun y hy hf => ?_, fun y hy => e4 y ?_⟩
    ·rw [List.forIn_cons, if_pos (by rw [q]; rfl)]
     unfold cellOf
     rw [e]
     exact e1
    ·rcases List.mem_cons.mp hy with rfl | hy
     ·exact e4 _ (by rw [List.lookup_cons]; simp)
     ·exact e3 y hy hf
    ·rw [List.lookup_cons]
     split
     ·rfl
     ·exact hy
   ·obtain ⟨cl, e1, e2, e3, e4⟩ := ih cs (fun y hy => h y (.tail _ hy)) hc
    refine ⟨cl, ?_, e2, fun y hy hf => ?_, e4⟩
    ·rw [List.forIn_cons, if_neg (by simpa using q)]
     exact e1
    ·rcases List.mem_cons.mp hy with rfl | hy
     ·exact absurd hf q
     ·exact e3 y hy hf
 obtain ⟨cl, e1, e2, e3, _⟩ := main scope.names [] h (fun _ h => (nomatch h))
 refine ⟨cl, ?_, e2, e3⟩
 unfold closureFor
 show (forIn scope.names [] _ >>= fun cs => pure cs) = _
 rw [show (forIn scope.names ([] : List (Str × Addr)) _ : Sem (List (Str × Addr))) = pure cl from e1]
 rfl
section
variable {C : Cx} {σ σ' τ : Sig} {ρ : List Own} {s s' : Shared} {E : Value → Shared → Prop} {k : Nat} {F : Fx}
theorem Inv.weaken (I : Inv C σ [] s) (h : ∀ x v, σ' x = some v → σ x = some v) : Inv C σ' [] s :=
 ⟨I.gd, I.ns, I.keep, fun x v e => I.vars x v (h x v e), fun o ho => (nomatch ho), I.cells, I.nodup, I.names, I.new, I.old, I.there, I.bare, I.cl⟩
theorem put_sup {ok : Str → Bool} {σ0 σ : Sig} {x : Str} {d : X} (h0 : ∀ x, ok x = true → σ0 x = none) (hx : ok x = true) (h : ∀ y v, σ0 y = some v → σ y = some v) (y : Str) (v : X) (hy : σ0 y = some v) : put σ x d y = some v := by
 unfold put
 by_cases z : y = x
 ·rw [z, h0 x hx] at hy; exact none_ hy
 ·rw [if_neg z]; exact h y v hy
theorem bindTD_sup {ok : Str → Bool} {tgt : Expr} {p : PyData} (h0 : ∀ x, ok x = true → σ' x = none) (e : bindTD ok tgt σ' p = some τ) : ∀ x v, σ' x = some v → τ x = some v :=
 bindE (P := fun _ _ τ => ∀ x v, σ' x = some v → τ x = some v) e (fun x q hx => put_sup h0 hx fun _ _ h => h) fun ts k q l e =>
  putD_elim (P := fun σ _ _ τ => (∀ x v, σ' x = some v → σ x = some v) → ∀ x v, σ' x = some v → τ x = some v) (fun _ h => h) (fun _ _ _ _ _ _ _ hx _ ih h => ih (put_sup h0 hx h)) e fun _ _ h => h
theorem Inv.mv {wr : List Addr} {gw : List Nat} (I : Inv C σ ρ s) (x : Mv wr gw s s') (hw : ∀ b ∈ wr, b ∈ C.H) (ht : ∀ b ∈ wr, ∃ o, s'.heap.get? b = some o) (hg : ∀ b ∈ wr, C.g.get? b = none) (hc : ∀ y c, C.env.cells.lookup y = some c → c ∉ wr) :
  Inv C σ ρ s' ∧ Keeps (C.hh ρ s) (C.hh ρ s') := by
 have nw : ∀ a ∈ addrs ρ ++ C.env.locals :: C.cs.map (·.2), a ∉ wr := fun a ha q => (I.old a (hw a q)).2 ha
 have kh : Keeps (C.hh ρ s) (C.hh ρ s') := keeps_hide fun b o m e => x.keep b o (fun q => m (List.mem_append_right _ (.tail _ (List.mem_append_right _ (hw b q))))) e
 have cellk : ∀ y c u, C.env.cells.lookup y = some c → s.heap.IsCell c (some u) → s'.heap.IsCell c (some u) := fun y c u h e => by
  obtain ⟨o, e, d⟩ := e; exact ⟨o, x.keep _ _ (hc y c h) e, d⟩
 have nsk : ∀ m, s.heap.Ns C.env.locals m → s'.heap.Ns C.env.locals m := fun m n => n.at' fun o e => x.keep _ _ (nw _ (List.mem_append_right _ (.head _))) e
 have ex : ∀ a, (∃ o, s.heap.get? a = some o) → ∃ o, s'.heap.get? a = some o := fun a ⟨o, e⟩ => by
  by_cases q : a ∈ wr
  ·exact ht a q
  ·exact ⟨o, x.keep _ _ q e⟩
 refine ⟨⟨I.gd, ?_, fun b o e => x.keep b o (fun q => ?_) (I.keep b o e), fun y v e => ?_, I.owns, fun p hp => ?_, I.nodup, I.names, I.new, fun a ha => ?_, fun a ha => ?_, x.bare I.bare, fun y c e => ex c (I.cl y c e)⟩, kh⟩
 ·obtain ⟨m, n⟩ := I.ns; exact ⟨m, nsk m n⟩
 ·exact none_ ((hg b q).symm.trans e)
 ·obtain ⟨u, h1, h2⟩ := I.vars y v e
  refine ⟨u, ?_, ?_⟩
  ·exact h1.map (fun m n e => ⟨m, nsk m n, e⟩) fun _ c n e => cellk _ c _ n e
  ·exact h2.at' (fun o ho a ha b eb => x.keep a b (nw a (List.mem_append_left _ (mem_addrs (find_mem ho) a ha))) eb) kh
 ·obtain ⟨v, o, e, d⟩ := I.cells p hp
  exact ⟨v, o, x.keep _ _ (nw _ (List.mem_append_right _ (.tail _ (List.mem_map_of_mem hp)))) e, d⟩
 ·exact ⟨ex a (I.old a ha).1, (I.old a ha).2⟩
 ·exact ex a (I.there a ha)
end
end
section
open PySem.Calls
theorem Mv.refl {wr : List Addr} {gw : List Nat} {s : Shared} : Mv wr gw s s := ⟨fun _ _ _ e => e, rfl, fun _ _ _ e => e, id⟩
theorem Mv.trans {wr : List Addr} {gw : List Nat} {a b c : Shared} (x : Mv wr gw a b) (y : Mv wr gw b c) : Mv wr gw a c :=
 ⟨fun p o n e => y.keep p o n (x.keep p o n e), y.os.trans x.os, fun k z n e => y.gens k z n (x.gens k z n e), fun h => y.bare (x.bare h)⟩
theorem Mv.mono {wr wr' : List Addr} {gw gw' : List Nat} {a b : Shared} (x : Mv wr gw a b) (h : ∀ b ∈ wr, b ∈ wr') (g : ∀ b ∈ gw, b ∈ gw') : Mv wr' gw' a b :=
 ⟨fun p o n e => x.keep p o (fun q => n (h p q)) e, x.os, fun k z n e => x.gens k z (fun q => n (g k q)) e, x.bare⟩
theorem Ext.mv {L : Addr} {a b : Shared} (x : Ext L a b) : Mv [L] [] a b := ⟨fun p o n e => x.keep p o (fun q => n (q ▸ (.head _))) e, x.os, fun k z _ e => x.gens k z e, x.bare⟩
noncomputable def Evts (C : Cx) (τ : Sig) (ifs : List Expr) (b : Bool) : Prop := ∀ (s : Shared) (Q : Bool → Shared → Prop) (E : Value → Shared → Prop), Inv C τ [] s → (∀ s', Ext C.env.locals s s' → Q b s') →
 wpAny C.M C.A (forIn ifs true fun c r => if r = true then do let ok ← isTrue c C.env (eval c C.env); pure (ForInStep.yield ok) else pure (ForInStep.yield r)) Q E s
noncomputable def EvsF (fr : Bool) (C : Cx) (τ : Sig) (e : Expr) (p : PyData) : Prop := ∀ (s : Shared) (Q : Value → Shared → Prop) (E : Value → Shared → Prop), Inv C τ [] s →
 (∀ u s', Ext C.env.locals s s' → Rd (C.hh [] s') u p → (fr = true → ∃ r, u = .ref r ∧ s.heap.get? r = none) → Q u s') → wpAny C.M C.A (eval e C.env) Q E s
noncomputable def NewRows (s : Shared) (vs : List Value) : Prop := ∃ rows : List Addr, vs = rows.map Value.ref ∧ rows.Nodup ∧ ∀ r ∈ rows, s.heap.get? r = none
theorem Rd.ref_ex {h : Heap} {r : Addr} {d : PyData} (x : Rd h (.ref r) d) : ∃ o, h.get? r = some o := by
 cases x with
 | list e _ => exact ⟨_, e⟩
 | tuple e _ => exact ⟨_, e⟩
theorem RdL.mem {h : Heap} {vs : List Value} {ds : List PyData} (r : RdL h vs ds) : ∀ v ∈ vs, ∃ d, Rd h v d :=
 r.ind (L := fun vs _ => ∀ v ∈ vs, ∃ d, Rd h v d) (fun _ q => nomatch q) fun a _ ih v q => (List.mem_cons.mp q).elim (fun q => ⟨_, q ▸ a⟩) (ih v)
noncomputable def CompTurn (C : Cx) (elt target : Expr) (ifs : List Expr) (it acc : Value) (R : Result → Shared → Prop) (P : Shared → Prop) (v : Value) (s : Shared) : Prop :=
 wpAny C.M C.A (letOwnedTupleGo target it v) (fun _ s₁' => wpAny C.M C.A (assign target C.env v) (fun _ s₂ =>
  wpAny C.M C.A (forIn ifs true fun c r => if r = true then do let ok ← isTrue c C.env (eval c C.env); pure (ForInStep.yield ok) else pure (ForInStep.yield r)) (fun ok s₃ =>
   if ok = true then wpAny C.M C.A (eval elt C.env) (fun x s₄ =>
    wpAny C.M C.A (call (.builtin "list.append") [acc, x]) (fun _ s₅ => P s₅) (notedBy C.M C.A C.env fun e s' => R (.error e) s') s₄) (notedBy C.M C.A C.env fun e s' => R (.error e) s') s₃
   else P s₃) (notedBy C.M C.A C.env fun e s' => R (.error e) s') s₂) (notedBy C.M C.A C.env fun e s' => R (.error e) s') s₁') (notedBy C.M C.A C.env fun e s' => R (.error e) s') s
theorem codeAny_compLoop_go {C : Cx} {R : Result → Shared → Prop} {s : Shared} {elt target iter : Expr} {ifs : List Expr} {scope : Scope} {pos : Pos} {it acc : Value} (I : Nat → Shared → Prop)
  (turn : ∀ n s, I n s → wpAny C.M C.A (pyNext it) (fun r s₁ => match r with
   | none => R (.ok .next) s₁
   | some v => CompTurn C elt target ifs it acc R (fun s₅ => ∃ m, m < n ∧ I m s₅) v s₁) (notedBy C.M C.A C.env fun e s' => R (.error e) s') s)
  (n : Nat) (h : I n s) : codeAny C.M C.A (.compLoop (.ListComp elt [⟨target, iter, ifs, 0⟩] scope pos) 0 it acc C.env) R s := by
 refine codeAny_loop rfl I (fun n s hI => ?_) n h
 show wpAny _ C.A ((compTurn (.ListComp elt [⟨target, iter, ifs, 0⟩] scope pos) 0 it acc C.env).onRaise (fun x => do noteFrame x C.env; theTreesLotGoes x)) _ _ s
 refine wpAny_noted ?_
 rw [compTurn_list]
 refine wpAny_bind (wpAny_standAt (wpAny_bind (wpAny_mono (turn n s hI) (fun r s₁ h₁ => ?_) fun _ _ h' => h')))
 cases r with
 | none => exact wpAny_pure h₁
 | some v =>
  refine wpAny_bind (wpAny_mono h₁ (fun _ s₁' h₁' => ?_) fun _ _ h' => h')
  refine wpAny_bind (wpAny_mono h₁' (fun _ s₂ h₂ => wpAny_bind (wpAny_mono h₂ (fun ok s₃ h₃ => ?_) fun _ _ h' => h')) fun _ _ h' => h')
  cases ok with
  | false => exact wpAny_pure ⟨rfl, h₃⟩
  | true =>
   exact wpAny_bind (wpAny_bind (wpAny_mono h₃ (fun x s₄ h₄ => wpAny_bind (wpAny_mono h₄ (fun _ s₅ h₅ => wpAny_pure (wpAny_pure ⟨rfl, h₅⟩)) fun _ _ h' => h')) fun _ _ h' => h'))
theorem Mv.w {L D : Addr} {wr : List Addr} {gw : List Nat} {a b : Shared} (x : Mv wr gw a b) : Mv (L :: D :: wr) gw a b := x.mono (fun b hb => .tail _ (.tail _ hb)) fun _ h => h
theorem Mv.l {L D : Addr} {wr : List Addr} {gw : List Nat} {a b : Shared} (x : Mv [L] [] a b) : Mv (L :: D :: wr) gw a b := x.mono (fun b hb => List.mem_singleton.mp hb ▸ .head _) fun _ h => nomatch h
theorem Mv.d {L D : Addr} {wr : List Addr} {gw : List Nat} {a b : Shared} (x : Mv [D] [] a b) : Mv (L :: D :: wr) gw a b := x.mono (fun b hb => List.mem_singleton.mp hb ▸ .tail _ (.head _)) fun _ h => nomatch h
theorem It.one {M : Model} {A : Around} {J L : Addr} {fp wr : List Addr} {gw : List Nat} {h0 : Heap} {ps : List PyData} {St : Nat → Shared → Prop} (W : It M A J fp wr gw h0 ps St) (hL : L ∉ fp) {j : Nat} {a b : Shared} (st : St j a) (x : Mv [L] [] a b) : St j b :=
 W.frame j a b st (fun b hb o e => x.keep b o (fun q => hL (List.mem_singleton.mp q ▸ hb)) e) (fun k z e => x.gens k z (fun h => nomatch h) e) x.bare
theorem Step.l {C : Cx} {a b : Shared} (hcs : C.cs = []) (x : Step C [] [] a b) : Mv [C.env.locals] [] a b := ⟨fun b o hb e => x.keep b o (by unfold Cx.own'; rw [hcs]; exact hb) e, x.os, fun k z _ e => x.gens k z e, x.bare⟩
section
variable {C : Cx} {σ σ0 τ : Sig} {ρ : List Own} {s s' : Shared} {E : Value → Shared → Prop} {k : Nat} {F : Fx}
variable {fr : Bool} {elt tgt : Expr} {ifs : List Expr} {J D : Addr} {fp wr : List Addr} {gw : List Nat} {h0 : Heap} {ps out : List PyData} {St : Nat → Shared → Prop} {ok : Str → Bool} {tests : Sig → Option Bool} {eltf : Sig → Option PyData} {R : Result → Shared → Prop}
structure CompIn (C : Cx) (fr : Bool) (elt : Expr) (ifs : List Expr) (J D : Addr) (fp wr : List Addr) (gw : List Nat) (h0 : Heap) (ps : List PyData) (St : Nat → Shared → Prop) (ok : Str → Bool) (tests : Sig → Option Bool) (eltf : Sig → Option PyData) (σ0 : Sig) : Prop where
 W : It C.M C.A J fp wr gw h0 ps St
 hh : C.A.handled = none
 hok : StOk C ok []
 hok0 : ∀ x, ok x = true → σ0 x = none
 hcs : C.cs = []
 hw : ∀ b ∈ D :: wr, b ∈ C.H
 hg : ∀ b ∈ D :: wr, C.g.get? b = none
 hc : ∀ y c, C.env.cells.lookup y = some c → c ∉ D :: wr
 hL : C.env.locals ∉ fp
 hD : D ∉ fp
 ht : ∀ τ b, tests τ = some b → Evts C τ ifs b
 he : ∀ τ p, eltf τ = some p → EvsF fr C τ elt p
 hsz : ps.length ≤ 1048576
structure CompAt (C : Cx) (fr : Bool) (D : Addr) (wr : List Addr) (gw : List Nat) (h0 : Heap) (St : Nat → Shared → Prop) (σ0 : Sig) (s : Shared) (i : Nat) (s' : Shared) (vs : List Value) (done : List PyData) : Prop where
 len : done.length ≤ i
 I : Inv C σ0 [] s'
 st : St i s'
 pl : s'.heap.PlainList D vs.toArray
 rd : RdL (C.hh [] s') vs done
 kh : Keeps h0 (C.hh [] s')
 mv : Mv (C.env.locals :: D :: wr) gw s s'
 nr : fr = true → NewRows s vs
theorem new_row {vs : List Value} {done : List PyData} {r : Addr} {L : List Addr} {s4 : Shared} (nr : NewRows s vs) (rd : RdL (C.hh [] s4) vs done) (mv : ∀ b o, b ∉ L → s.heap.get? b = some o → s4.heap.get? b = some o) (ex : ∀ b ∈ L, ∃ o, s4.heap.get? b = some o) (r0 : s4.heap.get? r = none) : NewRows s (vs ++ [.ref r]) := by
 obtain ⟨rows, e1, e2, e3⟩ := nr
 refine ⟨rows ++ [r], by rw [e1]; simp, List.nodup_append.mpr ⟨e2, by simp, fun a ha b hb q => ?_⟩, fun b hb => ?_⟩
 ·have q : a = r := q.trans (List.mem_singleton.mp hb)
  obtain ⟨d, hd⟩ := rd.mem (.ref r) (e1 ▸ (List.mem_map_of_mem (q ▸ ha)))
  obtain ⟨o, eo⟩ := hd.ref_ex
  exact none_ (r0.symm.trans (of_hideAll _ eo))
 ·refine (List.mem_append.mp hb).elim (e3 b) fun hb => ?_
  rw [List.mem_singleton.mp hb]
  cases eb : s.heap.get? r with
  | none => rfl
  | some o =>
   by_cases q : r ∈ L
   ·obtain ⟨o', e'⟩ := ex r q
    exact none_ (r0.symm.trans e')
   ·exact none_ (r0.symm.trans (mv r o q eb))
theorem CompIn.DL (Z : CompIn C fr elt ifs J D fp wr gw h0 ps St ok tests eltf σ0) (I : Inv C σ0 [] s) : D ≠ C.env.locals := fun q => (I.old D (Z.hw D (.head _))).2 (q ▸ List.mem_append_right _ (.head _))
theorem comp_elt {P : Shared → Prop} {i : Nat} {s1 s4 : Shared} {vs : List Value} {done : List PyData} {d : PyData} (Z : CompIn C fr elt ifs J D fp wr gw h0 ps St ok tests eltf σ0) (A : CompAt C fr D wr gw h0 St σ0 s i s1 vs done) (hi : i < ps.length) (hd : eltf τ = some d)
  (I4 : Inv C τ [] s4) (sup : ∀ x v, σ0 x = some v → τ x = some v) (st4 : St (i + 1) s4) (mv4 : Mv (C.env.locals :: D :: wr) gw s1 s4) (kk : Keeps (C.hh [] s1) (C.hh [] s4)) (kD : ∀ o, s1.heap.get? D = some o → s4.heap.get? D = some o)
  (hP : ∀ s5 v, CompAt C fr D wr gw h0 St σ0 s (i + 1) s5 (vs ++ [v]) (done ++ [d]) → P s5) : wpAny C.M C.A (eval elt C.env) (fun x s₄ => wpAny C.M C.A (call (.builtin "list.append") [.ref D, x]) (fun _ s₅ => P s₅) E s₄) E s4 := by
 refine Z.he _ _ hd s4 _ _ I4 fun u s5 X5 ru hfr => ?_
 have DL := Z.DL A.I
 have I5 := (I4.ext X5).weaken sup
 have kk5 : Keeps (C.hh [] s1) (C.hh [] s5) := fun b o e => hh_keeps X5 b o (kk b o e)
 refine wpAny_list_append_plain (hsz := by rw [List.size_toArray, A.rd.length, sizeLine_is]; have := A.len; have := Z.hsz; clear A Z hP; exact unL ‹_› ‹_› ‹_› rfl) (Heap.PlainList.at' (fun o e => X5.keep _ _ DL (kD o e)) A.pl) fun h6 pl6 hs6 => ?_
 have mv6 : Mv [D] [] s5 { s5 with heap := h6 } := .heap fun b o hb e => hs6.extBut b o (fun q => hb (q ▸ (.head _))) e
 have one : ∀ {p : Addr → Prop}, p D → ∀ b ∈ [D], p b := fun h b hb => List.mem_singleton.mp hb ▸ h
 obtain ⟨I6, k6⟩ := I5.mv mv6 (one (Z.hw _ (.head _))) (one (let ⟨n, e⟩ := pl6; ⟨_, e⟩)) (one (Z.hg _ (.head _))) fun y c e q => Z.hc y c e (List.mem_singleton.mp q ▸ .head _)
 have kk6 : Keeps (C.hh [] s1) (C.hh [] { s5 with heap := h6 }) := fun b o e => k6 b o (kk5 b o e)
 refine hP _ u ⟨by rw [List.length_append]; exact Nat.succ_le_succ A.len, I6, Z.W.one Z.hD (Z.W.one Z.hL st4 X5.mv) mv6, by simpa using pl6, (A.rd.keeps kk6).append (.cons (Rd.keeps k6 ru) .nil), fun b o e => kk6 b o (A.kh b o e), A.mv.trans (mv4.trans (X5.mv.l.trans mv6.d)), fun hf => ?_⟩
 obtain ⟨r, rfl, r0⟩ := hfr hf
 have mv := A.mv.trans mv4
 refine new_row (L := C.env.locals :: D :: wr) (A.nr hf) (A.rd.keeps kk) mv.keep (fun b hb => ?_) r0
 refine (List.mem_cons.mp hb).elim (fun q => ?_) fun q => (I4.old b (Z.hw b q)).1
 obtain ⟨m, o', _, _, e', _⟩ := I4.ns
 exact ⟨o', q ▸ e'⟩
theorem comp_turn {P : Shared → Prop} {i : Nat} {p : PyData} {v : Value} {s1 s2 : Shared} {vs : List Value} {done out2 : List PyData} (Z : CompIn C fr elt ifs J D fp wr gw h0 ps St ok tests eltf σ0) (A : CompAt C fr D wr gw h0 St σ0 s i s1 vs done) (hi : i < ps.length) (hdrop : ps.drop i = p :: ps.drop (i + 1)) (e2 : compL (bindTD ok tgt σ0) tests eltf (ps.drop i) = some out2)
  (st2 : St (i + 1) s2) (mv2 : Mv wr gw s1 s2) (rv : Rd (C.hh [] s2) v p) (hgo : ∀ t (Q' : Unit → Shared → Prop) E', Q' () s2 → wpAny C.M C.A (letOwnedTupleGo t (.ref J) v) Q' E' s2)
  (hP : ∀ s5 vs' done' out', CompAt C fr D wr gw h0 St σ0 s (i + 1) s5 vs' done' → compL (bindTD ok tgt σ0) tests eltf (ps.drop (i + 1)) = some out' → done ++ out2 = done' ++ out' → P s5) : CompTurn C elt tgt ifs (.ref J) (.ref D) R P v s2 := by
 obtain ⟨I2, k2⟩ := A.I.mv mv2 (fun b hb => Z.hw b (.tail _ hb)) (fun b hb => Z.W.there _ _ st2 b (Z.W.sub b hb)) (fun b hb => Z.hg b (.tail _ hb)) fun y c e q => Z.hc y c e (.tail _ q)
 have DL := Z.DL A.I
 rw [hdrop] at e2
 refine bndE e2 fun τ1 hb e3 => bndE e3 fun b ht1 e4 => hgo _ _ _ (bind_sound Z.hok Z.hh hb I2 rv fun s3 I3 S3 => Z.ht _ _ ht1 s3 _ _ I3 fun s4 X4 => ?_)
 have mv3 := S3.l Z.hcs
 have st4 := Z.W.one Z.hL (Z.W.one Z.hL st2 mv3) X4.mv
 have I4 := I3.ext X4
 have sup := bindTD_sup Z.hok0 hb
 have kk : Keeps (C.hh [] s1) (C.hh [] s4) := fun b o e => hh_keeps X4 b o (S3.hh b o (k2 b o e))
 have kD : ∀ o, s1.heap.get? D = some o → s4.heap.get? D = some o := fun o e => X4.keep _ _ DL (mv3.keep _ _ (fun q => DL (List.mem_singleton.mp q)) (mv2.keep _ _ (fun q => Z.hD (Z.W.sub D q)) e))
 have mv4 : Mv (C.env.locals :: D :: wr) gw s1 s4 := mv2.w.trans (mv3.l.trans X4.mv.l)
 cases b with
 | false => exact hP s4 vs done out2 ⟨Nat.le_succ_of_le A.len, I4.weaken sup, st4, Heap.PlainList.at' kD A.pl, A.rd.keeps kk, fun b o e => kk b o (A.kh b o e), A.mv.trans mv4, A.nr⟩ e4 rfl
 | true =>
  refine bndE e4 fun d hd e5 => ?_
  obtain ⟨out3, q, rfl⟩ := mpd e5
  exact comp_elt Z A hi hd I4 sup st4 mv4 kk kD fun s5 v A5 => hP s5 _ _ out3 A5 q (by rw [List.append_assoc]; rfl)
theorem comp_loop {iter : Expr} {scope : Scope} {pos : Pos} (Z : CompIn C fr elt ifs J D fp wr gw h0 ps St ok tests eltf σ0) (e : compL (bindTD ok tgt σ0) tests eltf ps = some out)
  (I : Inv C σ0 [] s) (st : St 0 s) (pl : s.heap.PlainList D #[]) (kh : Keeps h0 (C.hh [] s))
  (hR : ∀ s' (vs : List Value), (∃ m, s'.heap.Ns C.env.locals m) → s'.heap.PlainList D vs.toArray → RdL (C.hh [] s') vs out → Mv (C.env.locals :: D :: wr) gw s s' → (fr = true → NewRows s vs) → R (.ok .next) s') :
  codeAny C.M C.A (.compLoop (.ListComp elt [⟨tgt, iter, ifs, 0⟩] scope pos) 0 (.ref J) (.ref D) C.env) R s := by
 refine codeAny_compLoop_go (fun n s' => ∃ i vs done out2, n = ps.length + 1 - i ∧ i ≤ ps.length ∧ compL (bindTD ok tgt σ0) tests eltf (ps.drop i) = some out2 ∧ out = done ++ out2 ∧ CompAt C fr D wr gw h0 St σ0 s i s' vs done) ?_ (ps.length + 1)
  ⟨0, [], [], out, rfl, Nat.zero_le _, e, rfl, Nat.le_refl _, I, st, pl, .nil, kh, .refl, fun _ => ⟨[], rfl, List.nodup_nil, fun _ h => (nomatch h)⟩⟩
 rintro n s1 ⟨i, vs, done, out2, hn, hi, e2, ho, A⟩
 rcases Nat.lt_or_ge i ps.length with hlt | hge
 ·exact Z.W.item i _ s1 _ _ (List.getElem?_eq_getElem hlt) A.st fun v s2 st2 mv2 hrd hgo => comp_turn Z A hlt (List.drop_eq_getElem_cons hlt) e2 st2 mv2 (hrd _ A.kh A.I.hidLt) hgo
   fun s5 vs' done' out' A5 e5 q => ⟨_, hn ▸ Nat.sub_lt_sub_left (Nat.lt_succ_of_lt hlt) (Nat.lt_succ_self i), i + 1, vs', done', out', rfl, hlt, e5, ho.trans q, A5⟩
 ·obtain rfl : i = ps.length := Nat.le_antisymm hi hge
  rw [List.drop_of_length_le (Nat.le_refl _)] at e2
  have q : out = done := by rw [ho, ← sm_ e2, List.append_nil]
  refine Z.W.done s1 _ _ A.st fun s2 mv2 => ?_
  obtain ⟨m, n⟩ := A.I.ns
  refine hR s2 vs ⟨m, n.at' fun o e => mv2.keep _ _ (fun q => Z.hL (Z.W.sub _ q)) e⟩ (Heap.PlainList.at' (fun o e => mv2.keep _ _ (fun q => Z.hD (Z.W.sub _ q)) e) A.pl) ?_ (A.mv.trans mv2.w) A.nr
  rw [q]
  exact A.rd.keeps (keeps_hide fun b o m e => mv2.keep b o (fun q => m (.tail _ (List.mem_append_right _ (Z.hw b (.tail _ q))))) e)
end
end
section
open PySem.Calls
section
variable {C : Cx} {σ σ0 τ : Sig} {ρ : List Own} {s s' : Shared} {E : Value → Shared → Prop} {k : Nat} {F : Fx}
noncomputable def EvIt (C : Cx) (σ : Sig) (ρ : List Own) (c : Bool) (e : Expr) (ps : List PyData) : Prop := ∀ (s : Shared) (Q : Value → Shared → Prop) (E : Value → Shared → Prop), Inv C σ ρ s →
 (∀ J fp h0 s' St, It C.M C.A J fp [J] [] h0 ps St → St 0 s' → Ext C.env.locals s s' → s.heap.get? J = none → Keeps h0 (hideAll s'.heap (J :: (addrs ρ ++ C.hide))) →
  (∀ b ∈ fp, b ≠ C.env.locals ∧ b ∉ C.cs.map (·.2) ∧ (c = true → b ∉ addrs ρ)) → Q (.ref J) s') → wpAny C.M C.A (eval e C.env) (fun x s1 => wpAny C.M C.A (pyIter x) Q E s1) E s
noncomputable def compH (C : Cx) (ρ : List Own) (D J : Addr) : List Addr := D :: J :: (C.hide ++ addrs ρ)
noncomputable def compC (C : Cx) (ρ : List Own) (sc : Scope) (cl : List (Str × Addr)) (L D J : Addr) : Cx := ⟨C.G, C.A, compEnvC sc cl L C.env, [], compH C ρ D J, C.g⟩
theorem relabel_lookup {sc : Scope} {env : Env} (hf : env.scope.kind = .function) (hc : ∀ x ∈ sc.names, x.2 = .free → env.kindOf x.1 = some .cell) (y : Str) :
  (relabel sc env).names.lookup y = kdC sc y := by
 unfold relabel kdC
 show (sc.names.map _).lookup y = _
 generalize hn : sc.names = names at hc ⊢
 clear hn
 induction names with
 | nil => rfl
 | cons x r ih =>
  obtain ⟨n, kd⟩ := x
  have ih := ih fun z hz => hc z (.tail _ hz)
  rw [List.map_cons]
  by_cases q : (y == n) = true
  ·have e2 : ((n, kd) :: r).lookup y = some kd := by rw [List.lookup_cons, q]
   rw [e2]
   by_cases z : kd = .free
   ·subst z
    have hc := hc (n, .free) (.head _) rfl
    simp only [hf, hc, beq_self_eq_true, Bool.and_self, if_true]
    rw [List.lookup_cons, q]
   ·have : (kd == NameKind.free) = false := by simpa using z
    simp only [this, Bool.false_and, Bool.false_eq_true, if_false]
    rw [List.lookup_cons, q]
    cases kd <;> first | rfl | exact absurd rfl z
  ·have q : (y == n) = false := by simpa using q
   have e2 : ((n, kd) :: r).lookup y = r.lookup y := by rw [List.lookup_cons, q]
   rw [e2, ← ih]
   show List.lookup y ((if (kd == NameKind.free && env.scope.kind == .function && env.kindOf n == some .cell) = true then (n, NameKind.cell) else (n, kd)) :: _) = _
   by_cases hq : (kd == NameKind.free && env.scope.kind == .function && env.kindOf n == some .cell) = true
   ·rw [if_pos hq, List.lookup_cons, q]
   ·rw [if_neg hq, List.lookup_cons, q]
structure CompOk (kd : Kd) (sc : Scope) : Prop where
 fn : sc.kind = .function
 loc : ∀ x ∈ sc.names, x.2 = .local → sc.names.lookup x.1 = some .local
 free : ∀ x ∈ sc.names, x.2 = .free → kd x.1 = some .cell
 cell : ∀ x ∈ sc.names, x.2 ≠ .cell
theorem compOk_of {kd : Kd} {sc : Scope} (h : compOk kd sc = true) : CompOk kd sc := by
 unfold compOk at h
 obtain ⟨h1, h2⟩ := and2 h
 refine ⟨by simpa using h1, fun x hx e => ?_, fun x hx e => ?_, fun x hx e => ?_⟩ <;> (have := List.all_eq_true.mp h2 x hx; rw [e] at this; first | exact eq_of_beq this | simp at this)
theorem mem_of_lookup {α β : Type} [BEq α] [LawfulBEq α] : ∀ {l : List (α × β)} {x : α} {y : β}, l.lookup x = some y → (x, y) ∈ l
 | [], _, _, h => by exact none_ h
 | (a, b) :: r, x, y, h => by
  rw [List.lookup_cons] at h
  split at h
  ·rename_i q; obtain rfl := sm_ h; rw [eq_of_beq q]; exact .head _
  ·exact .tail _ (mem_of_lookup h)
theorem comp_inv {sc : Scope} {cl : List (Str × Addr)} {L D J : Addr} {s1 : Shared} (K : FxOk F C ρ k) (ok : CompOk F.kd sc) (hcl : ∀ p ∈ cl, C.env.cells.lookup p.1 = some p.2) (hfr : ∀ x ∈ sc.names, x.2 = .free → (cl.lookup x.1).isSome = true)
  (I : Inv C σ ρ s) (X : Ext C.env.locals s s1) (hL : s.heap.get? L = none) (n : ∃ m, s1.heap.Ns L m) (hD : ∃ o, s1.heap.get? D = some o) (hJ : ∃ o, s1.heap.get? J = some o) (DL : D ≠ L) (JL : J ≠ L) (hDs : s.heap.get? D = none) (hJs : s.heap.get? J = none) :
  Inv (compC C ρ sc cl L D J) (compSig F sc σ) [] s1 ∧ FxOk (F.comp sc) (compC C ρ sc cl L D J) [] k := by
 have hkd : ∀ y, (compC C ρ sc cl L D J).env.kindOf y = kdC sc y := relabel_lookup K.cx.fn fun x hx e => by rw [← K.kd]; exact ok.free x hx e
 have I1 := I.ext X
 have ne : ∀ {a : Addr}, (∃ o, s.heap.get? a = some o) → a ≠ L := fun ⟨o, e⟩ q => by exact none_ (hL.symm.trans (q ▸ e))
 have kk : Keeps (C.hh ρ s) ((compC C ρ sc cl L D J).hh [] s1) := keeps_hide_sub fun b o m e => by
  refine ⟨fun q => ?_, X.keep b o (fun q => m (q ▸ (List.mem_append_right _ (.head _)))) e⟩
  rcases List.mem_cons.mp q with q | q
  ·exact ne ⟨o, e⟩ q
  ·rcases List.mem_append.mp q with q | q
   ·exact (nomatch q)
   ·rcases List.mem_cons.mp q with q | q
    ·exact none_ (hDs.symm.trans (q ▸ e))
    ·rcases List.mem_cons.mp q with q | q
     ·exact none_ (hJs.symm.trans (q ▸ e))
     ·rcases List.mem_append.mp q with q | q
      ·exact m (List.mem_append_right _ q)
      ·exact m (List.mem_append_left _ q)
 constructor
 ·refine ⟨I.gd, n, I1.keep, fun y v e => ?_, fun o h => (nomatch h), fun p h => (nomatch h), ?_, List.nodup_nil, fun a h => ?_, fun a h => ?_, fun a h => (nomatch h), I1.bare, fun y c e => ?_⟩
  ·unfold compSig at e
   split at e
   ·rename_i hy
    obtain ⟨h1, h2, h3⟩ := hy
    obtain ⟨u, v1, v2⟩ := I.vars y v e
    rw [own_none K (by rw [h2, h3]; rfl)] at v2
    refine ⟨u, ?_, v2.keeps kk⟩
    have hm := mem_of_lookup h1
    have hc : C.env.kindOf y = some .cell := by rw [← K.kd]; exact ok.free _ hm rfl
    unfold VarAt at v1 ⊢
    rw [hc] at v1
    obtain ⟨c, e1, e2⟩ := v1
    rw [hkd y]
    have : kdC sc y = some .cell := by unfold kdC; rw [h1]
    rw [this]
    have hs := hfr _ hm rfl
    obtain ⟨c', e3⟩ := Option.isSome_iff_exists.mp hs
    have e4 := hcl _ (mem_of_lookup e3)
    have hcc : c' = c := by rw [e1] at e4; exact (Option.some.inj e4).symm
    subst hcc
    have cL : c' ≠ C.env.locals := fun q => by
     obtain ⟨m, n⟩ := I.ns
     exact not_cell_ns e2 (q ▸ n)
    obtain ⟨o, e5, e6⟩ := e2
    exact ⟨c', e3, o, X.keep _ _ cL e5, e6⟩
   ·exact none_ e
  ·show [L].Nodup
   simp
  ·rcases List.mem_cons.mp h with h | h
   ·rw [h]
    show C.g.get? L = none
    cases e : C.g.get? L with
    | none => rfl
    | some o => exact none_ (hL.symm.trans (I.keep _ _ e))
   ·exact (nomatch h)
  ·have hnL : a ≠ L → a ∉ addrs [] ++ (compC C ρ sc cl L D J).env.locals :: (compC C ρ sc cl L D J).cs.map (·.2) := fun z q => by
    rcases List.mem_cons.mp q with q | q
    ·exact z q
    ·exact (nomatch q)
   rcases List.mem_cons.mp h with rfl | h
   ·exact ⟨hD, hnL DL⟩
   ·rcases List.mem_cons.mp h with rfl | h
    ·exact ⟨hJ, hnL JL⟩
    ·have h' : a ∈ addrs ρ ++ C.hide := by
      rcases List.mem_append.mp h with h | h
      ·exact List.mem_append_right _ h
      ·exact List.mem_append_left _ h
     exact ⟨I1.hidLt a h', hnL (ne (I.hidLt a h'))⟩
  ·have := hcl (y, c) (mem_of_lookup e)
   exact I1.cl y c this
 ·refine ⟨K.T, fun x => (hkd x).symm, fun o h => (nomatch h), ⟨ok.fn, K.cx.gl, K.cx.bl, K.cx.lv⟩, fun x hx => ?_⟩
  have : sc.names.lookup x = some .free := by
   unfold Fx.comp kdC at hx
   dsimp only at hx
   split at hx
   ·assumption
   ·exact absurd rfl (ok.cell _ (mem_of_lookup hx))
  obtain ⟨c, e⟩ := Option.isSome_iff_exists.mp (hfr _ (mem_of_lookup this) rfl)
  exact ⟨c, e⟩
end
end
section
open PySem.Calls
theorem ltF {b n m : Nat} (h1 : b < n) (hm : m = n + 1) (q : b = m) : False := by lia
theorem ltF0 {b n : Nat} (h1 : b < n) (q : b = n) : False := by lia
section
variable {C : Cx} {σ σ0 τ : Sig} {ρ : List Own} {s s' : Shared} {E : Value → Shared → Prop} {k : Nat} {F : Fx}
noncomputable def BodyOk (F : Fx) (k : Nat) (sc : Scope) (ifs : List Expr) (elt : Expr) (tests : Sig → Option Bool) (eltf : Sig → Option PyData) : Prop := ∀ (C' : Cx), FxOk (F.comp sc) C' [] k →
 (∀ τ b, tests τ = some b → Evts C' τ ifs b) ∧ (∀ τ p, eltf τ = some p → Evs C' τ [] elt (.d p))
theorem compSig_none {sc : Scope} : ∀ x, okC sc x = true → compSig F sc σ x = none := fun x h => by
 delta okC at h
 delta compSig
 rw [if_neg (fun q => by rw [q.1] at h; exact absurd (eq_of_beq h) (by decide))]
theorem comp_stok {sc : Scope} {cl : List (Str × Addr)} {L D J : Addr} (K : FxOk (F.comp sc) (compC C ρ sc cl L D J) [] k) (ok : CompOk F.kd sc) : StOk (compC C ρ sc cl L D J) (okC sc) [] :=
 ⟨K.cx.fn, fun _ _ => rfl, fun x h => .inl (by rw [← K.kd x]; delta okC at h; delta Fx.comp kdC; dsimp only; rw [eq_of_beq h])⟩
theorem comp_core {fr : Bool} {elt tgt iter : Expr} {ifs : List Expr} {sc : Scope} {pos : Pos} {items out : List PyData} {cl : List (Str × Addr)} {tests : Sig → Option Bool} {eltf : Sig → Option PyData} {RR : Value → Addr → Result → Shared → Prop}
  (K : FxOk F C ρ k) (ok : CompOk F.kd sc) (hcl : ∀ p ∈ cl, C.env.cells.lookup p.1 = some p.2) (hfr : ∀ x ∈ sc.names, x.2 = .free → (cl.lookup x.1).isSome = true)
  (hi : EvIt C σ ρ false iter items) (hb : ∀ (C' : Cx), FxOk (F.comp sc) C' [] k → (∀ τ b, tests τ = some b → Evts C' τ ifs b) ∧ (∀ τ p, eltf τ = some p → EvsF fr C' τ elt p)) (hsz : items.length ≤ 1048576) (e : compL (bindTD (okC sc) tgt (compSig F sc σ)) tests eltf items = some out) (I : Inv C σ ρ s)
  (hRR : ∀ D L s', s.heap.get? D = none → s.heap.get? L = none → D ≠ L → (∃ m, s'.heap.Ns L m) → Ext C.env.locals s s' → Rd (hideAll s'.heap (L :: (addrs ρ ++ C.hide))) (.ref D) (.list out) →
   (fr = true → ∃ (rows : List Addr) (n : Nat), s'.heap.get? D = some { cls := .type "list", data := .seq (rows.map Value.ref).toArray n } ∧ rows.Nodup ∧ ∀ r ∈ rows, s.heap.get? r = none ∧ r ≠ D ∧ r ≠ L) → RR (.ref D) L (.ok .next) s') :
  wpAny C.M C.A (eval iter C.env) (fun x s₁ => wpAny C.M C.A (pyIter x) (fun it s₂ => wpAny C.M C.A (newList []) (fun acc s₃ =>
   wpAny C.M C.A (newFunctionEnv sc C.env.globals cl [] C.env.qual none .none (some C.env)) (fun cenv s₄ =>
    codeAny C.M C.A (.compStart (.ListComp elt [⟨tgt, iter, ifs, 0⟩] sc pos) 0 it acc { cenv with scope := relabel sc C.env }) (RR acc cenv.locals) s₄) E s₃) E s₂) E s₁) E s := by
 refine hi s _ E I fun J fp h0 s2 St W st X2 hJ kh hfp => ?_
 refine wpAny_newObj_type (wpAny_newFunctionEnv ok.cell (by intro y hy; simp at hy) (fun h4 hns hsb => ?_) ok.fn)
 dsimp only at hns hsb ⊢
 generalize hH3 : s2.heap.push { cls := .type "list", dict := none, data := .seq ([] : List Value).toArray } = H3 at hns hsb ⊢
 have hsize : H3.objs.size = s2.heap.objs.size + 1 := by rw [← hH3, Heap.size_push]
 have DL : s2.heap.objs.size ≠ H3.objs.size := by lia
 have old : Keeps s2.heap h4 := fun b o e => hsb.extBut b o (fun q => ltF (Heap.lt_size e) hsize q) (Heap.get?_push_of_some _ (hH3 ▸ Heap.get?_push_of_some _ e))
 have X4 : Ext C.env.locals s { s2 with heap := h4, toks := s2.toks + ([] : List (Str × Value)).length } := X2.trans (.heap old)
 have X24 : Ext C.env.locals s2 { s2 with heap := h4, toks := s2.toks + ([] : List (Str × Value)).length } := .heap old
 have I2 := I.ext X2
 have back : ∀ {a : Addr}, s2.heap.get? a = none → s.heap.get? a = none := fun {a} h => by
  have : Fresh s2 (.ref a) := fun b q => by cases q; exact h
  exact this.back I X2 a rfl
 have fre : ∀ a, s2.heap.objs.size ≤ a → s.heap.get? a = none := fun a h => back (get?_ge h)
 have plD : h4.PlainList s2.heap.objs.size #[] := ⟨_, hsb.extBut _ _ DL (Heap.get?_push_of_some _ (hH3 ▸ Heap.get?_push_size _ rfl))⟩
 have hDex : ∃ o, h4.get? s2.heap.objs.size = some o := let ⟨n, e⟩ := plD; ⟨_, e⟩
 obtain ⟨oJ, eJ⟩ := W.there 0 s2 st J (W.sub J (.head _))
 have JL : J ≠ H3.objs.size := fun q => ltF (Heap.lt_size eJ) hsize q
 have Lfr : s.heap.get? H3.objs.size = none := fre _ (by lia)
 obtain ⟨I4, K4⟩ := comp_inv (J := J) K ok hcl hfr I X4 Lfr ⟨_, hns⟩ hDex ⟨oJ, old _ _ eJ⟩ DL JL (fre _ (Nat.le_refl _)) hJ
 have st4 : St 0 { s2 with heap := h4, toks := s2.toks + ([] : List (Str × Value)).length } := W.frame 0 _ _ st (fun b _ o e => old b o e) (fun _ _ e => e) id
 obtain ⟨b1, b2⟩ := hb _ K4
 have gnone : ∀ a, s.heap.get? a = none → C.g.get? a = none := fun a h => by
  cases e : C.g.get? a with
  | none => rfl
  | some o => exact none_ (h.symm.trans (I.keep _ _ e))
 have fpex : ∀ b ∈ fp, b < s2.heap.objs.size := fun b hb => by obtain ⟨o, e⟩ := W.there 0 s2 st b hb; exact Heap.lt_size e
 have loop : codeAny C.M C.A (.compLoop (.ListComp elt [⟨tgt, iter, ifs, 0⟩] sc pos) 0 (.ref J) (.ref s2.heap.objs.size) (compEnvC sc cl H3.objs.size C.env)) (RR (.ref s2.heap.objs.size) H3.objs.size)
   { s2 with heap := h4, toks := s2.toks + ([] : List (Str × Value)).length } := by
  refine comp_loop (C := compC C ρ sc cl H3.objs.size s2.heap.objs.size J) (wr := [J]) ⟨W, K.cx.lv.hh, comp_stok K4 ok, compSig_none, rfl, fun b hb => ?_, fun b hb => ?_, fun y c e q => ?_, fun q => ?_, fun q => ?_, b1, b2, hsz⟩ e I4 st4 plD ?_ fun s5 vs hn pl5 rd5 mv5 nr5 => ?_
  ·rcases List.mem_cons.mp hb with rfl | hb
   ·exact .head _
   ·obtain rfl := List.mem_singleton.mp hb; exact .tail _ (.head _)
  ·rcases List.mem_cons.mp hb with rfl | hb
   ·exact gnone _ (fre _ (Nat.le_refl _))
   ·obtain rfl := List.mem_singleton.mp hb; exact gnone _ hJ
  ·have e := hcl (y, c) (mem_of_lookup e)
   obtain ⟨o, eo⟩ := I.cl y c e
   rcases List.mem_cons.mp q with rfl | q
   ·exact none_ ((fre _ (Nat.le_refl _)).symm.trans eo)
   ·obtain rfl := List.mem_singleton.mp q; exact none_ (hJ.symm.trans eo)
  ·have := fpex _ q
   have : H3.objs.size < s2.heap.objs.size := this
   lia
  ·exact Nat.lt_irrefl _ (fpex _ q)
  ·refine fun b o e => ?_
   have e1 := kh b o e
   have m1 : b ∉ J :: (addrs ρ ++ C.hide) := fun q => by exact none_ ((hideAll_none _ q).symm.trans e1)
   have e2 := of_hideAll _ e1
   have lt : (b : Nat) < s2.heap.objs.size := Heap.lt_size e2
   refine hideAll_get _ (old b o e2) fun q => ?_
   rcases List.mem_cons.mp q with q | q
   ·exact ltF lt hsize q
   ·rcases List.mem_append.mp q with q | q
    ·exact (nomatch q)
    ·rcases List.mem_cons.mp q with q | q
     ·exact ltF0 lt q
     ·rcases List.mem_cons.mp q with q | q
      ·exact m1 (q ▸ (.head _))
      ·exact m1 (.tail _ ((List.mem_append.mp q).elim (fun z => List.mem_append_right _ z) fun z => List.mem_append_left _ z))
  ·have exs : ∀ b o, s.heap.get? b = some o → b ∉ (compC C ρ sc cl H3.objs.size s2.heap.objs.size J).env.locals :: s2.heap.objs.size :: [J] := fun b o e q => by
    rcases List.mem_cons.mp q with q | q
    ·rw [q] at e; exact none_ (Lfr.symm.trans ((show (compC C ρ sc cl H3.objs.size s2.heap.objs.size J).env.locals = H3.objs.size from rfl) ▸ e))
    ·rcases List.mem_cons.mp q with q | q
     ·exact none_ ((fre _ (Nat.le_refl _)).symm.trans (q ▸ e))
     ·rw [List.mem_singleton] at q; exact none_ (hJ.symm.trans (q ▸ e))
   have X5 : Ext C.env.locals s s5 := ⟨fun b o hb e => mv5.keep b o (exs b o e) (X4.keep b o hb e), fun m n => by
     have n4 := X4.ns m n
     obtain ⟨o, _, _, e0, _⟩ := n
     exact n4.at' fun o' e' => mv5.keep _ _ (exs _ o e0) e', mv5.os.trans X4.os, fun k z e => mv5.gens k z (fun h => (nomatch h)) (X4.gens k z e), fun h => mv5.bare (X4.bare h)⟩
   obtain ⟨n, e5⟩ := pl5
   refine hRR _ _ s5 (fre _ (Nat.le_refl _)) Lfr DL hn X5 ?_ fun hf => ?_
   rotate_left
   ·obtain ⟨rows, r1, r2, r3⟩ := nr5 hf
    subst r1
    refine ⟨rows, n, e5, r2, fun r hr => ⟨?_, fun q => ?_, fun q => ?_⟩⟩
    ·have : Fresh { s2 with heap := h4, toks := s2.toks + ([] : List (Str × Value)).length } (.ref r) := fun b q => by cases q; exact r3 r hr
     exact this.back I X4 r rfl
    ·obtain ⟨o, e⟩ := hDex
     have := r3 r hr
     rw [q] at this
     have this : h4.get? s2.heap.objs.size = none := this
     exact none_ (this.symm.trans e)
    ·obtain ⟨o, _, _, e, _⟩ := hns
     have := r3 r hr
     rw [q] at this
     have this : h4.get? H3.objs.size = none := this
     exact none_ (this.symm.trans e)
   refine .list (vs := vs) (hideAll_get _ e5 fun q => ?_) (rd5.keeps (keeps_hide_sub fun b o m e => ⟨fun q => ?_, e⟩))
   ·rcases List.mem_cons.mp q with q | q
    ·exact DL q
    ·obtain ⟨o, e⟩ := I.hidLt _ q
     exact none_ ((fre _ (Nat.le_refl _)).symm.trans e)
   ·rcases List.mem_cons.mp q with q | q
    ·exact m (q ▸ (.head _))
    ·exact m (.tail _ (.tail _ (.tail _ ((List.mem_append.mp q).elim (fun z => List.mem_append_right _ z) fun z => List.mem_append_left _ z))))
 exact codeAny_compStart_list loop (W.self 0 _ _ _ st4 loop)
theorem comp_sound {elt tgt iter : Expr} {ifs : List Expr} {sc : Scope} {pos : Pos} {items out : List PyData} {tests : Sig → Option Bool} {eltf : Sig → Option PyData} {Q : Value → Shared → Prop}
  (K : FxOk F C ρ k) (ok : CompOk F.kd sc) (hs : ∀ x, foldedSetIterable iter C.env x = pure x) (hi : EvIt C σ ρ false iter items) (hb : BodyOk F k sc ifs elt tests eltf) (hsz : items.length ≤ 1048576)
  (e : compL (bindTD (okC sc) tgt (compSig F sc σ)) tests eltf items = some out) (I : Inv C σ ρ s)
  (h : ∀ D s', Ext C.env.locals s s' → Rd (C.hh ρ s') (.ref D) (.list out) → Fresh s (.ref D) → Q (.ref D) s') :
  wpAny C.M C.A (eval (.ListComp elt [⟨tgt, iter, ifs, 0⟩] sc pos) C.env) Q E s := by
 obtain ⟨cl, hclos, hcl, hfr⟩ := closure_of (scope := sc) (env := C.env) fun x hx q => K.cell x.1 (ok.free x hx q)
 rw [eval_ListComp]
 refine wpAny_comprehension_free (use := none) rfl hs hclos ok.fn ok.loc (comp_core (fr := false) (RR := fun acc L => compPost C.M C.A E none Q acc L) K ok hcl hfr hi (fun C' K' => ⟨(hb C' K').1, fun τ p hp s Q E I q => (hb C' K').2 τ p hp s Q E I fun u s1 X r _ => q u s1 X r fun z => (nomatch z)⟩) hsz e I fun D L s' hD hL DL hn X rd _ => ?_)
 obtain ⟨m, n⟩ := hn
 refine ⟨m, n, fun h' hs' => h D _ ⟨fun b o hb e => hs'.extBut b o (fun q => ?_) (X.keep b o hb e), fun m' n' => ?_, X.os, X.gens, X.bare⟩ (rd.keeps (keeps_hide_sub fun b o m e => ⟨fun q => m (.tail _ q), hs'.extBut b o (fun q => m (by rw [q]; exact .head _)) e⟩)) fun a q => by cases q; exact hD⟩
 ·exact none_ (hL.symm.trans (q ▸ e))
 ·have n4 := X.ns m' n'
  obtain ⟨o, _, _, e0, _⟩ := n'
  exact n4.sameBut hs' (fun q => by exact none_ (hL.symm.trans (q ▸ e0)))
theorem comp_assign {elt tgt iter : Expr} {ifs : List Expr} {sc : Scope} {pos py spos : Pos} {y : Str} {okk : Str → Bool} {items out : List PyData} {tests : Sig → Option Bool} {eltf : Sig → Option PyData} {Q : Flow → Shared → Prop}
  (K : FxOk F C ρ k) (ok : CompOk F.kd sc) (hs : ∀ x, foldedSetIterable iter C.env x = pure x) (hi : EvIt C σ ρ false iter items) (hb : BodyOk F k sc ifs elt tests eltf) (hsz : items.length ≤ 1048576)
  (e : compL (bindTD (okC sc) tgt (compSig F sc σ)) tests eltf items = some out) (I : Inv C σ ρ s)
  (hsw : swapsWith (.ListComp elt [⟨tgt, iter, ifs, 0⟩] sc pos) (some (.Name y py)) spos.line C.env = pure true) (hy : C.env.kindOf y = some .local) (hno : ρ.find? (·.name == y) = none)
  (h : ∀ s', Inv C (put σ y (.d (.list out))) ρ s' → Step C ρ ρ s s' → Q .next s') :
  wpAny C.M C.A (exec (.Assign [.Name y py] (.ListComp elt [⟨tgt, iter, ifs, 0⟩] sc pos) spos) C.env) Q E s := by
 obtain ⟨cl, hclos, hcl, hfr⟩ := closure_of (scope := sc) (env := C.env) fun x hx q => K.cell x.1 (ok.free x hx q)
 rw [exec_Assign_Name_used _ _ _ _ hsw]
 refine wpAny_bind (wpAny_standAt (wpAny_bind ?_))
 show wpAny _ C.A (do let _ ← comprehension (.ListComp elt [⟨tgt, iter, ifs, 0⟩] sc pos) sc C.env _ (newList []) false (eval iter C.env) (some (assign (.Name y py) C.env))) _ _ s
 refine wpAny_bind (wpAny_mono (wpAny_comprehension_free (use := some (assign (.Name y py) C.env)) (Q := fun _ s' => Q .next s') rfl hs hclos ok.fn ok.loc
  (comp_core (fr := false) (RR := fun acc L => compPost C.M C.A E (some (assign (.Name y py) C.env)) (fun _ s' => Q .next s') acc L) K ok hcl hfr hi (fun C' K' => ⟨(hb C' K').1, fun τ p hp s Q E I q => (hb C' K').2 τ p hp s Q E I fun u s1 X r _ => q u s1 X r fun z => (nomatch z)⟩) hsz e I fun D L s1 hD hL DL hn X rd _ => ?_)) (fun _ s' hq => wpAny_pure (wpAny_pure hq)) fun _ _ e => e)
 obtain ⟨mL, nL⟩ := hn
 obtain ⟨m, n0⟩ := I.ns
 have n := X.ns m n0
 have LL : C.env.locals ≠ L := fun q => by
  obtain ⟨o, _, _, e0, _⟩ := n0
  exact none_ (hL.symm.trans (q ▸ e0))
 show wpAny _ C.A (assign (.Name y py) C.env (.ref D)) _ _ _
 refine wpAny_assign_Name (wpAny_storeName_local hy n (fun h2 n2 hs2 => ⟨mL, nL.sameBut hs2 (Ne.symm LL), fun h3 hs3 => ?_⟩) (K.cx.fn ▸ rfl))
 have n3 : h3.Ns C.env.locals (fun x => if x = y then some (.ref D) else m x) := n2.sameBut hs3 LL
 have keep : ∀ b o, b ≠ C.env.locals → s.heap.get? b = some o → h3.get? b = some o := fun b o q e => hs3.extBut b o (fun z => by exact none_ (hL.symm.trans (z ▸ e))) (hs2.extBut b o q (X.keep b o q e))
 obtain ⟨I3, S3⟩ := I.put_local' (v := .d (.list out)) (s' := { s1 with heap := h3, toks := s1.toks + 1 }) hy hno (rd.keeps (keeps_hide_sub fun b o m e => ⟨fun q => m (.tail _ q), hs3.extBut b o (fun q => m (q ▸ (.head _))) (hs2.extBut b o (fun q => m (q ▸ (.tail _ (List.mem_append_right _ (.head _))))) e)⟩)) n0 n3 keep X.os X.gens X.bare
 exact h _ I3 S3
end
end
section
open PySem.Calls
noncomputable def EvP (C : Cx) (σ : Sig) (ρ : List Own) (e : Option Expr) (a : Option Nat) : Prop := ∀ (s : Shared) (Q : Value → Shared → Prop) (E : Value → Shared → Prop), Inv C σ ρ s →
 (∀ u s', Ext C.env.locals s s' → OptIs u a → Q u s') → wpAny C.M C.A (evalPart e C.env) Q E s
noncomputable def Evb (C : Cx) (σ : Sig) (ρ : List Own) (op : BoolOp) (es : List Expr) (b : Bool) : Prop := ∀ (s : Shared) (Q : Bool → Shared → Prop) (E : Value → Shared → Prop), Inv C σ ρ s →
 (∀ s', Ext C.env.locals s s' → Q b s') → wpAny C.M C.A (allTrue op es C.env) Q E s
structure SE (n : Nat) : Prop where
 ee : ∀ {C F ρ σ e v k}, FxOk F C ρ k → Mine.ee n F e σ = some v → Evs C σ ρ e v
 eo : ∀ {C F ρ σ e v k}, FxOk F C ρ k → Mine.eo n F e σ = some v → Evo C σ ρ e v
 et : ∀ {C F ρ σ e b k}, FxOk F C ρ k → Mine.et n F e σ = some b → Evt C σ ρ e b
 etB : ∀ {C F ρ σ op es b k}, FxOk F C ρ k → Mine.etB n F op es σ = some b → Evb C σ ρ op es b
 etL : ∀ {C F σ es b k}, FxOk F C [] k → Mine.etL n F es σ = some b → Evts C σ es b
 eopt : ∀ {C F ρ σ e b k}, FxOk F C ρ k → Mine.eopt n F e σ = some b → EvP C σ ρ e b
 eeL : ∀ {C F ρ σ es ps k}, FxOk F C ρ k → Mine.eeL n F es σ = some ps → noStars es ∧ es.length = ps.length ∧ EvL C σ ρ es fun s us => RdL (C.hh ρ s) us ps
 eoL : ∀ {C F ρ σ es ps k}, FxOk F C ρ k → Mine.eoL n F es σ = some ps → noStars es ∧ EvL C σ ρ es fun s us => RdOs C ρ s us ps
 exL : ∀ {C F ρ σ es ps k}, FxOk F C ρ k → Mine.exL n F es σ = some ps → noStars es ∧ EvL C σ ρ es fun s us => RdXs C.G (C.hh ρ s) us ps
 ei : ∀ {C F ρ σ c e ps k}, FxOk F C ρ k → Mine.ei n c F e σ = some ps → EvIt C σ ρ c e ps ∧ ∀ x, foldedSetIterable e C.env x = pure x
 ecomp : ∀ {C F ρ σ elt tgt iter ifs sc out k}, FxOk F C ρ k → Mine.ecomp n F elt tgt iter ifs sc σ = some out → CompOk F.kd sc ∧ ∃ (items : List PyData) (tests : Sig → Option Bool) (eltf : Sig → Option PyData),
  (∀ x, foldedSetIterable iter C.env x = pure x) ∧ EvIt C σ ρ false iter items ∧ BodyOk F k sc ifs elt tests eltf ∧ items.length ≤ 1048576 ∧ compL (bindTD (okC sc) tgt (compSig F sc σ)) tests eltf items = some out
 ecall : ∀ {C F ρ σ f args v k}, FxOk F C ρ k → F.kd f = some .globalImplicit → okName f = true → Mine.ecall n F f args σ = some v → ∀ np pos, Evs C σ ρ (.Call (.Name f np) args [] pos) v
section
variable {C : Cx} {σ σ0 τ : Sig} {ρ : List Own} {s s' : Shared} {E : Value → Shared → Prop} {k n : Nat} {F : Fx}
noncomputable def oddE (e : Expr) : Bool := decide (e.ctorIdx = 22 ∨ e.ctorIdx = 7 ∨ e.ctorIdx = 26 ∨ e.ctorIdx = 1 ∨ e.ctorIdx = 4)
theorem ee_odd {e : Expr} {v : X} (h : Mine.ee n F e σ = some v) : oddE e = false := by
 cases n with
 | zero => exact none_ h
 | succ n => cases e <;> first | rfl | exact none_ h
theorem eo_odd {e : Expr} {v : X} (h : Mine.eo n F e σ = some v) : oddE e = false := by
 cases n with
 | zero => exact none_ h
 | succ n =>
  exact optE h (fun x h1 _ => (nameV_ h1).elim fun p e1 => e1 ▸ rfl) fun _ h => optE h (fun y h2 _ => bndE h2 fun s h3 _ => (subV_ h3).elim fun p e1 => e1 ▸ rfl) fun _ h => ee_odd h
theorem noStar_of {e : Expr} (h : oddE e = false) : noStar e = true := decide_eq_true fun q => absurd (of_decide_eq_false h) (fun z => z (.inl q))
theorem noSet_of {e : Expr} {op : CmpOp} (h : oddE e = false) : behindInMarks op e = false := by
 have h := of_decide_eq_false h
 cases e <;> first | rfl | exact absurd (.inr (.inl rfl)) h
theorem ee_noStar {e : Expr} {v : X} (h : Mine.ee n F e σ = some v) : noStar e = true := noStar_of (ee_odd h)
theorem eo_noStar {e : Expr} {v : X} (h : Mine.eo n F e σ = some v) : noStar e = true := noStar_of (eo_odd h)
theorem eo_noSet {e : Expr} {v : X} {op : CmpOp} (h : Mine.eo n F e σ = some v) : behindInMarks op e = false := noSet_of (eo_odd h)
theorem base_ok {o : Expr} {a : Str} {env : Env} {w : Sem Value} (h : okBase o = true) : attributeBase o a env w = w := by
 by_cases q : o.ctorIdx = 16
 ·refine Expr.Call.elim (motive_1 := fun o => okBase o = true → attributeBase o a env w = w) o q (fun f as ks p h => ?_) h
  by_cases q : f.ctorIdx = 23
  ·refine Expr.Name.elim (motive_1 := fun f => okBase (.Call f as ks p) = true → attributeBase (.Call f as ks p) a env w = w) f q (fun x r h => ?_) h
   cases as with
   | cons => rfl
   | nil => cases ks with
    | cons => rfl
    | nil => exact Bool.noConfusion h
  ·cases f <;> first | rfl | exact absurd rfl q
 ·cases o <;> first | rfl | exact absurd rfl q
theorem bin_ev {l r : Expr} {op : Operator} {pos : Pos} {a b d : PyData} (hl : Evo C σ ρ l (.d a)) (hr : Evo C σ ρ r (.d b)) (e : binD op a b = some d) : Evs C σ ρ (.BinOp l op r pos) (.d d) := fun s Q E I h =>
 wpAny_BinOp (hl s _ _ I fun u s1 X1 r1 => hr s1 _ _ (I.ext X1) fun v s2 X2 r2 =>
  bin_sound e ((I.ext X1).ext X2) (r1.ext (I.ext X1) X2) r2 fun x s3 X3 rd fr => h x s3 ((X1.trans X2).trans X3) rd fun _ => fr.back I (X1.trans X2))
theorem cmp_ev {l r : Expr} {op : CmpOp} {pos : Pos} {a b : PyData} {d : Bool} (K : CxOk C k) (hl : Evo C σ ρ l (.d a)) (hr : Evo C σ ρ r (.d b)) (hm : behindInMarks op r = false) (e : cmpD op a b = some d) : Evs C σ ρ (.Compare l [op] [r] pos) (.d (.bool d)) := fun s Q E I h =>
 wpAny_Compare1 (hl s _ _ I fun u s1 X1 r1 => hr s1 _ _ (I.ext X1) fun v s2 X2 r2 =>
  cmp_sound e K ((I.ext X1).ext X2) (r1.ext (I.ext X1) X2) r2 fun s3 X3 => h _ s3 ((X1.trans X2).trans X3) (.bool _) fun z => (nomatch z)) hm
theorem cmp_et {l r : Expr} {op : CmpOp} {pos : Pos} {a b : PyData} {d : Bool} (K : CxOk C k) (hl : Evo C σ ρ l (.d a)) (hr : Evo C σ ρ r (.d b)) (hm : behindInMarks op r = false) (e : cmpD op a b = some d) : Evt C σ ρ (.Compare l [op] [r] pos) d := fun s Q E I h =>
 wpAny_isTrue_Compare1 (hl s _ _ I fun u s1 X1 r1 => hr s1 _ _ (I.ext X1) fun v s2 X2 r2 =>
  cmp_sound e K ((I.ext X1).ext X2) (r1.ext (I.ext X1) X2) r2 fun s3 X3 => wpAny_truthy_bool (h s3 ((X1.trans X2).trans X3))) hm
theorem truth_et {e : Expr} {p : PyData} {d : Bool} (he : Evs C σ ρ e (.d p)) (ht : truthD p = some d) (hw : isTrue e C.env (eval e C.env) = (do let v ← eval e C.env; standAt e.pos; holding [v] (truthy v))) : Evt C σ ρ e d := fun s Q E I h =>
 wpAny_isTrue_value (he s _ _ I fun u s1 X1 r1 _ => truth_sound (C := C) (ρ := ρ) ht (.inl r1) fun s2 X2 => h s2 (X1.trans X2)) hw
theorem Sub_.use {v i : Expr} {u w : Value} {Q : Value → Shared → Prop} (h : Sub_ s u ∧ wpAny C.M C.A (getItem u w) Q E s) : wpAny C.M C.A (subscriptTail v i u w) Q E s := by
 obtain ⟨⟨T, id, hT, hl⟩, g⟩ := h
 obtain ⟨ops, ho⟩ := subscripted_eq (sl := i) (o := u) (i := w)
 exact tail_any hT hl g ho
theorem sub_ev {v i : Expr} {pos : Pos} {a b d : PyData} (hv : Evo C σ ρ v (.d a)) (hi : Evs C σ ρ i (.d b)) (e : subD a b = some d) : Evs C σ ρ (.Subscript v i pos) (.d d) := fun s Q E I h =>
 Subscript_ (hv s _ _ I fun u s1 X1 r1 => hi s1 _ _ (I.ext X1) fun w s2 X2 r2 _ => Sub_.use (getItem_sound e (r1.ext (I.ext X1) X2) (.inl r2) fun x s3 X3 rd => h x s3 ((X1.trans X2).trans X3) rd fun z => (nomatch z)))
theorem slice_ev {v : Expr} {lo up : Option Expr} {pos sp : Pos} {p d : PyData} {a b : Option Nat} (hv : Evo C σ ρ v (.d p)) (ha : EvP C σ ρ lo a) (hb : EvP C σ ρ up b) (e : sliceD p a b = some d) : Evs C σ ρ (.Subscript v (.Slice lo up none sp) pos) (.d d) := fun s Q E I h =>
 Subscript_ (hv s _ _ I fun u s1 X1 r1 => wpAny_Slice (ha s1 _ _ (I.ext X1) fun x s2 X2 r2 => hb s2 _ _ ((I.ext X1).ext X2) fun y s3 X3 r3 => wpAny_evalPart_none (by
  have X4 : Ext C.env.locals s3 { s3 with heap := s3.heap.push { cls := .type "slice", data := .fields #[x, y, .none] } } := .heap' keeps_push
  have X := X2.trans X3
  exact Sub_.use (slice_sound e (((I.ext X1).ext X).ext X4) (r1.ext (I.ext X1) (X.trans X4)) (Heap.get?_push_size _ rfl) r2 r3 fun x s5 X5 rd => h x s5 (((X1.trans X).trans X4).trans X5) rd fun z => (nomatch z)))))
theorem if_ev {t b o : Expr} {pos : Pos} {c : Bool} {v : X} (ht : Evt C σ ρ t c) (hb : c = true → Evs C σ ρ b v) (ho : c = false → Evs C σ ρ o v) : Evs C σ ρ (.IfExp t b o pos) v := fun s Q E I h =>
 wpAny_IfExp (ht s _ _ I fun s1 X1 => by
  cases c with
  | true => exact (if_pos rfl) ▸ (hb rfl s1 _ _ (I.ext X1) fun u s2 X2 r _ => h u s2 (X1.trans X2) r fun z => (nomatch z))
  | false => rw [if_neg (by decide)]; exact ho rfl s1 _ _ (I.ext X1) fun u s2 X2 r _ => h u s2 (X1.trans X2) r fun z => (nomatch z))
theorem list_ev {es : List Expr} {pos : Pos} {ps : List PyData} (he : EvL C σ ρ es fun s us => RdL (C.hh ρ s) us ps) (hsz : ps.length ≤ 1048576) : Evs C σ ρ (.List es pos) (.d (.list ps)) := fun s Q E I h =>
 List_ (he pos s _ _ I fun us s1 X1 r1 => wpAny_newList (by
  have X2 : Ext C.env.locals s1 { s1 with heap := s1.heap.push { cls := .type "list", data := .seq us.toArray } } := .heap' keeps_push
  exact h _ _ (X1.trans X2) (seen_list (I.ext X1) (Nat.le_refl _) (Heap.get?_push_size _ rfl) (rdl_ext r1 X2)) fun _ => Fresh.size.back I X1) (by rw [r1.length, sizeLine_is]; exact wk ‹_› rfl))
theorem tuple_ev {es : List Expr} {k : Nat} {pos : Pos} {ps : List PyData} (he : EvL C σ ρ es fun s us => RdL (C.hh ρ s) us ps) (hsz : ps.length ≤ 1048576) : Evs C σ ρ (.Tuple es k pos) (.d (.tuple ps)) := fun s Q E I h =>
 Tuple_ (he pos s _ _ I fun us s1 X1 r1 => wpAny_newTuple (by
  have X2 : Ext C.env.locals s1 { s1 with heap := s1.heap.push { cls := .type "tuple", data := .seq us.toArray } } := .heap' keeps_push
  exact h _ _ (X1.trans X2) (seen_tuple (I.ext X1) (Nat.le_refl _) (Heap.get?_push_size _ rfl) (rdl_ext r1 X2)) fun z => (nomatch z)) (by rw [r1.length, sizeLine_is]; exact wk ‹_› rfl))
theorem const_ev {c : Const} {u : Nat} {pos : Pos} {d : PyData} (e : constD c = some d) : Evs C σ ρ (.Constant c u pos) (.d d) := fun s Q E I h => by
 cases c with
 | none => exact wpAny_Constant_none (h _ _ .refl (.of e .none) fun z => (nomatch z))
 | bool b => exact wpAny_Constant_bool (h _ _ .refl (.of e (.bool _)) fun z => (nomatch z))
 | int i => exact wpAny_Constant_int (h _ _ .toks (.of e (.int _ _)) fun z => (nomatch z))
 | str x => exact ifE e fun _ e => wpAny_Constant_str (h _ _ .toks (.of e (.str _ _)) fun z => (nomatch z))
 | _ => exact none_ e
theorem neg_ev {v : Expr} {pos : Pos} {i : Int} (hv : Evs C σ ρ v (.d (.int i))) : Evs C σ ρ (.UnaryOp .USub v pos) (.d (.int (-i))) := fun s Q E I h =>
 wpAny_UnaryOp (hv s _ _ I fun u s1 X1 r1 _ => by
  obtain ⟨t, rfl⟩ := Rd.int_ r1
  exact PyProof.Rows.neg_int (h _ _ (X1.trans .toks) (.int _ _) fun z => (nomatch z)))
theorem name_ev {x : Str} {p : Pos} {v : X} (K : FxOk F C ρ k) (ok : okName x = true) (ho : (F.own.contains x || F.own2.contains x) = false) (e : σ x = some v) : Evs C σ ρ (.Name x p) v := fun s Q E I h => by
 obtain ⟨u, h1, h2⟩ := I.vars x v e
 rw [own_none K ho] at h2
 exact var_load K.cx ok h1 (h u s .refl h2 fun z => (nomatch z))
theorem name_eo {x : Str} {p : Pos} {v : X} (K : FxOk F C ρ k) (ok : okName x = true) (ho : F.own.contains x = true) (e : σ x = some v) : Evo C σ ρ (.Name x p) v := fun s Q E I h => by
 obtain ⟨u, h1, h2⟩ := I.vars x v e
 refine var_load K.cx ok h1 (h u s .refl ?_)
 cases q : ρ.find? (·.name == x) with
 | none => rw [q] at h2; exact .inl h2
 | some o =>
  rw [q] at h2
  have hn := own_name q
  have hk := K.own o (find_mem q)
  obtain ⟨e1, l, vs, e2, pl, r⟩ := h2
  cases z : o.two with
  | true => rw [z, hn, ho] at hk; exact absurd hk.1 (by decide)
  | false => rw [z] at r; exact .inr ⟨_, l, vs, e1, e2, pl, r.2, mem_addrs (find_mem q) _ (.head _)⟩
end
end
section
open PySem.Calls
section
variable {C : Cx} {σ σ0 τ : Sig} {ρ : List Own} {s s' : Shared} {E : Value → Shared → Prop} {k n : Nat} {F : Fx}
theorem evl_nil {P : Shared → List Value → Prop} (h : ∀ s, P s []) : EvL C σ ρ [] P := fun pos s Q E I q => spliced_nil (q [] s .refl (h s))
theorem evl_cons {e : Expr} {r : List Expr} {P P' : Shared → List Value → Prop} {R : Shared → Value → Prop} (hn : noStar e = true)
  (he : ∀ (s : Shared) (Q E : Value → Shared → Prop), Inv C σ ρ s → (∀ u s', Ext C.env.locals s s' → R s' u → Q u s') → wpAny C.M C.A (eval e C.env) Q E s)
  (hr : EvL C σ ρ r P) (up : ∀ s s' u us, Inv C σ ρ s → Ext C.env.locals s s' → R s u → P s' us → P' s' (u :: us)) : EvL C σ ρ (e :: r) P' := fun pos s Q E I q => by
 rw [star_cons hn, back_cons]
 exact spliced_cons (he s _ _ I fun u s1 X1 r1 => hr pos s1 _ _ (I.ext X1) fun us s2 X2 r2 => q _ s2 (X1.trans X2) (up s1 s2 u us (I.ext X1) X2 r1 r2))
theorem stars_cons {e : Expr} {r : List Expr} (h : noStar e = true) (hr : noStars r) : noStars (e :: r) := fun x hx => by
 rcases List.mem_cons.mp hx with q | q
 ·exact q ▸ h
 ·exact hr x q
theorem stars_nil : noStars [] := fun _ h => nomatch h
theorem step_eeL (S : SE n) {es : List Expr} {ps : List PyData} (K : FxOk F C ρ k) (h : Mine.eeL (n + 1) F es σ = some ps) : noStars es ∧ es.length = ps.length ∧ EvL C σ ρ es fun s us => RdL (C.hh ρ s) us ps := by
 cases es with
 | nil => exact sm_ h ▸ ⟨stars_nil, rfl, evl_nil fun _ => .nil⟩
 | cons e r =>
  refine bndE h fun p h1 h => ?_
  obtain ⟨l, h2, rfl⟩ := mpd h
  have h1 := dOd h1
  obtain ⟨a, b, c⟩ := S.eeL K h2
  exact ⟨stars_cons (ee_noStar h1) a, congrArg Nat.succ b, evl_cons (R := fun s u => Rd (C.hh ρ s) u p) (ee_noStar h1) (fun s Q E I q => S.ee K h1 s Q E I fun u s1 X1 r1 _ => q u s1 X1 r1) c fun s s' u us I X r1 r2 => .cons (Rd.keeps (hh_keeps X) r1) r2⟩
theorem step_eoL (S : SE n) {es : List Expr} {ps : List PyData} (K : FxOk F C ρ k) (h : Mine.eoL (n + 1) F es σ = some ps) : noStars es ∧ EvL C σ ρ es fun s us => RdOs C ρ s us ps := by
 cases es with
 | nil => exact sm_ h ▸ ⟨stars_nil, evl_nil fun _ => .nil⟩
 | cons e r =>
  refine bndE h fun p h1 h => ?_
  obtain ⟨l, h2, rfl⟩ := mpd h
  have h1 := dOd h1
  obtain ⟨a, c⟩ := S.eoL K h2
  exact ⟨stars_cons (eo_noStar h1) a, evl_cons (R := fun s u => RdO C ρ s u (.d p)) (eo_noStar h1) (fun s Q E I q => S.eo K h1 s Q E I fun u s1 X1 r1 => q u s1 X1 r1) c fun s s' u us I X r1 r2 => .cons (r1.ext I X) r2⟩
theorem step_exL (S : SE n) {es : List Expr} {ps : List X} (K : FxOk F C ρ k) (h : Mine.exL (n + 1) F es σ = some ps) : noStars es ∧ EvL C σ ρ es fun s us => RdXs C.G (C.hh ρ s) us ps := by
 cases es with
 | nil => exact sm_ h ▸ ⟨stars_nil, evl_nil fun _ => .nil⟩
 | cons e r =>
  refine bndE h fun p h1 h => ?_
  obtain ⟨l, h2, rfl⟩ := mpd h
  obtain ⟨a, c⟩ := S.exL K h2
  exact ⟨stars_cons (ee_noStar h1) a, evl_cons (R := fun s u => RdX C.G (C.hh ρ s) u p) (ee_noStar h1) (fun s Q E I q => S.ee K h1 s Q E I fun u s1 X1 r1 _ => q u s1 X1 r1) c fun s s' u us I X r1 r2 => .cons (r1.keeps (hh_keeps X)) r2⟩
theorem opt_is {p : PyData} {a : Option Nat} {u : Value} {h : Heap} (e : optV p = some a) (r : Rd h u p) : OptIs u a := by
 cases p with
 | int i =>
  refine ifE e fun hi e => ?_
  obtain ⟨t, rfl⟩ := r.int_
  exact .inr ⟨i.toNat, t, by rw [Int.toNat_of_nonneg hi.1], (sm_ e).symm⟩
 | none => exact .inl ⟨r.none_, (sm_ e).symm⟩
 | _ => exact none_ e
theorem step_eopt (S : SE n) {e : Option Expr} {a : Option Nat} (K : FxOk F C ρ k) (h : Mine.eopt (n + 1) F e σ = some a) : EvP C σ ρ e a := by
 cases e with
 | none => exact fun s Q E I q => wpAny_evalPart_none (q _ s .refl (.inl ⟨rfl, (sm_ h).symm⟩))
 | some e => exact bndE h fun p h1 h2 s Q E I q => wpAny_evalPart_some (S.ee K (dOd h1) s _ _ I fun u s1 X1 r1 _ => q _ s1 X1 (opt_is h2 r1))
theorem step_etB (S : SE n) {op : BoolOp} {es : List Expr} {b : Bool} (K : FxOk F C ρ k) (h : Mine.etB (n + 1) F op es σ = some b) : Evb C σ ρ op es b := fun s Q E I q => by
 cases es with
 | nil => obtain rfl := sm_ h; cases op <;> exact wpAny_pure (q s .refl)
 | cons e r =>
  refine bndE h fun c h1 h => ?_
  cases op with
  | And =>
   refine wpAny_allTrue_And_cons (S.et K h1 s _ _ I fun s1 X1 => ?_)
   cases c with
   | true => exact S.etB K h s1 _ _ (I.ext X1) fun s2 X2 => q s2 (X1.trans X2)
   | false => obtain rfl := sm_ h; exact q s1 X1
  | Or =>
   refine wpAny_allTrue_Or_cons (S.et K h1 s _ _ I fun s1 X1 => ?_)
   cases c with
   | true => obtain rfl := sm_ h; exact q s1 X1
   | false => exact S.etB K h s1 _ _ (I.ext X1) fun s2 X2 => q s2 (X1.trans X2)
theorem step_etL (S : SE n) {es : List Expr} {b : Bool} (K : FxOk F C [] k) (h : Mine.etL (n + 1) F es σ = some b) : Evts C σ es b := fun s Q E I q => by
 cases es with
 | nil => exact wpAny_tests_nil (sm_ h ▸ q s .refl)
 | cons e r => cases r with
  | nil => exact wpAny_tests_one (S.et K h s _ _ I q)
  | cons => exact none_ h
theorem step_et (S : SE n) {e : Expr} {b : Bool} (K : FxOk F C ρ k) (h : Mine.et (n + 1) F e σ = some b) : Evt C σ ρ e b := by
 refine optE h (fun c h1 h => ?_) fun h1 h => optE h (fun c h2 h => ?_) fun h2 h => ?_
 ·obtain ⟨p, rfl⟩ := boolE_ h1
  exact fun s Q E I q => wpAny_isTrue_BoolOp (S.etB K h s _ _ I q)
 ·obtain ⟨p, rfl⟩ := cmpE_ h2
  exact bndE h fun a q1 h => bndE h fun b q2 h => cmp_et K.cx (S.eo K (dOd q1)) (S.eo K (dOd q2)) (eo_noSet (dOd q2)) h
 ·skip
  refine ifE h fun q h => bndE h fun p q1 h => truth_et (S.ee K (dOd q1)) h ?_
  rcases q with q | q
  ·exact Expr.Name.elim (motive_1 := fun e => isTrue e C.env (eval e C.env) = (do let v ← eval e C.env; standAt e.pos; holding [v] (truthy v))) e q fun _ _ => rfl
  ·exact Expr.Call.elim (motive_1 := fun e => isTrue e C.env (eval e C.env) = (do let v ← eval e C.env; standAt e.pos; holding [v] (truthy v))) e q fun _ _ _ _ => rfl
theorem ms_name {p : Pos} {x : Str} : makesList (.Name x p) = false := rfl
theorem evo_of {e : Expr} {v : X} (h : Evs C σ ρ e v) : Evo C σ ρ e v := fun s Q E I q => h s Q E I fun u s1 X1 r1 _ => q u s1 X1 (.inl r1)
theorem sub2_eo {x : Str} {p pos : Pos} {i : Expr} {a b d : PyData} (K : FxOk F C ρ k) (ok : okName x = true) (ho : F.own2.contains x = true) (e : σ x = some (.d a)) (hi : Evs C σ ρ i (.d b)) (hs : subD a b = some d) : Evo C σ ρ (.Subscript (.Name x p) i pos) (.d d) := fun s Q E I h => by
 obtain ⟨u, h1, h2⟩ := I.vars x _ e
 refine Subscript_ (var_load K.cx ok h1 ?_)
 cases q : ρ.find? (·.name == x) with
 | none =>
  rw [q] at h2
  exact hi s _ _ I fun w s2 X2 r2 _ => Sub_.use (getItem_sound hs (RdO.ext (.inl h2) I X2) (.inl r2) fun x s3 X3 rd => h x s3 (X2.trans X3) (.inl rd))
 | some o =>
  rw [q] at h2
  have hk := K.own o (find_mem q)
  obtain ⟨e1, l, vs, e2, pl, r⟩ := h2
  obtain rfl : a = .list l := by injection e2
  cases z : o.two with
  | false => rw [z, own_name q, ho] at hk; exact Bool.noConfusion hk.2
  | true =>
   rw [z] at r
   obtain ⟨rv, rl, rr⟩ := r
   refine hi s _ _ I fun w s2 X2 r2 _ => ?_
   have keepA : ∀ a ∈ o.addrs, ∀ b, s.heap.get? a = some b → s2.heap.get? a = some b := fun a ha b e => X2.keep a b (I.notL a (List.mem_append_left _ (mem_addrs (find_mem q) a ha))) e
   refine bndE hs fun j hj hs => ifE hs fun hsh hs => ?_
   have hsh := short_le hsh
   rw [intV_ hj] at r2
   obtain ⟨t, rfl⟩ := r2.int_
   have hs : at? l j = some d := hs
   obtain ⟨nn, pl2⟩ := Heap.PlainList.at' (keepA _ (.head _)) pl
   obtain ⟨jj, j1, j2, j3⟩ := at_some hs
   have hra := List.getElem?_eq_getElem (rl.symm ▸ (List.getElem?_eq_some_iff.mp j2).1 : jj < o.rows.length)
   generalize o.rows[jj]'_ = ra at hra
   obtain ⟨m, us, rfl, p5, r5⟩ := rr jj ra d hra j2
   have hv : vs[jj]? = some (.ref ra) := by rw [rv, List.getElem?_map, hra]; rfl
   have hlen : vs.length = l.length := by rw [rv, List.length_map, rl]
   have hm := List.mem_of_getElem? hra
   have fin : Q (.ref ra) s2 := h _ s2 X2 (.inr ⟨ra, m, us, rfl, rfl, Heap.PlainList.at' (keepA _ (.tail _ hm)) p5, rdl_ext r5 X2, mem_addrs (find_mem q) _ (.tail _ hm)⟩)
   have hlist : s2.heap.IsList o.at_ vs.toArray := ⟨_, pl2, rfl, nn, rfl⟩
   rw [e1]
   refine Sub_.use ⟨⟨_, _, hlist.typeIs, slot_list_getitem.lookup⟩, ?_⟩
   clear hra hm p5 r5 rr rv
   by_cases h0 : 0 ≤ j
   ·obtain rfl := j3 h0
    exact wpAny_getItem_list hlist h0 (by lia) (by simpa using hv) fin
   ·obtain ⟨g1, g2⟩ := neg_at h0 hs j1
    refine wpAny_getItem_list_neg hlist (by lia) (by rw [List.size_toArray, hlen]; assumption) (by exact naC ‹_›) ?_ fin
    rw [List.size_toArray, hlen, g2]; simpa using hv
end
end
section
open PySem.Calls
section
variable {C : Cx} {σ σ0 τ : Sig} {ρ : List Own} {s s' : Shared} {E : Value → Shared → Prop} {k n : Nat} {F : Fx}
theorem bval_of {f : Str} {l : List PyData} {p : PyData} (h : builtD f l = some p) : ∃ v, bval f = some v ∧ ((∃ id, v = .builtin id) ∨ ∃ id, v = .type id) := by
 have y : ∀ {k : Str} {v : Value}, bval k = some v → ((∃ id, v = .builtin id) ∨ ∃ id, v = .type id) → f = k → ∃ v, bval f = some v ∧ ((∃ id, v = .builtin id) ∨ ∃ id, v = .type id) := fun e h q => ⟨_, q ▸ e, h⟩
 exact pick_ h (fun q _ => y rfl (.inl ⟨_, rfl⟩) q) fun _ h => pick_ h (fun q _ => y rfl (.inl ⟨_, rfl⟩) q) fun _ h => pick_ h (fun q _ => y rfl (.inl ⟨_, rfl⟩) q) fun _ h =>
  pick_ h (fun q _ => y rfl (.inr ⟨_, rfl⟩) q) fun _ h => pick_ h (fun q _ => y rfl (.inl ⟨_, rfl⟩) q) fun _ h => none_ h
theorem ms_call {f : Str} {np pos : Pos} {args : List Expr} {ks : List Keyword} : makesList (.Call (.Name f np) args ks pos) = false := rfl
theorem ex_hid (I : Inv C σ ρ s) : ∀ a ∈ addrs ρ ++ C.hide, ∃ o, s.heap.get? a = some o := I.hidLt
theorem fn_ev {f : Str} {args : List Expr} {np pos : Pos} {l : List X} {v : X} (K : FxOk F C ρ k) (hk : F.kd f = some .globalImplicit) (ok : okName f = true) (hn : noStars args) (ha : EvL C σ ρ args fun s us => RdXs C.G (C.hh ρ s) us l) (e : F.T.fn f l = some v) :
  Evs C σ ρ (.Call (.Name f np) args [] pos) v := fun s Q E I h => by
 obtain ⟨a, h1, h2, h3⟩ := K.T.fn f l v e
 refine wpAny_Call_ofName (glob_load K.cx ok (by rw [← K.kd]; exact hk) I (.inl h1) ?_)
 refine args_K hn h2 (ha pos s _ _ I fun us s1 X1 r1 => ?_)
 have I1 := I.ext X1
 refine ⟨I1.gdH.kin, h3 C.A (addrs ρ ++ C.hide) s1 us l v _ _ e K.cx.lv I1.gdH I1.bare I1.hidLt r1 fun u s2 X2 r2 => ?_⟩
 exact h u s2 (X1.trans X2.ext) r2 fun z => (nomatch z)
theorem built_ev {f : Str} {args : List Expr} {np pos : Pos} {l : List PyData} {p : PyData} (K : FxOk F C ρ k) (hk : F.kd f = some .globalImplicit) (ok : okName f = true) (hn : noStars args) (ha : EvL C σ ρ args fun s us => RdOs C ρ s us l) (e : builtD f l = some p) :
  Evs C σ ρ (.Call (.Name f np) args [] pos) (.d p) := fun s Q E I h => by
 obtain ⟨fv, h1, h2⟩ := bval_of e
 obtain ⟨b1, b2⟩ := K.T.bi f fv h1
 refine wpAny_Call_ofName (glob_load K.cx ok (by rw [← K.kd]; exact hk) I (.inr ⟨b1, b2⟩) ?_)
 have main : wpAny C.M C.A (spliced (backTo pos (starEach args C.env))) (fun vs s1 => wpAny C.M C.A (call fv ([] ++ vs) []) Q E s1) E s := ha pos s _ _ I fun us s1 X1 r1 =>
  builtin_sound e h1 K.cx (I.ext X1) r1 fun x s2 X2 rd => h x s2 (X1.trans X2) rd fun z => (nomatch z)
 rcases h2 with ⟨id, rfl⟩ | ⟨id, rfl⟩
 ·exact args_builtin hn main
 ·exact args_type hn main
theorem gen_ev {g : Str} {a : Expr} {np gp ip pos : Pos} {p : PyData} {l : List PyData} (K : FxOk F C ρ k) (hk : F.kd "list" = some .globalImplicit) (ok : okName g = true) (hg : F.kd g = some .globalImplicit) (hn : noStar a = true) (ha : Evs C σ ρ a (.d p)) (e : F.T.gen g p = some l) :
  Evs C σ ρ (.Call (.Name "list" np) [.Call (.Name g gp) [a] [] ip] [] pos) (.d (.list l)) := fun s Q E I h => by
 obtain ⟨b1, b2⟩ := K.T.bi "list" (.type "list") (by decide +kernel)
 obtain ⟨ag, g1, g2, g3, _⟩ := K.T.gen g p l e
 refine wpAny_Call_ofName (glob_load K.cx (by decide +kernel) (by rw [← K.kd]; exact hk) I (.inr ⟨b1, b2⟩) ?_)
 refine args_type (fun e he => by obtain rfl := List.mem_singleton.mp he; rfl) ?_
 rw [star_cons (by rfl), back_cons]
 refine spliced_cons (wpAny_Call_ofName (glob_load K.cx ok (by rw [← K.kd]; exact hg) I (.inl g1) ?_))
 refine args_K (fun e he => by obtain rfl := List.mem_singleton.mp he; exact hn) g2 ?_
 rw [star_cons hn, back_cons]
 refine spliced_cons (ha s _ _ I fun u s1 X1 r1 _ => spliced_nil ?_)
 have I1 := I.ext X1
 refine ⟨I1.gdH.kin, wpAny_mono (g3 C.A (addrs ρ ++ C.hide) s1 u Q E K.cx.lv I1.gdH I1.bare I1.hidLt r1 fun u' s2 X2 r2 => ?_) (fun gv s2 q => spliced_nil q) fun _ _ q => q⟩
 exact h u' s2 (X1.trans X2.ext) r2 fun z => (nomatch z)
theorem mid_of {x m : Str} {l : List PyData} {p : PyData} (e : methD x m l = some p) : ∃ id, mthId m = some id := by
 have y : ∀ {k : Str} {id : String}, mthId k = some id → m = k → ∃ id, mthId m = some id := fun h q => ⟨_, q ▸ h⟩
 refine optE e (fun p _ e => ?_) fun _ e => bndE e fun _ _ e => bndE e fun _ _ e => bndE e fun _ _ e => bndE e fun _ _ e => ifE e fun q _ => y rfl q
 ·cases p with
  | str z => exact ifE e fun _ h => pick_ h (fun q _ => y rfl q) fun _ h => pick_ h (fun q _ => y rfl q) fun _ h => pick_ h (fun q _ => y rfl q) fun _ h => pick_ h (fun q _ => y rfl q) fun _ h => none_ h
  | list z => exact ifE e fun q _ => y rfl q
  | _ => exact none_ e
theorem few_ok {args : List Expr} {pos : Pos} (hn : noStars args) (hf : args.length < 30) : methodCallForm (args.length + ([] : List Keyword).length) (backTo pos (starEach args C.env)) (backToKw pos (keywordEach [] C.env)) = true := by
 unfold methodCallForm
 rw [star_len hn, show backToKw pos (keywordEach [] C.env) = [] from rfl]
 simp [hf]
theorem meth_ev {o : Expr} {m : Str} {apos pos : Pos} {args : List Expr} {x : Str} {l : List PyData} {p : PyData} (K : FxOk F C ρ k) (hb : okBase o = true) (hl : (apos.endLine == pos.line) = true) (hf : args.length < 30) (ho : Evs C σ ρ o (.d (.str x)))
  (hn : noStars args) (ha : EvL C σ ρ args fun s us => RdOs C ρ s us l) (e : methD x m l = some p) : Evs C σ ρ (.Call (.Attribute o m apos) args [] pos) (.d p) := fun s Q E I h => by
 obtain ⟨id, hid⟩ := mid_of e
 obtain ⟨sl, ty⟩ := mthId_slot hid
 refine wpAny_Call_method (base_ok hb) (few_ok hn hf) hl PySem.F.plainAttrs_str sl ty (ho s _ _ I fun u s1 X1 r1 _ => ?_)
 obtain ⟨t, rfl⟩ := Rd.str_ r1
 refine ⟨typeIs_str _ _ _, fun a z => (nomatch z), args_builtin hn (ha pos s1 _ _ (I.ext X1) fun us s2 X2 r2 => ?_)⟩
 obtain ⟨id', q1, q2⟩ := meth_sound (t := t) (E := E) e ((I.ext X1).ext X2) r2 fun y s3 X3 rd fr => h y s3 ((X1.trans X2).trans X3) rd fun _ => fr.back I (X1.trans X2)
 obtain rfl := sm_ (hid.symm.trans q1)
 exact q2
theorem pat_ev {g : Str} {np apos pos : Pos} {args : List Expr} {r x y : Str} (K : FxOk F C ρ k) (hk : F.kd g = some .globalImplicit) (ok : okName g = true) (hl : (apos.endLine == pos.line) = true) (hf : args.length < 30)
  (hn : noStars args) (ha : EvL C σ ρ args fun s us => RdL (C.hh ρ s) us [.str r, .str x]) (e : F.T.pat g r x = some y) : Evs C σ ρ (.Call (.Attribute (.Name g np) "sub" apos) args [] pos) (.d (.str y)) := fun s Q E I h => by
 obtain ⟨P, h1, ty, id, h2, h3, h4, h5⟩ := K.T.pat g r x y e
 refine wpAny_Call_method (base_ok rfl) (few_ok hn hf) hl h2 h3 h4 (glob_load K.cx ok (by rw [← K.kd]; exact hk) I (.inl h1) ?_)
 ·obtain ⟨q1, q2, _⟩ := h5 C.A s I.gdH
  refine ⟨q1, fun a z => by cases z; exact q2, args_builtin hn (ha pos s _ _ I fun us s1 X1 r1 => ?_)⟩
  cases r1 with
  | cons a1 r1 =>
   cases r1 with
   | cons a2 r1 =>
    cases r1
    obtain ⟨t1, rfl⟩ := a1.str_
    obtain ⟨t2, rfl⟩ := a2.str_
    obtain ⟨_, _, q3⟩ := h5 C.A s1 (I.ext X1).gdH
    exact q3 t1 t2 Q E fun s' t' X2 => h _ s' (X1.trans X2.ext) (.str _ _) fun _ => .str
theorem Call_inst {o : Expr} {name : Str} {apos pos : Pos} {args : List Expr} {Q : Value → Shared → Prop} (hbase : attributeBase o name C.env (eval o C.env) = eval o C.env)
  (hfew : methodCallForm (args.length + ([] : List Keyword).length) (backTo pos (starEach args C.env)) (backToKw pos (keywordEach [] C.env)) = true) (hline : (apos.endLine == pos.line) = true)
  (h : wpAny C.M C.A (eval o C.env) (fun ov s1 => wpAny C.M C.A (getMethod ov name (do return (← importBound o C.env).getD true)) (fun fx s2 => wpAny C.M C.A (callWith pos fx.1 fx.2 (backTo pos (starEach args C.env)) []) Q E s2) E s1) E s) :
  wpAny C.M C.A (eval (.Call (.Attribute o name apos) args [] pos) C.env) Q E s := by
 rw [arm_eval_Call, hbase]
 refine wpAny_bind (wpAny_mono h (fun ov s₁ h₁ => wpAny_bind (wpAny_standAt ?_)) fun _ _ e => e)
 have hpos : methodCallPos true o C.env apos pos = pure pos := by unfold methodCallPos; simp [hline]
 unfold methodCall
 rw [hfew]
 exact wpAny_bind (wpAny_holding (wpAny_mono h₁ (fun fx s2 h2 => wpAny_bind (wpAny_of_eq hpos h2)) fun _ _ e => e))
theorem wmeth_ev {o : Expr} {m : Str} {apos pos : Pos} {args : List Expr} {raw : Str} {i nt tr : Int} {cnt : List Int} {sm : Bool} {l : List X} {v : X} (K : FxOk F C ρ k) (hb : okBase o = true) (hl : (apos.endLine == pos.line) = true) (hf : args.length < 30)
  (ho : Evs C σ ρ o (.w raw i nt cnt tr sm)) (hn : noStars args) (ha : EvL C σ ρ args fun s us => RdXs C.G (C.hh ρ s) us l) (hsp : m ≠ "split") (e : F.T.mt m (.w raw i nt cnt tr sm :: l) = some v) : Evs C σ ρ (.Call (.Attribute o m apos) args [] pos) v := fun s Q E I h => by
 obtain ⟨a, h1, h2, h3⟩ := K.T.mt m _ l v e
 refine Call_inst (base_ok hb) (few_ok hn hf) hl (ho s _ _ I fun u s1 X1 r1 _ => ?_)
 have I1 := I.ext X1
 refine h3 C.A s1 _ u (C.hh ρ s1) raw i nt cnt tr sm _ _ I1.gdH keeps_hide_of r1 ?_
 refine args_K hn h1 (ha pos s1 _ _ I1 fun us s2 X2 r2 => ?_)
 have I2 := I1.ext X2
 refine ⟨I2.gdH.kin, h2 C.A (addrs ρ ++ C.hide) s2 (u :: us) _ v _ _ e K.cx.lv I2.gdH I2.bare I2.hidLt (.cons (RdX.keeps (hh_keeps X2) r1) r2) fun y s3 X3 r3 => ?_⟩
 exact h y s3 ((X1.trans X2).trans X3.ext) r3 fun z => absurd (of_decide_eq_true z) hsp
theorem attr_ev {x a : Str} {p pos : Pos} {v : X} {d : PyData} (K : FxOk F C ρ k) (ho : Evs C σ ρ (.Name x p) v) (e : attrX v a = some d) : Evs C σ ρ (.Attribute (.Name x p) a pos) (.d d) := fun s Q E I h => by
 rw [arm_eval_Attribute]
 rw [base_ok (o := .Name x p) rfl]
 cases v with
 | d q => exact none_ e
 | r a => exact none_ e
 | w raw i nt cnt tr sm =>
  refine wpAny_bind (ho s _ _ I fun u s1 X1 r1 _ => wpAny_bind (wpAny_standAt (wpAny_bind (wpAny_holding ?_))))
  have I1 := I.ext X1
  refine K.T.attr C.A s1 u (C.hh ρ s1) raw i nt cnt tr sm a d _ _ I1.gdH keeps_hide_of r1 e fun y t rd => ?_
  exact wpAny_bind (wpAny_letTemporaryGo (wpAny_pure (h y _ (X1.trans .toks) rd fun z => (nomatch z))))
theorem cat_ev {x a : Str} {p pos : Pos} {d : PyData} (K : FxOk F C ρ k) (ok : okName x = true) (hk : F.kd x = some .globalImplicit) (e : F.T.cat x a = some d) : Evs C σ ρ (.Attribute (.Name x p) a pos) (.d d) := fun s Q E I h => by
 obtain ⟨y, rfl, h1, h2⟩ := K.T.cat x a d e
 rw [arm_eval_Attribute]
 rw [base_ok (o := .Name x p) rfl]
 refine wpAny_bind (glob_load K.cx ok (by rw [← K.kd]; exact hk) I (.inl h1) (wpAny_bind (wpAny_standAt (wpAny_bind (wpAny_holding ?_)))))
 refine h2 C.A s _ _ I.gdH fun t k => ?_
 exact wpAny_bind (wpAny_letTemporaryGo (wpAny_pure (h _ _ .toks (.str _ _) fun z => (nomatch z))))
theorem gname_ev {x : Str} {p : Pos} {d : PyData} (K : FxOk F C ρ k) (ok : okName x = true) (hk : F.kd x = some .globalImplicit) (e : F.T.const x = some d) : Evs C σ ρ (.Name x p) (.d d) := fun s Q E I h => by
 obtain ⟨y, t, rfl, h1⟩ := K.T.const x d e
 exact glob_load K.cx ok (by rw [← K.kd]; exact hk) I (.inl h1) (h _ s .refl (.str _ _) fun z => (nomatch z))
end
end
section
open PySem.Calls
section
variable {C : Cx} {σ σ0 τ : Sig} {ρ : List Own} {s s' : Shared} {E : Value → Shared → Prop} {k n : Nat} {F : Fx}
theorem iter_fin {s1 s2 : Shared} {c : Bool} {ps : List PyData} {J : Addr} {fp : List Addr} {St : Nat → Shared → Prop} {Q : Value → Shared → Prop} (I : Inv C σ ρ s) (X1 : Ext C.env.locals s s1) (X2 : Ext C.env.locals s1 s2) (W : It C.M C.A J fp [J] [] (C.hh ρ s1) ps St) (st : St 0 s2) (hJ : J = s1.heap.objs.size)
  (hfp : ∀ b ∈ fp, b = J ∨ (b ≠ C.env.locals ∧ b ∉ C.cs.map (·.2) ∧ (c = true → b ∉ addrs ρ)))
  (h : ∀ J fp h0 s' St, It C.M C.A J fp [J] [] h0 ps St → St 0 s' → Ext C.env.locals s s' → s.heap.get? J = none → Keeps h0 (hideAll s'.heap (J :: (addrs ρ ++ C.hide))) →
   (∀ b ∈ fp, b ≠ C.env.locals ∧ b ∉ C.cs.map (·.2) ∧ (c = true → b ∉ addrs ρ)) → Q (.ref J) s') : Q (.ref J) s2 := by
 have I1 := I.ext X1
 have J1 : s1.heap.get? J = none := get?_ge (hJ ▸ (Nat.le_refl _))
 have notH : ∀ a, (∃ o, s1.heap.get? a = some o) → a ≠ J := fun a ⟨o, e⟩ q => by exact none_ (J1.symm.trans (q ▸ e))
 have fr : Fresh s1 (.ref J) := fun a q => by cases q; exact J1
 refine h J fp _ s2 St W st (X1.trans X2) (fr.back I X1 J rfl) (fun b o e => ?_) fun b hb => ?_
 ·have e1 := hh_keeps X2 b o e
  refine hideAll_get _ (of_hideAll _ e1) fun q => ?_
  rcases List.mem_cons.mp q with q | q
  ·have := of_hideAll _ e
   exact none_ (J1.symm.trans (q ▸ this))
  ·exact none_ ((hideAll_none _ q).symm.trans ((show C.hh ρ s2 = hideAll s2.heap (addrs ρ ++ C.hide) from rfl) ▸ e1))
 ·rcases hfp b hb with rfl | q
  ·refine ⟨fun q => ?_, fun q => ?_, fun _ q => ?_⟩
   ·exact notH _ (I1.own' _ (List.mem_append_right _ (.head _))) q.symm
   ·exact notH _ (I1.own' _ (List.mem_append_right _ (.tail _ q))) rfl
   ·exact notH _ (I1.own' _ (List.mem_append_left _ q)) rfl
  ·exact q
theorem ref_seq {p : PyData} {ps : List PyData} {b : Addr} (hp : itemsD p = some ps) (r : RdO C ρ s (.ref b) (.d p)) : ∃ o xs n, s.heap.get? b = some o ∧ o.data = .seq xs n := by
 cases p with
 | list l => obtain ⟨a, vs, n, e1, hl, _⟩ := r.list; injection e1 with q; exact ⟨_, _, _, q ▸ hl, rfl⟩
 | tuple l => obtain ⟨a, vs, n, e1, hl, _⟩ := r.tuple; injection e1 with q; exact ⟨_, _, _, q ▸ hl, rfl⟩
 | str x => obtain ⟨t, e1⟩ := r.str; exact Value.noConfusion e1
 | _ => exact none_ hp
theorem ref_hh {p : PyData} {ps : List PyData} {b : Addr} {h : Heap} (hp : itemsD p = some ps) (r : Rd h (.ref b) p) : ∃ o, h.get? b = some o := by
 cases p with
 | list l => obtain ⟨a, vs, n, e1, hl, _⟩ := r.list_; injection e1 with q; exact ⟨_, q ▸ hl⟩
 | tuple l => obtain ⟨a, vs, n, e1, hl, _⟩ := r.tuple_; injection e1 with q; exact ⟨_, q ▸ hl⟩
 | str x => obtain ⟨t, e1⟩ := r.str_; exact Value.noConfusion e1
 | _ => exact none_ hp
theorem seq_apart {b : Addr} {o : Obj} {xs : Array Value} {n : Nat} (I : Inv C σ ρ s) (e1 : s.heap.get? b = some o) (e2 : o.data = .seq xs n) : b ≠ C.env.locals ∧ b ∉ C.cs.map (·.2) := by
 refine ⟨fun q => ?_, fun q => ?_⟩
 ·obtain ⟨m, o', _, _, e', d', _⟩ := I.ns
  exact Data.noConfusion (e2.symm.trans (sm_ ((q ▸ e1).symm.trans e') ▸ d'))
 ·obtain ⟨x, hx, q⟩ := List.mem_map.mp q
  obtain ⟨v, o', e', d'⟩ := I.cells x hx
  exact Data.noConfusion (e2.symm.trans (sm_ ((q ▸ e1).symm.trans e') ▸ d'))
theorem operand_it {e : Expr} {c : Bool} {p : PyData} {ps : List PyData} (K : FxOk F C ρ k) (he : Evo C σ ρ e (.d p)) (hc : c = true → Evs C σ ρ e (.d p)) (hp : itemsD p = some ps) : EvIt C σ ρ c e ps := fun s Q E I h => by
 have main : ∀ u s1, Ext C.env.locals s s1 → RdO C ρ s1 u (.d p) → (c = true → Rd (C.hh ρ s1) u p) → wpAny C.M C.A (pyIter u) Q E s1 := fun u s1 X1 r1 rc =>
  iter_sound hp K.cx.lv.hh (I.ext X1) r1 fun J fp s2 St W st X2 hJ hfp => iter_fin (c := c) I X1 X2 W st hJ (fun b hb => (hfp b hb).imp id fun q => by
   rw [q] at r1 rc
   obtain ⟨o, xs, n, e1, e2⟩ := ref_seq hp r1
   obtain ⟨a1, a2⟩ := seq_apart (I.ext X1) e1 e2
   refine ⟨a1, a2, fun z q => ?_⟩
   obtain ⟨o, e⟩ := ref_hh hp (rc z)
   exact none_ ((hideAll_none _ (List.mem_append_left _ q)).symm.trans e)) h
 cases c with
 | true => exact hc rfl s _ _ I fun u s1 X1 r1 _ => main u s1 X1 (.inl r1) fun _ => r1
 | false => exact he s _ _ I fun u s1 X1 r1 => main u s1 X1 r1 fun z => (nomatch z)
theorem range_it {np pos : Pos} {args : List Expr} {c : Bool} {ps : List PyData} {l : List PyData} (K : FxOk F C ρ k) (hk : F.kd "range" = some .globalImplicit) (hn : noStars args) (ha : EvL C σ ρ args fun s us => RdL (C.hh ρ s) us l)
  (e : rangeD l = some ps) : EvIt C σ ρ c (.Call (.Name "range" np) args [] pos) ps := fun s Q E I h => by
 obtain ⟨b1, b2⟩ := K.T.bi "range" (.type "range") (by decide +kernel)
 refine wpAny_Call_ofName (glob_load K.cx (by decide +kernel) (by rw [← K.kd]; exact hk) I (.inr ⟨b1, b2⟩) ?_)
 refine args_type hn (ha pos s _ _ I fun us s1 X1 r1 => ?_)
 have I1 := I.ext X1
 obtain ⟨m, hns⟩ := I1.ns
 obtain ⟨Fr0, N0⟩ := frOf hns
 have fin : ∀ (r : Addr) (s2 : Shared) (a b : Int) (t u v : Tok), Ext C.env.locals s1 s2 → IsRange s2.heap r a b 1 t u v → a.natAbs ≤ 1048576 → b.natAbs ≤ 1048576 → some (intsD (rangeL a b)) = some ps → wpAny C.M C.A (pyIter (.ref r)) Q E s2 := fun r s2 a b t u v X2 hr h1 h2 hps => by
  obtain rfl := sm_ hps
  exact iter_range K.cx.lv.hh (I1.ext X2) hr (small_one (by clear hr h; lia) (by clear hr h; omega) (by clear hr h; lia) (by clear hr h; omega)) fun J s3 St hJ W st X3 => iter_fin (c := c) I (X1.trans X2) X3 W st hJ (fun b hb => .inl (List.mem_singleton.mp hb)) h
 refine optE e (fun p h1 e => ?_) fun h1 e => ?_
 ·rw [one_ h1] at r1
  refine bndE e fun b h2 e => ifE e fun hs e => ?_
  rw [intV_ h2] at r1
  cases r1 with
  | cons x y =>
   cases y
   obtain ⟨t, rfl⟩ := Rd.int_ x
   exact range1_rows Fr0 N0 fun h' tk t₁ u₁ v₁ hr F' N' _ => fin _ _ _ _ _ _ _ (.fr hns F' N' fun _ z => z) hr (by decide) (of_decide_eq_true (and2 hs).2) e
 ·refine bndE e fun p h2 e => bndE e fun a h3 e => bndE e fun b h4 e => ifE e fun hs e => ?_
  rw [two_ h2, intV_ h3, intV_ h4] at r1
  cases r1 with
  | cons x y =>
   cases y with
   | cons y z =>
    cases z
    obtain ⟨t, rfl⟩ := Rd.int_ x
    obtain ⟨t', rfl⟩ := Rd.int_ y
    exact range2_rows Fr0 N0 fun h' tk t₁ u₁ v₁ hr F' N' _ => fin _ _ _ _ _ _ _ (.fr hns F' N' fun _ z => z) hr (of_decide_eq_true (and2 (and2 hs).1).2) (of_decide_eq_true (and2 hs).2) e
theorem fold_of {e : Expr} (h : oddE e = false) (x : Value) : foldedSetIterable e C.env x = pure x := by
 have h := of_decide_eq_false h
 cases e <;> first | rfl | exact absurd (.inr (.inl rfl)) h
theorem ei_split {e : Expr} {c : Bool} {ps : List PyData} {P : Prop} (h : Mine.ei (n + 1) c F e σ = some ps) (k1 : ∀ g p q, e = .Call (.Name "range" p) g [] q → F.kd "range" = some .globalImplicit → (Mine.eeL n F g σ).bind rangeD = some ps → P) (k2 : ∀ p, (bif c then Mine.ee n F e σ else Mine.eo n F e σ) = some (.d p) → itemsD p = some ps → P) : P := by
 refine optE h (fun g h1 h => (callV_ h1).elim fun p h2 => h2.elim fun q h2 => ifE h fun h3 h => k1 g.2 p q ?_ h3.2 h) fun h1 h => bndE h fun p h2 h => k2 p (dOd h2) h
 rw [h2, h3.1]
theorem fold_ok {e : Expr} {c : Bool} {ps : List PyData} (h : Mine.ei n c F e σ = some ps) : ∀ x, foldedSetIterable e C.env x = pure x := fun x => by
 cases n with
 | zero => exact none_ h
 | succ n =>
  refine ei_split h (fun g p q h1 _ _ => by rw [h1]; rfl) fun p h1 _ => fold_of ?_ x
  cases c with
  | true => exact ee_odd h1
  | false => exact eo_odd h1
theorem step_ei (S : SE n) {c : Bool} {e : Expr} {ps : List PyData} (K : FxOk F C ρ k) (h : Mine.ei (n + 1) c F e σ = some ps) : EvIt C σ ρ c e ps ∧ ∀ x, foldedSetIterable e C.env x = pure x := by
 refine ⟨?_, fold_ok h⟩
 refine ei_split h (fun g p q h1 hk h => ?_) fun p h1 h' => ?_
 ·refine bndE h fun l hl h => ?_
  obtain ⟨a, _, b⟩ := S.eeL K hl
  exact h1 ▸ range_it K hk a b h
 ·cases c with
  | true => exact operand_it K (evo_of (S.ee K h1)) (fun _ => S.ee K h1) h'
  | false => exact operand_it K (S.eo K h1) (fun z => (nomatch z)) h'
theorem step_ecomp (S : SE n) {elt tgt iter : Expr} {ifs : List Expr} {sc : Scope} {out : List PyData} (K : FxOk F C ρ k) (h : Mine.ecomp (n + 1) F elt tgt iter ifs sc σ = some out) :
  CompOk F.kd sc ∧ ∃ (items : List PyData) (tests : Sig → Option Bool) (eltf : Sig → Option PyData),
  (∀ x, foldedSetIterable iter C.env x = pure x) ∧ EvIt C σ ρ false iter items ∧ BodyOk F k sc ifs elt tests eltf ∧ items.length ≤ 1048576 ∧ compL (bindTD (okC sc) tgt (compSig F sc σ)) tests eltf items = some out :=
 ifE h fun hc h => bndE h fun items hi h => ifE h fun hs h => ⟨compOk_of hc, items, _, _, (S.ei K hi).2, (S.ei K hi).1, fun C' K' => ⟨fun τ b hb => S.etL K' hb, fun τ p hp => S.ee K' (dOd hp)⟩, short_le hs, h⟩
theorem step_ecall (S : SE n) {f : Str} {args : List Expr} {v : X} (K : FxOk F C ρ k) (hk : F.kd f = some .globalImplicit) (ok : okName f = true) (h : Mine.ecall (n + 1) F f args σ = some v) (np pos : Pos) : Evs C σ ρ (.Call (.Name f np) args [] pos) v := by
 exact optE h (fun p h1 h => smE h (bndE h1 fun l hl hp => (S.eoL K hl).elim fun a b => built_ev K hk ok a b hp)) fun h1 h => bndE h fun l hl hp => (S.exL K hl).elim fun a b => fn_ev K hk ok a b hp
end
end
section
open PySem.Calls
section
variable {C : Cx} {σ σ0 τ : Sig} {ρ : List Own} {s s' : Shared} {E : Value → Shared → Prop} {k n : Nat} {F : Fx}
theorem step_eo (S : SE n) {e : Expr} {v : X} (K : FxOk F C ρ k) (h : Mine.eo (n + 1) F e σ = some v) : Evo C σ ρ e v := by
 refine optE h (fun x h1 h => pick_ h (fun q h => (nameV_ h1).elim fun p e1 => e1 ▸ name_eo K (and2 (and2 q).1).1 (and2 q).2 h) fun _ h => evo_of (S.ee K h)) fun h1 h => optE h (fun y h2 h => ifE h fun _ h => bndE h fun a q1 h => bndE h fun b q2 h => ?_) fun h2 h => evo_of (S.ee K h)
 obtain ⟨d, hd, rfl⟩ := mpd h
 refine bndE h2 fun s h3 h2 => bndE h2 fun x h4 h2 => ifE h2 fun q h2 => ?_
 obtain rfl := sm_ h2
 exact (subV_ h3).elim fun p e1 => e1 ▸ (nameV_ h4).elim fun p' e2 => e2 ▸ sub2_eo K (and2 (and2 q).1).1 (and2 q).2 (dOd q1) (S.ee K (dOd q2)) hd
theorem name_s {x : Str} {p : Pos} {v : X} (K : FxOk F C ρ k) (h : eeName F x σ = some v) : Evs C σ ρ (.Name x p) v :=
 ifE h fun ok h => pick_ h (fun _ h => pick_ h (fun _ h => none_ h) fun ho h => name_ev K ok (Bool.not_eq_true _ ▸ ho) h) fun _ h => ifE h fun hk h => let ⟨_, hd, e⟩ := mpd h; e ▸ gname_ev K ok hk hd
theorem sub_s (S : SE n) {a i : Expr} {p : Pos} {v : X} (K : FxOk F C ρ k) (h : Mine.ee (n + 1) F (.Subscript a i p) σ = some v) : Evs C σ ρ (.Subscript a i p) v := by
 refine bndE h fun x h1 h => optE h (fun s h2 h => bndE h fun l h3 h => bndE h fun u h4 h => ?_) fun h2 h => bndE h fun l h3 h => ?_
 ·obtain ⟨d, hd, rfl⟩ := mpd h
  exact (sliceV_ h2).elim fun q e1 => e1 ▸ slice_ev (S.eo K (dOd h1)) (S.eopt K h3) (S.eopt K h4) hd
 ·obtain ⟨d, hd, rfl⟩ := mpd h
  exact sub_ev (S.eo K (dOd h1)) (S.ee K (dOd h3)) hd
theorem fcall_s (S : SE n) {f : Str} {args : List Expr} {np p : Pos} {v : X} (K : FxOk F C ρ k) (h : Mine.ee (n + 1) F (.Call (.Name f np) args [] p) σ = some v) : Evs C σ ρ (.Call (.Name f np) args [] p) v := by
 refine ifE h fun hk h => ?_
 refine optE h (fun g h1 h => ifE h1 fun hf h1 => bndE h1 fun a h2 h3 => ifE h fun hg h => bndE h fun x h4 h => ?_) fun _ h => S.ecall K hk.2 hk.1 h _ _
 obtain ⟨l, hd, rfl⟩ := mpd h
 obtain rfl := one_ h2
 subst hf
 exact call1V_ h3 fun q1 q2 => gen_ev K hk.2 hg.1 hg.2 (ee_noStar (dOd h4)) (S.ee K (dOd h4)) hd
theorem mcall_s (S : SE n) {o : Expr} {m : Str} {args : List Expr} {ap p : Pos} {v : X} (K : FxOk F C ρ k) (h : Mine.ee (n + 1) F (.Call (.Attribute o m ap) args [] p) σ = some v) : Evs C σ ρ (.Call (.Attribute o m ap) args [] p) v := by
 refine ifE h fun q h => ?_
 have q1 := and2 q
 have q2 := and2 q1.1
 have hf := of_decide_eq_true q1.2
 refine pick_ h (fun hm h => ?_) fun _ h => bndE h fun x h1 h => ?_
 ·refine bndE h fun g h1 h => ifE h fun hg h => bndE h fun z hl h => bndE hl fun l hl h2 => ?_
  obtain ⟨y, hd, rfl⟩ := mpd h
  obtain ⟨q, rfl⟩ := nameV_ h1
  obtain rfl := twoS_ h2
  subst hm
  obtain ⟨a, _, b⟩ := S.eeL K hl
  exact pat_ev K hg.2 hg.1 q2.2 hf a b hd
 ·cases x with
  | d y =>
   refine bndE h fun x h2 h => bndE h fun l hl h => ?_
   obtain ⟨d, hd, rfl⟩ := mpd h
   rw [strV_ h2] at h1
   obtain ⟨a, b⟩ := S.eoL K hl
   exact meth_ev K q2.1 q2.2 hf (S.ee K h1) a b hd
  | w =>
   refine ifE h fun hm h => bndE h fun l hl h => ?_
   obtain ⟨a, b⟩ := S.exL K hl
   exact wmeth_ev K q2.1 q2.2 hf (S.ee K h1) a b hm h
  | r => exact none_ h
theorem step_ee (S : SE n) {e : Expr} {v : X} (K : FxOk F C ρ k) (h : Mine.ee (n + 1) F e σ = some v) : Evs C σ ρ e v := by
 cases e with
 | Constant c u p => obtain ⟨d, hd, rfl⟩ := mpd h; exact const_ev hd
 | Name x p => exact name_s K h
 | BinOp l op r p => exact bndE h fun a h1 h => bndE h fun b h2 h => let ⟨_, hd, e⟩ := mpd h; e ▸ bin_ev (S.eo K (dOd h1)) (S.eo K (dOd h2)) hd
 | UnaryOp op x p =>
  refine ifE h fun q h => ?_
  obtain ⟨i, h1, rfl⟩ := mpd h
  exact q ▸ neg_ev (S.ee K (eInt_ h1))
 | Compare l ops rs p =>
  refine bndE h fun op q1 h => bndE h fun r q2 h => bndE h fun a h1 h => bndE h fun b h2 h => ?_
  obtain ⟨t, hd, rfl⟩ := mpd h
  rw [one_ q1, one_ q2]
  exact cmp_ev K.cx (S.eo K (dOd h1)) (S.eo K (dOd h2)) (eo_noSet (dOd h2)) hd
 | IfExp t b o p =>
  refine bndE h fun c h1 h => ?_
  cases c with
  | true => exact if_ev (S.et K h1) (fun _ => S.ee K h) fun z => (nomatch z)
  | false => exact if_ev (S.et K h1) (fun z => (nomatch z)) fun _ => S.ee K h
 | Subscript a i p => exact sub_s S K h
 | List es p =>
  refine ifE h fun hs h => ?_
  obtain ⟨l, hd, rfl⟩ := mpd h
  obtain ⟨_, b, c⟩ := S.eeL K hd
  exact list_ev c (b ▸ short_le hs)
 | Tuple es kk p =>
  refine ifE h fun hs h => ?_
  obtain ⟨l, hd, rfl⟩ := mpd h
  obtain ⟨_, b, c⟩ := S.eeL K hd
  exact tuple_ev c (b ▸ short_le hs)
 | ListComp elt gens sc p =>
  refine bndE h fun g h1 h => ?_
  obtain ⟨l, hd, rfl⟩ := mpd h
  obtain ⟨a, items, tests, eltf, b, c, d, e1, e2⟩ := S.ecomp K hd
  rw [genV_ h1]
  exact fun s Q E I q => comp_sound K a b c d e1 e2 I fun D s1 X1 rd fr => q _ s1 X1 rd fun _ => fr
 | Call f args ks p =>
  refine ifE h fun hk h' => ?_
  obtain rfl := nil_ hk
  cases f with
  | Name f np => exact fcall_s S K h'
  | Attribute o m ap => exact mcall_s S K h'
  | _ => exact none_ h'
 | Attribute o a p =>
  refine bndE h fun x h1 h => ?_
  obtain ⟨q, rfl⟩ := nameV_ h1
  refine pick_ h (fun hk h => ifE h fun ok h => ?_) fun _ h => bndE h fun v h2 h => ?_
  ·obtain ⟨d, hd, rfl⟩ := mpd h; exact cat_ev K ok hk hd
  ·obtain ⟨d, hd, rfl⟩ := mpd h; exact attr_ev K (S.ee K h2) hd
 | _ => exact none_ h
theorem se_zero : SE 0 := ⟨fun _ h => none_ h, fun _ h => none_ h, fun _ h => none_ h, fun _ h => none_ h, fun _ h => none_ h, fun _ h => none_ h, fun _ h => none_ h, fun _ h => none_ h, fun _ h => none_ h, fun _ h => none_ h, fun _ h => none_ h, fun _ _ _ h => none_ h⟩
theorem se : ∀ n, SE n
 | 0 => se_zero
 | n + 1 => have S := se n
  { ee := step_ee S, eo := step_eo S, et := step_et S, etB := step_etB S, etL := step_etL S, eopt := step_eopt S, eeL := step_eeL S, eoL := step_eoL S, exL := step_exL S, ei := step_ei S, ecomp := step_ecomp S, ecall := step_ecall S }
end
end
section
open PySem.Calls
theorem cls_ne {h : Heap} {a : Addr} {c c' : String} {d d' : Data} {P : Prop} (n : c ≠ c') (e : h.get? a = some { cls := .type c, data := d }) (e' : h.get? a = some { cls := .type c', data := d' }) : P := absurd (Value.type.inj (Obj.mk.inj (sm_ (e.symm.trans e'))).1) n
theorem seq_eq {h : Heap} {a : Addr} {c : String} {vs vs' : List Value} {n n' : Nat} (e : h.get? a = some { cls := .type c, data := .seq vs.toArray n }) (e' : h.get? a = some { cls := .type c, data := .seq vs'.toArray n' }) : vs = vs' := by
 injection sm_ (e.symm.trans e') with _ _ q
 injection q with q
 exact congrArg Array.toList q
theorem Rd.det2 {h : Heap} : (∀ {v : Value} {d : PyData}, Rd h v d → ∀ d', Rd h v d' → d = d') ∧ ∀ {v : List Value} {d : List PyData}, RdL h v d → ∀ d', RdL h v d' → d = d' :=
 Rd.both (P := fun v d => ∀ d', Rd h v d' → d = d') (L := fun v d => ∀ d', RdL h v d' → d = d') (fun _ y => by cases y; rfl) (fun _ _ y => by cases y; rfl) (fun _ _ _ y => by cases y; rfl) (fun _ _ _ y => by cases y; rfl)
  (fun e _ ih d' y => by
   cases y with
   | list e' r' => exact congrArg _ (ih _ (seq_eq e e' ▸ r'))
   | tuple e' r' => exact cls_ne (by decide) e e')
  (fun e _ ih d' y => by
   cases y with
   | tuple e' r' => exact congrArg _ (ih _ (seq_eq e e' ▸ r'))
   | list e' r' => exact cls_ne (by decide) e e') (fun _ y => by cases y; rfl) fun _ _ ia ib d' y => by
   cases y with
   | cons a' b' => rw [ia _ a', ib _ b']
theorem Rd.det {h : Heap} {v : Value} {d d' : PyData} (r : Rd h v d) (q : Rd h v d') : d = d' := Rd.det2.1 r _ q
theorem Rd.hideA2 {h : Heap} {l : List Addr} {a : Addr} {big : PyData} (B : Rd (hideAll h l) (.ref a) big) : (∀ {v : Value} {d : PyData}, Rd (hideAll h l) v d → sizeOf d < sizeOf big → Rd (hideAll h (a :: l)) v d) ∧
  ∀ {v : List Value} {d : List PyData}, RdL (hideAll h l) v d → sizeOf d < sizeOf big → RdL (hideAll h (a :: l)) v d := by
 have get : ∀ {b : Addr} {o : Obj} {d : PyData}, (hideAll h l).get? b = some o → Rd (hideAll h l) (.ref b) d → sizeOf d < sizeOf big → (hideAll h (a :: l)).get? b = some o := fun {b o d} e r z => hideAll_get _ (of_hideAll _ e) fun q => by
  rcases List.mem_cons.mp q with q | q
  ·rw [Rd.det B (q ▸ r)] at z; exact Nat.lt_irrefl _ z
  ·exact Mine.none_ ((hideAll_none _ q).symm.trans e)
 have sl : ∀ {ds : List PyData}, sizeOf ds < sizeOf (PyData.list ds) := by simp only [PyData.list.sizeOf_spec]; exact leS
 have st : ∀ {ds : List PyData}, sizeOf ds < sizeOf (PyData.tuple ds) := by simp only [PyData.tuple.sizeOf_spec]; exact leS
 exact Rd.both (P := fun v d => sizeOf d < sizeOf big → Rd (hideAll h (a :: l)) v d) (L := fun v d => sizeOf d < sizeOf big → RdL (hideAll h (a :: l)) v d) (fun _ => .none) (fun b _ => .bool b) (fun i t _ => .int i t) (fun x t _ => .str x t)
  (fun e r ih z => .list (get e (.list e r) z) (ih (Nat.lt_trans sl z))) (fun e r ih z => .tuple (get e (.tuple e r) z) (ih (Nat.lt_trans st z))) (fun _ => .nil)
  fun _ _ ia ib z => .cons (ia (by simp only [List.cons.sizeOf_spec] at z; lia)) (ib (by simp only [List.cons.sizeOf_spec] at z; lia))
theorem RdL.hideA {h : Heap} {l : List Addr} {a : Addr} {big : PyData} (B : Rd (hideAll h l) (.ref a) big) {v : List Value} {d : List PyData} (r : RdL (hideAll h l) v d) (z : sizeOf d < sizeOf big) : RdL (hideAll h (a :: l)) v d := (Rd.hideA2 B).2 r z
structure FnOk (G : Fn) (C : Cx) (n : Nat) : Prop where
 T : TabOk C.G G.T n
 kd : ∀ x, G.kd x = C.env.kindOf x
 cx : CxOk C n
 cell : ∀ x, G.kd x = some .cell → ∃ c, C.env.cells.lookup x = some c ∧ c ∈ C.cs.map (·.2) ∧ ∀ y, C.env.kindOf y = some .cell ∨ C.env.kindOf y = some .free → C.env.cells.lookup y = some c → y = x
 cl : ∀ y d, C.env.cells.lookup y = some d → d ∈ C.cs.map (·.2)
structure LinkOk (G : Fn) (S : St) (ρ : List Own) : Prop where
 own : ∀ o ∈ ρ, match o.two with
  | false => S.own.contains o.name = true ∧ G.mu.contains o.name = true ∧ G.own2.contains o.name = false
  | true => S.own.contains o.name = false ∧ G.own2.contains o.name = true
 full : ∀ x, S.own.contains x = true → ∃ o, ρ.find? (·.name == x) = some o
 full2 : ∀ x v, G.own2.contains x = true → S.σ x = some v → ∃ o, ρ.find? (·.name == x) = some o
noncomputable def FlQ (C : Cx) (ρ : List Own) (s : Shared) : Fl → (Flow → Shared → Prop) → Prop
 | .next, Q => Q .next s
 | .brk, Q => Q .brk s
 | .cont, Q => Q .cont s
 | .ret v, Q => ∀ u, RdO C ρ s u v → Q (.ret u) s
noncomputable def ExS (C : Cx) (G : Fn) (st : Stmt) (S : St) (f : Fl) (S' : St) : Prop := ∀ (ρ : List Own) (s : Shared) (Q : Flow → Shared → Prop) (E : Value → Shared → Prop), LinkOk G S ρ → Inv C S.σ ρ s →
 (∀ ρ' s', LinkOk G S' ρ' → Inv C S'.σ ρ' s' → Step C ρ ρ' s s' → ∀ u, (∀ v, f = .ret v → RdO C ρ' s' u v) → Q (match f with | .next => .next | .brk => .brk | .cont => .cont | .ret _ => .ret u) s') → wpAny C.M C.A (exec st C.env) Q E s
noncomputable def ExL (C : Cx) (G : Fn) (ss : List Stmt) (S : St) (f : Fl) (S' : St) : Prop := ∀ (ρ : List Own) (s : Shared) (Q : Flow → Shared → Prop) (E : Value → Shared → Prop), LinkOk G S ρ → Inv C S.σ ρ s →
 (∀ ρ' s', LinkOk G S' ρ' → Inv C S'.σ ρ' s' → Step C ρ ρ' s s' → ∀ u, (∀ v, f = .ret v → RdO C ρ' s' u v) → Q (match f with | .next => .next | .brk => .brk | .cont => .cont | .ret _ => .ret u) s') → wpAny C.M C.A (execs ss C.env) Q E s
section
variable {C : Cx} {G : Fn} {σ σ0 τ : Sig} {ρ : List Own} {s s' : Shared} {E : Value → Shared → Prop} {k n : Nat} {S S' : St}
theorem LinkOk.fx (L : LinkOk G S ρ) (K : FnOk G C k) : FxOk (G.fx S) C ρ k :=
 ⟨K.T, K.kd, fun o ho => by
  have := L.own o ho
  cases q : o.two with
  | false => rw [q] at this; exact ⟨this.1, this.2.2⟩
  | true => rw [q] at this; exact this, K.cx, fun x hx => let ⟨c, e, _⟩ := K.cell x hx; ⟨c, e⟩⟩
theorem LinkOk.none (L : LinkOk G S ρ) {x : Str} (h1 : G.mu.contains x = false ∨ S.own.contains x = false) (h2 : G.own2.contains x = false) : ρ.find? (·.name == x) = none := by
 cases e : ρ.find? (·.name == x) with
 | none => rfl
 | some o =>
  have hn := own_name e
  have ho := L.own o (find_mem e)
  cases q : o.two with
  | false =>
   rw [q, hn] at ho
   rcases h1 with h1 | h1
   ·rw [h1] at ho; exact absurd ho.2.1 (by decide)
   ·rw [h1] at ho; exact absurd ho.1 (by decide)
  | true => rw [q, hn, h2] at ho; exact absurd ho.2 (by decide)
theorem ok_parts {x : Str} (h : G.ok x = true) : (G.kd x = some .local ∨ G.kd x = some .cell) ∧ G.mu.contains x = false ∧ G.own2.contains x = false := by
 delta Fn.ok at h
 obtain ⟨h1, h3⟩ := and2 h
 obtain ⟨h1, h2⟩ := and2 h1
 refine ⟨?_, by simpa using h2, by simpa using h3⟩
 rcases Bool.or_eq_true_iff.mp h1 with q | q
 ·exact .inl (eq_of_beq q)
 ·exact .inr (eq_of_beq q)
theorem LinkOk.st (L : LinkOk G S ρ) (K : FnOk G C k) : StOk C G.ok ρ :=
 ⟨K.cx.fn, fun x hx => L.none (.inl (ok_parts hx).2.1) (ok_parts hx).2.2, fun x hx => by
  rcases (ok_parts hx).1 with q | q
  ·exact .inl (by rw [← K.kd]; exact q)
  ·exact .inr ⟨by rw [← K.kd]; exact q, K.cell x q⟩⟩
theorem LinkOk.put (L : LinkOk G S ρ) {x : Str} {v : X} (h : G.own2.contains x = false ∨ ∃ w, S.σ x = some w) : LinkOk G { S with σ := put S.σ x v } ρ :=
 ⟨L.own, L.full, fun y w hy hw => by
  delta Mine.put at hw
  dsimp only at hw
  split at hw
  ·rename_i q; subst q
   rcases h with h | ⟨w', h⟩
   ·rw [h] at hy; cases hy
   ·exact L.full2 y w' hy h
  ·exact L.full2 y w hy hw⟩
theorem ex_name {x : Str} {px pos : Pos} {e : Expr} {v : X} (K : FnOk G C k) (hx : G.ok x = true) (he : ∀ ρ, LinkOk G S ρ → Evs C S.σ ρ e v) (hsw : swapsWith e (some (.Name x px)) pos.line C.env = pure false) :
  ExS C G (.Assign [.Name x px] e pos) S .next { S with σ := put S.σ x v } := fun ρ s Q E L I h =>
 wpAny_Assign_Name (he ρ L s _ _ I fun u s1 X1 r1 _ => store_sound (L.st K) hx (I.ext X1) r1 fun s2 I2 S2 =>
  h ρ s2 (L.put (.inl (ok_parts hx).2.2)) I2 ((Step.ext I X1).trans S2) .none fun _ z => (nomatch z)) hsw
theorem ex_if {t : Expr} {b o : List Stmt} {pos : Pos} {c : Bool} {f : Fl} (ht : ∀ ρ, LinkOk G S ρ → Evt C S.σ ρ t c) (hb : c = true → ExL C G b S f S') (ho : c = false → ExL C G o S f S') : ExS C G (.If t b o pos) S f S' := fun ρ s Q E L I h =>
 wpAny_If (ht ρ L s _ _ I fun s1 X1 => by
  have S1 := Step.ext I X1
  cases c with
  | true => exact (if_pos rfl) ▸ (hb rfl ρ s1 Q _ L (I.ext X1) fun ρ' s' L' I' S' => h ρ' s' L' I' (S1.trans S'))
  | false => rw [if_neg (by decide)]; exact ho rfl ρ s1 Q _ L (I.ext X1) fun ρ' s' L' I' S' => h ρ' s' L' I' (S1.trans S'))
theorem ex_assert {t : Expr} {pos : Pos} (ht : ∀ ρ, LinkOk G S ρ → Evt C S.σ ρ t true) : ExS C G (.Assert t none pos) S .next S := fun ρ s Q E L I h =>
 wpAny_Assert_holds (ht ρ L s _ _ I fun s1 X1 => ⟨rfl, h ρ s1 L (I.ext X1) (Step.ext I X1) .none fun _ z => (nomatch z)⟩)
theorem ex_break {pos : Pos} : ExS C G (.Break pos) S .brk S := fun ρ s Q E L I h => wpAny_Break (h ρ s L I .refl .none fun _ z => (nomatch z))
theorem ex_ret {e : Expr} {pos : Pos} {v : X} (he : ∀ ρ, LinkOk G S ρ → Evo C S.σ ρ e v) : ExS C G (.Return (some e) pos) S (.ret v) S := fun ρ s Q E L I h =>
 wpAny_Return_some (he ρ L s _ _ I fun u s1 X1 r1 => h ρ s1 L (I.ext X1) (Step.ext I X1) u fun w z => by cases z; exact r1)
theorem exl_nil : ExL C G [] S .next S := fun ρ s Q E L I h => wpAny_execs_nil (h ρ s L I .refl .none fun _ z => (nomatch z))
theorem exl_cons {st : Stmt} {r : List Stmt} {S1 : St} {f : Fl} (h1 : ExS C G st S .next S1) (h2 : ExL C G r S1 f S') : ExL C G (st :: r) S f S' := fun ρ s Q E L I h =>
 wpAny_execs_cons (h1 ρ s _ E L I fun ρ1 s1 L1 I1 S1 u _ => h2 ρ1 s1 Q E L1 I1 fun ρ' s' L' I' S' => h ρ' s' L' I' (S1.trans S'))
theorem exl_stop {st : Stmt} {r : List Stmt} {f : Fl} (hf : f ≠ .next) (h1 : ExS C G st S f S') : ExL C G (st :: r) S f S' := fun ρ s Q E L I h =>
 wpAny_execs_cons (h1 ρ s _ E L I fun ρ1 s1 L1 I1 S1 u hu => by
  have := h ρ1 s1 L1 I1 S1 u hu
  cases f <;> first | exact absurd rfl hf | exact this)
theorem addrs_filter (p : Own → Bool) : ∀ ρ : List Own, (addrs (ρ.filter p)).Sublist (addrs ρ)
 | [] => List.Sublist.refl _
 | o :: r => by
  have ih := addrs_filter p r
  rw [List.filter_cons]
  split
  ·exact List.Sublist.append (List.Sublist.refl _) ih
  ·exact List.Sublist.trans ih (List.sublist_append_right _ _)
theorem find_filter_ne {x y : Str} (hy : y ≠ x) : ∀ ρ : List Own, (ρ.filter (fun o => !(o.name == x))).find? (·.name == y) = ρ.find? (·.name == y)
 | [] => rfl
 | o :: r => by
  have ih := find_filter_ne hy r
  by_cases q : o.name = y
  ·have h1 : (!(o.name == x)) = true := by simp [q, hy]
   rw [List.filter_cons, if_pos h1, List.find?_cons, List.find?_cons]
   have h2 : (o.name == y) = true := by simp [q]
   rw [h2]
  ·have h2 : (o.name == y) = false := by simp [q]
   rw [List.find?_cons, h2, List.filter_cons]
   split
   ·rw [List.find?_cons, h2]; exact ih
   ·exact ih
theorem Inv.own_gen {m : Str → Option Value} {x : Str} {o : Own} {v : X} {s2 : Shared} (I : Inv C σ ρ s) (ox : o.name = x) (fr : ∀ b ∈ o.addrs, s.heap.get? b = none) (nd : o.addrs.Nodup) (ex : ∀ b ∈ o.addrs, ∃ ob, s2.heap.get? b = some ob) (hk : C.env.kindOf x = some .local)
  (hn : s.heap.Ns C.env.locals m) (hn' : s2.heap.Ns C.env.locals (fun y => if y = x then some (.ref o.at_) else m y)) (keep : ∀ b ob, b ≠ C.env.locals → s.heap.get? b = some ob → s2.heap.get? b = some ob)
  (hos : s2.os = s.os) (hgens : ∀ (k : Nat) (x : GenState), s.gens[k]? = some x → s2.gens[k]? = some x) (hbare : AllBare s.gens → AllBare s2.gens)
  (own : OwnAt s2.heap (C.hh (o :: ρ.filter (fun o => !(o.name == x))) s2) o (.ref o.at_) v) :
  Inv C (put σ x v) (o :: ρ.filter (fun o => !(o.name == x))) s2 ∧ Step C ρ (o :: ρ.filter (fun o => !(o.name == x))) s s2 := by
 have notOwn : ∀ b, (∃ ob, s.heap.get? b = some ob) → b ∉ o.addrs := fun b ⟨ob, e⟩ q => by exact none_ ((fr b q).symm.trans e)
 have haddr : ∀ b, b ∈ addrs (o :: ρ.filter (fun o => !(o.name == x))) → b ∈ o.addrs ∨ b ∈ addrs ρ := fun b hb => by
  obtain ⟨o', ho, hb'⟩ := List.mem_flatMap.mp hb
  rcases List.mem_cons.mp ho with q | ho
  ·rw [q] at hb'; exact .inl hb'
  ·exact .inr (mem_addrs (List.mem_filter.mp ho).1 b hb')
 have kh : Keeps (C.hh ρ s) (C.hh (o :: ρ.filter (fun o => !(o.name == x))) s2) := keeps_hide_sub fun b ob m' e => by
  refine ⟨fun q => ?_, keep b ob (fun q => m' (q ▸ (List.mem_append_right _ (.head _)))) e⟩
  rcases List.mem_append.mp q with q | q
  ·rcases haddr b q with q | q
   ·exact notOwn b ⟨ob, e⟩ q
   ·exact m' (List.mem_append_left _ q)
  ·exact m' (List.mem_append_right _ q)
 have cellk : ∀ c w, s.heap.IsCell c w → s2.heap.IsCell c w := fun c w e => by
  have : c ≠ C.env.locals := fun q => not_cell_ns e (q ▸ hn)
  obtain ⟨ob, e, d⟩ := e; exact ⟨ob, keep _ _ this e, d⟩
 have live : ∀ b, (∃ ob, s.heap.get? b = some ob) → ∃ ob, s2.heap.get? b = some ob := fun b ⟨ob, e⟩ => by
  by_cases q : b = C.env.locals
  ·subst q; obtain ⟨o', _, _, e', _⟩ := hn'; exact ⟨o', e'⟩
  ·exact ⟨ob, keep b ob q e⟩
 have hfind : ∀ y, y ≠ x → (o :: ρ.filter (fun o => !(o.name == x))).find? (·.name == y) = ρ.find? (·.name == y) := fun y hy => by
  rw [List.find?_cons]
  have : (o.name == y) = false := by rw [ox]; simpa using Ne.symm hy
  rw [this]
  exact find_filter_ne hy ρ
 have hfx : (o :: ρ.filter (fun o => !(o.name == x))).find? (·.name == x) = some o := by
  rw [List.find?_cons]
  have : (o.name == x) = true := by rw [ox]; simp
  rw [this]
 constructor
 ·refine ⟨I.gd, ⟨_, hn'⟩, fun b ob e => keep b ob (fun q => ?_) (I.keep b ob e), fun y w e => ?_, fun o' ho => ?_, fun p hp => ?_, ?_, ?_, fun b hb => ?_, fun b hb => ⟨live b (I.old b hb).1, fun q => ?_⟩, fun b hb => ?_, hbare I.bare, fun y c e => live c (I.cl y c e)⟩
  ·have := I.new C.env.locals (List.mem_append_right _ (.head _))
   rw [← q, e] at this; cases this
  ·unfold put at e
   split at e
   ·rename_i q; subst q; obtain rfl := sm_ e
    refine ⟨.ref o.at_, ?_, ?_⟩
    ·delta VarAt; exact hk ▸ (⟨_, hn', by simp⟩)
    ·exact hfx ▸ own
   ·rename_i q
    obtain ⟨u', h1, h2⟩ := I.vars y w e
    refine ⟨u', ?_, ?_⟩
    ·exact h1.stored hn hn' keep q
    ·rw [hfind y q]
     exact h2.at' (fun o ho b hb o' eb => keep b o' (I.notL b (List.mem_append_left _ (mem_addrs (find_mem ho) b hb))) eb) kh
  ·delta put
   rcases List.mem_cons.mp ho with rfl | ho
   ·exact ⟨_, (if_pos ox)⟩
   ·obtain ⟨ho1, ho2⟩ := List.mem_filter.mp ho
    obtain ⟨w, e⟩ := I.owns o' ho1
    exact ⟨w, by rw [if_neg (by simpa using ho2)]; exact e⟩
  ·obtain ⟨w, e⟩ := I.cells p hp
   exact ⟨w, cellk _ _ e⟩
  ·have sub : (addrs (ρ.filter (fun o => !(o.name == x))) ++ C.env.locals :: C.cs.map (·.2)).Sublist (addrs ρ ++ C.env.locals :: C.cs.map (·.2)) := List.Sublist.append (addrs_filter _ ρ) (List.Sublist.refl _)
   show ((o.addrs ++ addrs (ρ.filter (fun o => !(o.name == x)))) ++ C.env.locals :: C.cs.map (·.2)).Nodup
   rw [List.append_assoc, List.nodup_append]
   exact ⟨nd, I.nodup.sublist sub, fun a ha b hb q => by subst q; exact notOwn a (I.own' a (sub.subset hb)) ha⟩
  ·show (o.name :: (ρ.filter (fun o => !(o.name == x))).map (·.name)).Nodup
   refine List.nodup_cons.mpr ⟨fun q => ?_, I.names.sublist ((List.filter_sublist ..).map _)⟩
   obtain ⟨o', ho, e⟩ := List.mem_map.mp q
   have := (List.mem_filter.mp ho).2
   simp [e, ox] at this
  ·rcases List.mem_append.mp hb with q | q
   ·rcases haddr b q with q | q
    ·cases e : C.g.get? b with
     | none => rfl
     | some ob => have := I.keep _ _ e; exact none_ ((fr b q).symm.trans this)
    ·exact I.new b (List.mem_append_left _ q)
   ·exact I.new b (List.mem_append_right _ q)
  ·rcases List.mem_append.mp q with q | q
   ·rcases haddr b q with q | q
    ·exact notOwn b (I.old b hb).1 q
    ·exact (I.old b hb).2 (List.mem_append_left _ q)
   ·exact (I.old b hb).2 (List.mem_append_right _ q)
  ·rcases haddr b hb with q | q
   ·exact ex b q
   ·exact live b (I.there b q)
 ·refine ⟨fun b ob hb e => keep b ob (fun q => hb (q ▸ (List.mem_append_right _ (.head _)))) e, fun b hb => ?_, fun b h => ?_, hos, hgens, hbare⟩
  ·rcases haddr b hb with q | q
   ·exact .inr (fr b q)
   ·exact .inl q
  ·cases e : s.heap.get? b with
   | none => exact absurd e h
   | some ob =>
    obtain ⟨o', e'⟩ := live b ⟨ob, e⟩
    exact e' ▸ (fun z => nomatch z)
theorem Inv.own_new {m : Str → Option Value} {a : Addr} {l : List PyData} {x : Str} {s1 s2 : Shared} (I : Inv C σ ρ s) (X1 : Ext C.env.locals s s1) (fr : s.heap.get? a = none) (r : Rd (C.hh ρ s1) (.ref a) (.list l)) (hk : C.env.kindOf x = some .local)
  (hn : s.heap.Ns C.env.locals m) (hn' : s2.heap.Ns C.env.locals (fun y => if y = x then some (.ref a) else m y)) (keep : ∀ b o, b ≠ C.env.locals → s1.heap.get? b = some o → s2.heap.get? b = some o)
  (hos : s2.os = s1.os) (hgens : ∀ (k : Nat) (x : GenState), s1.gens[k]? = some x → s2.gens[k]? = some x) (hbare : AllBare s1.gens → AllBare s2.gens) :
  Inv C (put σ x (.d (.list l))) (⟨x, a, [], false⟩ :: ρ.filter (fun o => !(o.name == x))) s2 ∧ Step C ρ (⟨x, a, [], false⟩ :: ρ.filter (fun o => !(o.name == x))) s s2 := by
 have aL : a ≠ C.env.locals := fun q => by
  obtain ⟨m0, o, _, _, e, _⟩ := I.ns
  exact none_ (fr.symm.trans (q.symm ▸ e))
 obtain ⟨a', vs, nn, e0, ho, rl⟩ := r.list_
 obtain rfl : a = a' := by injection e0
 have hoa := keep _ _ aL (of_hideAll _ ho)
 have one : ∀ {p : Addr → Prop}, p a → ∀ b ∈ (⟨x, a, [], false⟩ : Own).addrs, p b := fun h b hb => List.mem_singleton.mp hb ▸ h
 refine I.own_gen (o := ⟨x, a, [], false⟩) rfl (one fr) (List.nodup_cons.mpr ⟨List.not_mem_nil, List.nodup_nil⟩) (one ⟨_, hoa⟩) hk hn hn' (fun b o q e => keep b o q (X1.keep b o q e)) (hos.trans X1.os) (fun k z e => hgens k z (X1.gens k z e)) (fun h => hbare (X1.bare h)) ⟨rfl, l, vs, rfl, ⟨nn, hoa⟩, rfl, ?_⟩
 have := RdL.hideA (r : Rd (hideAll s1.heap (addrs ρ ++ C.hide)) (.ref a) (.list l)) rl (by simp only [PyData.list.sizeOf_spec]; exact leS)
 refine this.keeps (keeps_hide_sub fun b o m' e => ⟨fun q => ?_, keep b o (fun q => m' (q ▸ (.tail _ (List.mem_append_right _ (.head _))))) e⟩)
 rcases List.mem_append.mp q with q | q
 ·obtain ⟨o, ho, hb⟩ := List.mem_flatMap.mp q
  rcases List.mem_cons.mp ho with q | ho
  ·rw [q] at hb; exact m' (List.mem_singleton.mp hb ▸ .head _)
  ·exact m' (.tail _ (List.mem_append_left _ (mem_addrs (List.mem_filter.mp ho).1 b hb)))
 ·exact m' (.tail _ (List.mem_append_right _ q))
end
end
section
open PySem.Calls
section
variable {C : Cx} {G : Fn} {σ σ0 τ : Sig} {ρ : List Own} {s s' : Shared} {E : Value → Shared → Prop} {k n : Nat} {S S' : St}
theorem addr_one : ∀ {ρ : List Own}, (addrs ρ).Nodup → ∀ {o o' : Own} {c : Addr}, o ∈ ρ → o' ∈ ρ → c ∈ o.addrs → c ∈ o'.addrs → o = o'
 | [], _, _, _, _, h, _, _, _ => (nomatch h)
 | p :: r, hn, o, o', c, h, h', hc, hc' => by
  have hn : (p.addrs ++ addrs r).Nodup := hn
  rw [List.nodup_append] at hn
  rcases List.mem_cons.mp h with rfl | g
  ·rcases List.mem_cons.mp h' with rfl | g'
   ·rfl
   ·exact absurd rfl (hn.2.2 c hc c (mem_addrs g' c hc'))
  ·rcases List.mem_cons.mp h' with rfl | g'
   ·exact absurd rfl (hn.2.2 c hc' c (mem_addrs g c hc))
   ·exact addr_one hn.2.1 g g' hc hc'
theorem VarAt.at' {env : Env} {h h' : Heap} {x : Str} {v : Value} (kL : ∀ o, h.get? env.locals = some o → h'.get? env.locals = some o) (kc : ∀ c o, env.cells.lookup x = some c → h.get? c = some o → h'.get? c = some o) (y : VarAt env h x v) : VarAt env h' x v := by
 exact y.map (fun m n e => ⟨m, n.at' kL, e⟩) fun _ c n e => let ⟨o, e1, d⟩ := e; ⟨o, kc c o n e1, d⟩
theorem Inv.own_upd {o : Own} {x : Str} {c : Addr} {v' : X} (I : Inv C σ ρ s) (ho : ρ.find? (·.name == x) = some o) (hc : c ∈ o.addrs) (hcell : ∀ y d, C.env.cells.lookup y = some d → d ≠ c) (keep : ∀ b ob, b ≠ c → s.heap.get? b = some ob → s'.heap.get? b = some ob) (hl : ∃ ob, s'.heap.get? c = some ob)
  (hos : s'.os = s.os) (hgens : ∀ (k : Nat) (x : GenState), s.gens[k]? = some x → s'.gens[k]? = some x) (hbare : AllBare s.gens → AllBare s'.gens) (new : OwnAt s'.heap (C.hh ρ s') o (.ref o.at_) v') :
  Inv C (put σ x v') ρ s' ∧ Step C ρ ρ s s' := by
 have hm := find_mem ho
 have hx := own_name ho
 have hca : c ∈ addrs ρ := mem_addrs hm c hc
 have cL : C.env.locals ≠ c := fun q => I.notL c (List.mem_append_left _ hca) q.symm
 have nod := I.nodup
 rw [List.nodup_append] at nod
 have kh : Keeps (C.hh ρ s) (C.hh ρ s') := keeps_hide fun b ob m e => keep b ob (fun q => m (q ▸ (List.mem_append_left _ hca))) e
 have live : ∀ b, (∃ ob, s.heap.get? b = some ob) → ∃ ob, s'.heap.get? b = some ob := fun b ⟨ob, e⟩ => by
  by_cases q : b = c
  ·subst q; exact hl
  ·exact ⟨ob, keep b ob q e⟩
 constructor
 ·refine ⟨I.gd, ?_, fun b ob e => keep b ob (fun q => ?_) (I.keep b ob e), fun y w e => ?_, fun p hp => ?_, fun p hp => ?_, I.nodup, I.names, I.new, fun a ha => ⟨live a (I.old a ha).1, (I.old a ha).2⟩, fun a ha => live a (I.there a ha), hbare I.bare, fun y d e => live d (I.cl y d e)⟩
  ·obtain ⟨m, n⟩ := I.ns; exact ⟨m, n.at' fun ob e => keep _ _ cL e⟩
  ·have := I.new c (List.mem_append_left _ hca)
   rw [← q, e] at this; cases this
  ·unfold put at e
   split at e
   ·rename_i q; subst q; obtain rfl := sm_ e
    obtain ⟨w0, e0⟩ := I.owns o hm
    rw [hx] at e0
    obtain ⟨u, h1, h2⟩ := I.vars y w0 e0
    rw [ho] at h2
    obtain ⟨e1, _⟩ := h2
    subst e1
    exact ⟨_, h1.at' (fun ob e => keep _ _ cL e) (fun d ob hd e => keep _ _ (hcell y d hd) e), by rw [ho]; exact new⟩
   ·rename_i q
    obtain ⟨u, h1, h2⟩ := I.vars y w e
    refine ⟨u, h1.at' (fun ob e => keep _ _ cL e) (fun d ob hd e => keep _ _ (hcell y d hd) e), ?_⟩
    refine h2.at' (fun o' ho' b hb ob eb => keep b ob (fun z => q ?_) eb) kh
    rw [← own_name ho', ← addr_one nod.1 hm (find_mem ho') hc (z ▸ hb), hx]
  ·obtain ⟨w, e⟩ := I.owns p hp
   unfold put
   by_cases q : p.name = x
   ·exact ⟨v', by rw [if_pos q]⟩
   ·exact ⟨w, by rw [if_neg q]; exact e⟩
  ·obtain ⟨w, ob, e, d⟩ := I.cells p hp
   exact ⟨w, ob, keep _ _ (fun q => nod.2.2 c hca _ (.tail _ (List.mem_map_of_mem hp)) q.symm) e, d⟩
 ·refine ⟨fun b ob hb e => keep b ob (fun q => hb (q ▸ (List.mem_append_left _ hca))) e, fun a h => .inl h, fun b h => ?_, hos, hgens, hbare⟩
  cases e : s.heap.get? b with
  | none => exact absurd e h
  | some ob =>
   obtain ⟨o', e'⟩ := live b ⟨ob, e⟩
   rw [e']; exact fun z => nomatch z
theorem cell_ne (K : FnOk G C k) (I : Inv C σ ρ s) {c : Addr} (hc : c ∈ addrs ρ) : ∀ y d, C.env.cells.lookup y = some d → d ≠ c := fun y d e q => by
 have nod := I.nodup
 rw [List.nodup_append] at nod
 exact nod.2.2 c hc d (.tail _ (K.cl y d e)) q.symm
theorem ex_own {x : Str} {px pos : Pos} {e : Expr} {l : List PyData} (K : FnOk G C k) (hx : G.okOwn x = true) (hm : makesList e = true) (he : ∀ ρ, LinkOk G S ρ → Evs C S.σ ρ e (.d (.list l))) (hsw : swapsWith e (some (.Name x px)) pos.line C.env = pure false) :
  ExS C G (.Assign [.Name x px] e pos) S .next ⟨put S.σ x (.d (.list l)), x :: S.own⟩ := fun ρ s Q E L I h => by
 delta Fn.okOwn at hx
 obtain ⟨hx1, hx3⟩ := and2 hx
 obtain ⟨hx1, hx2⟩ := and2 hx1
 have hk : C.env.kindOf x = some .local := by rw [← K.kd]; exact eq_of_beq hx1
 have hx3 : G.own2.contains x = false := by simpa using hx3
 refine wpAny_Assign_Name (he ρ L s _ _ I fun u s1 X1 r1 fr => ?_) hsw
 obtain ⟨a, vs, nn, rfl, _, _⟩ := Rd.list_ r1
 obtain ⟨m, n0⟩ := I.ns
 have n := X1.ns m n0
 refine wpAny_storeName_local hk n (fun h' n' hs => ?_) (K.cx.fn ▸ rfl)
 obtain ⟨I', S'⟩ := I.own_new (s2 := { s1 with heap := h', toks := s1.toks + 1 }) X1 (fr hm a rfl) r1 hk n0 n' (fun b o q e => hs.extBut b o q e) rfl (fun _ _ e => e) id
 refine h _ _ ⟨fun o ho => ?_, fun y hy => ?_, fun y w hy hw => ?_⟩ I' S' .none fun _ z => (nomatch z)
 ·rcases List.mem_cons.mp ho with rfl | ho
  ·exact ⟨by simp, hx2, hx3⟩
  ·obtain ⟨ho1, ho2⟩ := List.mem_filter.mp ho
   have hne : ¬ o.name = x := by simpa using ho2
   have := L.own o ho1
   cases q : o.two with
   | false => rw [q] at this; exact ⟨by simpa using Or.inr (by simpa using this.1), this.2⟩
   | true => rw [q] at this; exact ⟨by simpa [hne] using this.1, this.2⟩
 ·by_cases q : y = x
  ·subst q; exact ⟨⟨y, a, [], false⟩, by rw [List.find?_cons]; simp⟩
  ·have : S.own.contains y = true := by simpa [q] using hy
   obtain ⟨o, ho⟩ := L.full y this
   refine ⟨o, ?_⟩
   rw [List.find?_cons]
   have : ((⟨x, a, [], false⟩ : Own).name == y) = false := by simpa using Ne.symm q
   rw [this]
   exact (find_filter_ne q ρ).trans ho
 ·have q : y ≠ x := fun q => by rw [q, hx3] at hy; cases hy
  unfold Mine.put at hw
  dsimp only at hw
  rw [if_neg q] at hw
  obtain ⟨o, ho⟩ := L.full2 y w hy hw
  refine ⟨o, ?_⟩
  rw [List.find?_cons]
  have : ((⟨x, a, [], false⟩ : Own).name == y) = false := by simpa using Ne.symm q
  rw [this]
  exact (find_filter_ne q ρ).trans ho
theorem any_no {f : Expr → Bool} {a b : Expr} (ha : noStar a = true) (hb : noStar b = true) (hf : ∀ e, noStar e = true → f e = false) : ¬ [a, b].any f = true := by
 rw [List.any_cons, List.any_cons, hf a ha, hf b hb]; exact Bool.false_ne_true
theorem fm2 {f : Expr → Option Str} {a b : Expr} {x y : Str} (h1 : f a = some x) (h2 : f b = some y) : [a, b].filterMap f = [x, y] := by
 rw [List.filterMap_cons, h1, List.filterMap_cons, h2]; rfl
theorem line_of {k : Option NameKind} {l l' : Nat} (h1 : k = some .local) (h2 : l = l') : (k == some .local && l == l') = true := by rw [h1, h2, beq_self_eq_true, beq_self_eq_true]; rfl
theorem swapped_ok {x y : Str} {px py : Pos} {a b : Expr} {kk : Nat} {kp : Pos} {kt : Nat} {tp : Pos} (K : FnOk G C k) (h : swapT G.kd x px y py a b = true) (ha : noStar a = true) (hb : noStar b = true) :
  swappedStores [.Tuple [.Name x px, .Name y py] kt tp] (.Tuple [a, b] kk kp) C.env = pure (some [x, y]) := by
 delta swapT at h
 obtain ⟨h, h6⟩ := and2 h
 obtain ⟨h, h5⟩ := and2 h
 obtain ⟨h, h4⟩ := and2 h
 obtain ⟨h, h3⟩ := and2 h
 obtain ⟨h1, h2⟩ := and2 h
 have k1 : C.env.kindOf x = some .local := by rw [← K.kd]; exact eq_of_beq h1
 have k2 : C.env.kindOf y = some .local := by rw [← K.kd]; exact eq_of_beq h2
 have hbk : C.env.blockKind = .function := by unfold Env.blockKind; rw [K.cx.fn]; rfl
 have hxy : ¬ x = y := by simpa using h4
 have h5' : ([a, b].all (foldedForSure 8)) = false := (Bool.not_eq_true' _).mp h5
 have h6' : ([a, b].all (constantsAlone 8)) = false := (Bool.not_eq_true' _).mp h6
 have hpl : py.line = px.line := (eq_of_beq h3).symm
 have hne : (y == x) = false := by simpa using fun q => hxy q.symm
 have hd : ([x, y] : List Str).eraseDups.length = 2 := by simp [List.eraseDups, List.eraseDupsBy, List.eraseDupsBy.loop, hne]
 have key : ∀ nm : List Str, nm = [x, y] → (if (nm.length != 2 || nm.eraseDups.length != nm.length) = true then pure none else if [a, b].all (foldedForSure 8) = true then pure none else if [a, b].all (constantsAlone 8) = true then unsupported "assign.tuple-of-constant-expressions:order-of-the-stores" else pure (some nm) : Sem (Option (List Str))) = pure (some [x, y]) := by
  rintro _ rfl
  rw [hd, h5', h6']; rfl
 delta swappedStores
 refine (if_neg (by rw [hbk]; exact fun z => nomatch z)).trans ((if_neg (any_no ha hb fun e h => ?_)).trans (key _ (fm2 (if_pos (line_of k1 rfl)) (if_pos (line_of k2 hpl)))))
 cases e <;> first | rfl | exact nomatch h
end
end
section
open PySem.Calls
noncomputable def Cx.with (C : Cx) (wr : List Addr) : Cx := { C with H := wr ++ C.H }
section
variable {C : Cx} {G : Fn} {σ σ0 τ : Sig} {ρ : List Own} {s s' : Shared} {E : Value → Shared → Prop} {k n : Nat} {S S' : St}
theorem put_same {ok : Str → Bool} {x y : Str} {d : X} (hy : ok y = false) (hx : ok x = true) : put σ x d y = σ y := if_neg fun q => by rw [q, hx] at hy; exact Bool.noConfusion hy
theorem bindTD_same {ok : Str → Bool} {tgt : Expr} {p : PyData} {y : Str} (hy : ok y = false) (e : bindTD ok tgt σ p = some τ) : τ y = σ y :=
 bindE (P := fun _ _ τ => τ y = σ y) e (fun x q hx => put_same hy hx) fun ts k q l e => putD_elim (P := fun σ _ _ τ => τ y = σ y) (fun _ => rfl) (fun _ _ _ _ _ _ _ hx _ ih => ih.trans (put_same hy hx)) e
theorem LinkOk.bind {tgt : Expr} {p : PyData} (L : LinkOk G S ρ) (e : bindTD G.ok tgt S.σ p = some τ) : LinkOk G { S with σ := τ } ρ :=
 ⟨L.own, L.full, fun y w hy hw => by
  have : G.ok y = false := by
   cases q : G.ok y with
   | false => rfl
   | true => rw [(ok_parts q).2.2] at hy; cases hy
  have hw : τ y = some w := hw
  rw [bindTD_same this e] at hw
  exact L.full2 y w hy hw⟩
theorem FnOk.with (K : FnOk G C k) (wr : List Addr) : FnOk G (C.with wr) k := ⟨K.T, K.kd, ⟨K.cx.fn, K.cx.gl, K.cx.bl, K.cx.lv⟩, K.cell, K.cl⟩
theorem Step.with {wr : List Addr} {ρ' : List Own} (x : Step (C.with wr) ρ ρ' s s') : Step C ρ ρ' s s' := ⟨x.keep, x.sub, x.live, x.os, x.gens, x.bare⟩
theorem Inv.into {wr : List Addr} (I : Inv C σ ρ s) (X : Ext C.env.locals s s') (hw : ∀ b ∈ wr, s.heap.get? b = none) (ht : ∀ b ∈ wr, ∃ o, s'.heap.get? b = some o) : Inv (C.with wr) σ ρ s' ∧ Keeps (C.hh ρ s) ((C.with wr).hh ρ s') := by
 have I1 := I.ext X
 have kk : Keeps (C.hh ρ s) ((C.with wr).hh ρ s') := keeps_hide_sub fun b o m e => by
  refine ⟨fun q => ?_, X.keep b o (fun q => m (q ▸ (List.mem_append_right _ (.head _)))) e⟩
  rcases List.mem_append.mp q with q | q
  ·exact m (List.mem_append_left _ q)
  ·rcases List.mem_cons.mp q with q | q
   ·exact m (q ▸ (List.mem_append_right _ (.head _)))
   ·rcases List.mem_append.mp q with q | q
    ·exact m (List.mem_append_right _ (.tail _ (List.mem_append_left _ q)))
    ·rcases List.mem_append.mp q with q | q
     ·exact none_ ((hw b q).symm.trans e)
     ·exact m (List.mem_append_right _ (.tail _ (List.mem_append_right _ q)))
 refine ⟨⟨I.gd, I1.ns, I1.keep, fun y v e => ?_, I.owns, I1.cells, I.nodup, I.names, I.new, fun a ha => ?_, I1.there, I1.bare, I1.cl⟩, kk⟩
 ·obtain ⟨u, h1, h2⟩ := I.vars y v e
  obtain ⟨m, n⟩ := I.ns
  refine ⟨u, h1.ext X n, ?_⟩
  exact h2.at' (fun o ho a ha b eb => X.keep a b (I.notL a (List.mem_append_left _ (mem_addrs (find_mem ho) a ha))) eb) kk
 ·rcases List.mem_append.mp ha with q | q
  ·refine ⟨ht a q, fun z => ?_⟩
   obtain ⟨o, e⟩ := I.own' a z
   exact none_ ((hw a q).symm.trans e)
  ·exact I1.old a q
theorem Inv.out {wr : List Addr} {gw : List Nat} (I : Inv (C.with wr) σ ρ s) (x : Mv wr gw s s') (hg : ∀ b ∈ wr, C.g.get? b = none) (hc : ∀ y c, C.env.cells.lookup y = some c → c ∉ wr) (hH : ∀ a ∈ C.H, a ∉ wr) :
  Inv C σ ρ s' ∧ Keeps ((C.with wr).hh ρ s) (C.hh ρ s') := by
 have nw : ∀ a ∈ addrs ρ ++ C.env.locals :: C.cs.map (·.2), a ∉ wr := fun a ha q => (I.old a (List.mem_append_left _ q)).2 ha
 have kh : Keeps ((C.with wr).hh ρ s) (C.hh ρ s') := keeps_hide_sub fun b o m e => by
  refine ⟨fun q => m ?_, x.keep b o (fun q => m (List.mem_append_right _ (.tail _ (List.mem_append_right _ (List.mem_append_left _ q))))) e⟩
  rcases List.mem_append.mp q with q | q
  ·exact List.mem_append_left _ q
  ·rcases List.mem_cons.mp q with q | q
   ·rw [q]; exact List.mem_append_right _ (.head _)
   ·rcases List.mem_append.mp q with q | q
    ·exact List.mem_append_right _ (.tail _ (List.mem_append_left _ q))
    ·exact List.mem_append_right _ (.tail _ (List.mem_append_right _ (List.mem_append_right _ q)))
 have keepE : ∀ a, a ∉ wr → (∃ o, s.heap.get? a = some o) → ∃ o, s'.heap.get? a = some o := fun a q ⟨o, e⟩ => ⟨o, x.keep _ _ q e⟩
 refine ⟨⟨I.gd, ?_, fun b o e => x.keep b o (fun q => ?_) (I.keep b o e), fun y v e => ?_, I.owns, fun p hp => ?_, I.nodup, I.names, I.new, fun a ha => ?_, fun a ha => ?_, x.bare I.bare, fun y c e => keepE c (hc y c e) (I.cl y c e)⟩, kh⟩
 ·obtain ⟨m, n⟩ := I.ns; exact ⟨m, n.at' fun o e => x.keep _ _ (nw _ (List.mem_append_right _ (.head _))) e⟩
 ·have := hg b q
  have e : C.g.get? b = some o := e
  exact none_ (this.symm.trans e)
 ·obtain ⟨u, h1, h2⟩ := I.vars y v e
  refine ⟨u, h1.at' (fun o e => x.keep _ _ (nw _ (List.mem_append_right _ (.head _))) e) fun c o hc' e => x.keep _ _ (hc y c hc') e, ?_⟩
  exact h2.at' (fun o ho a ha b eb => x.keep a b (nw a (List.mem_append_left _ (mem_addrs (find_mem ho) a ha))) eb) kh
 ·obtain ⟨v, o, e, d⟩ := I.cells p hp
  exact ⟨v, o, x.keep _ _ (nw _ (List.mem_append_right _ (.tail _ (List.mem_map_of_mem hp)))) e, d⟩
 ·have := I.old a (List.mem_append_right _ ha)
  exact ⟨keepE a (hH a ha) this.1, this.2⟩
 ·exact keepE a (nw a (List.mem_append_left _ ha)) (I.there a ha)
noncomputable def flowOf : Fl → Value → Flow
 | .next, _ => .next
 | .brk, _ => .brk
 | .cont, _ => .cont
 | .ret _, u => .ret u
noncomputable def LoopAt (C : Cx) (G : Fn) (tgt : Expr) (fp wr : List Addr) (h0 : Heap) (ps : List PyData) (St : Nat → Shared → Prop) (body : Mine.St → Option (Fl × Mine.St)) (f : Fl) (S' : Mine.St) (ρ0 : List Own) (s0 : Shared) (n : Nat) (s' : Shared) : Prop :=
 ∃ (i : Nat) (S1 : Mine.St) (ρ1 : List Own), n = ps.length + 1 - i ∧ i ≤ ps.length ∧ loopL (bndT G tgt) body (ps.drop i) S1 = some (f, S') ∧
   LinkOk G S1 ρ1 ∧ Inv (C.with wr) S1.σ ρ1 s' ∧ St i s' ∧ Keeps h0 ((C.with wr).hh ρ1 s') ∧ (∀ b ∈ fp, b ∉ C.own' ρ1) ∧ Step C ρ0 ρ1 s0 s'
structure LoopOk (C : Cx) (G : Fn) (b : List Stmt) (J : Addr) (fp wr : List Addr) (gw : List Nat) (h0 : Heap) (ps : List PyData) (St : Nat → Shared → Prop) (body : Mine.St → Option (Fl × Mine.St)) (s0 : Shared) : Prop where
 W : It C.M C.A J fp wr gw h0 ps St
 hb : ∀ (S : Mine.St) (f : Fl) (S' : Mine.St), body S = some (f, S') → ExL (C.with wr) G b S f S'
 hg : ∀ b ∈ wr, C.g.get? b = none
 hc : ∀ y c, C.env.cells.lookup y = some c → c ∉ wr
 hH : ∀ a ∈ C.H, a ∉ wr
 hs0 : ∀ b ∈ wr, s0.heap.get? b = none
 hgw : ∀ k ∈ gw, s0.gens[k]? = none
theorem step_mv {wr : List Addr} {gw : List Nat} {s0 : Shared} (hs0 : ∀ b ∈ wr, s0.heap.get? b = none) (hgw : ∀ k ∈ gw, s0.gens[k]? = none) {ρ0 ρ : List Own} {a b : Shared} (x : Step C ρ0 ρ s0 a) (y : Mv wr gw a b) : Step C ρ0 ρ s0 b :=
  ⟨fun c o hc e => y.keep c o (fun q => by exact none_ ((hs0 c q).symm.trans e)) (x.keep c o hc e), x.sub, fun c h => by
   cases e : s0.heap.get? c with
   | none => exact absurd e h
   | some o =>
    have := x.live c h
    cases e1 : a.heap.get? c with
    | none => exact absurd e1 this
    | some o1 => rw [y.keep c o1 (fun q => by exact none_ ((hs0 c q).symm.trans e)) e1]; exact (fun z => (nomatch z)), y.os.trans x.os, fun k z e => y.gens k z (fun q => by exact none_ ((hgw k q).symm.trans e)) (x.gens k z e), fun h => y.bare (x.bare h)⟩
theorem for_turn {tgt : Expr} {b : List Stmt} {J : Addr} {fp wr : List Addr} {gw : List Nat} {h0 : Heap} {ps : List PyData} {St : Nat → Shared → Prop} {body : Mine.St → Option (Fl × Mine.St)} {f : Fl} {s0 s3 : Shared} {ρ0 ρ1 : List Own} {R : Result → Shared → Prop} {S1 : Mine.St} {v : Value} {p : PyData} {i : Nat} {P : Nat → Shared → Prop} {E1 E2 E3 : Value → Shared → Prop}
  (Z : LoopOk C G b J fp wr gw h0 ps St body s0) (K : FnOk G C k) (hp : ps[i]? = some p)
  (hR : ∀ ρ' s', LinkOk G S' ρ' → Inv C S'.σ ρ' s' → Step C ρ0 ρ' s0 s' → ∀ u, (∀ v, f = .ret v → RdO C ρ' s' u v) → R (.ok (flowOf f u)) s')
  (hP : ∀ m s, LoopAt C G tgt fp wr h0 ps St body f S' ρ0 s0 m s → P m s)
  (e2 : loopL (bndT G tgt) body (ps.drop i) S1 = some (f, S'))
  (L1 : LinkOk G S1 ρ1) (I3 : Inv (C.with wr) S1.σ ρ1 s3) (st3 : St (i + 1) s3) (kh3 : Keeps h0 ((C.with wr).hh ρ1 s3)) (hfp1 : ∀ b ∈ fp, b ∉ C.own' ρ1) (hst3 : Step C ρ0 ρ1 s0 s3)
  (rv : Rd ((C.with wr).hh ρ1 s3) v p) (hgo : ∀ t (Q' : Unit → Shared → Prop) E', Q' () s3 → wpAny C.M C.A (letOwnedTupleGo t (.ref J) v) Q' E' s3) :
  wpAny C.M C.A (letOwnedTupleGo tgt (.ref J) v) (fun _ s₁' => wpAny C.M C.A (assign tgt C.env v) (fun _ s₂ => wpAny C.M C.A (execs b C.env) (fun f s₃ => match f with
      | .next | .cont => ∃ m, m < ps.length + 1 - i ∧ P m s₃
      | .brk => R (.ok .next) s₃
      | .ret v => R (.ok (.ret v)) s₃) E1 s₂) E2 s₁') E3 s3 := by
 have hlt : i < ps.length := (List.getElem?_eq_some_iff.mp hp).1
 have hdrop : ps.drop i = p :: ps.drop (i + 1) := by
  obtain ⟨h1, h2⟩ := List.getElem?_eq_some_iff.mp hp
  rw [List.drop_eq_getElem_cons h1, h2]
 rw [hdrop] at e2
 refine bndE e2 fun S0 hb1 e3 => bndE e3 fun fs hbd e4 => hgo _ _ _ ?_
 obtain ⟨σ1, hb2, rfl⟩ := mpd hb1
 clear e2 e3
 refine bind_sound (C := C.with wr) (L1.st (K.with wr)) K.cx.lv.hh hb2 I3 rv fun s4 I4 S4 => ?_
 have st4 : St (i + 1) s4 := Z.W.frame _ _ _ st3 (fun b hb o e => S4.keep b o (hfp1 b hb) e) S4.gens S4.bare
 refine Z.hb _ fs.1 fs.2 hbd ρ1 s4 _ _ (L1.bind hb2) I4 fun ρ2 s5 L5 I5 S5 u hu => ?_
 have S45 := (S4.trans S5)
 have hst5 : Step C ρ0 ρ2 s0 s5 := hst3.trans S45.with
 have hfp5 : ∀ b ∈ fp, b ∉ C.own' ρ2 := fun b hb q => by
  rcases List.mem_append.mp q with q | q
  ·rcases S45.sub b q with q | q
   ·exact hfp1 b hb (List.mem_append_left _ q)
   ·obtain ⟨o, e⟩ := Z.W.there _ _ st3 b hb; exact none_ (q.symm.trans e)
  ·exact hfp1 b hb (List.mem_append_right _ q)
 have again : loopL (bndT G tgt) body (ps.drop (i + 1)) fs.2 = some (f, S') → ∃ m, m < ps.length + 1 - i ∧ P m s5 := fun q =>
  ⟨_, Nat.sub_lt_sub_left (Nat.lt_succ_of_lt hlt) (Nat.lt_succ_self i), hP _ _ ⟨i + 1, fs.2, ρ2, rfl, hlt, q, L5, I5, Z.W.frame _ _ _ st4 (fun b hb o e => S5.keep b o (hfp1 b hb) e) S5.gens S5.bare, fun b o e => S45.hh b o (kh3 b o e), hfp5, hst5⟩⟩
 obtain ⟨f2, S2⟩ := fs
 cases f2 with
 | next => exact again e4
 | cont => exact again e4
 | brk =>
  obtain ⟨rfl, rfl⟩ := Prod.mk.inj (sm_ e4)
  exact hR ρ2 s5 L5 (I5.out (gw := gw) .refl Z.hg Z.hc Z.hH).1 hst5 .none fun _ z => (nomatch z)
 | ret w =>
  obtain ⟨rfl, rfl⟩ := Prod.mk.inj (sm_ e4)
  obtain ⟨Io, ko⟩ := I5.out (gw := gw) .refl Z.hg Z.hc Z.hH
  refine hR ρ2 s5 L5 Io hst5 u fun w' z => ?_
  obtain rfl : w = w' := by injection z
  exact (hu _ rfl).imp (fun r => r.keeps ko) fun ⟨a, l, vs, e1, e2, e3, e4, e5⟩ => ⟨a, l, vs, e1, e2, e3, e4.keeps ko, e5⟩
theorem for_step {tgt : Expr} {b : List Stmt} {J : Addr} {fp wr : List Addr} {gw : List Nat} {h0 : Heap} {ps : List PyData} {St : Nat → Shared → Prop} {body : Mine.St → Option (Fl × Mine.St)} {f : Fl} {s0 s2 : Shared} {ρ0 : List Own} {R : Result → Shared → Prop} {P : Nat → Shared → Prop} {n : Nat} {E1 E2 E3 E4 E5 : Value → Shared → Prop}
  (Z : LoopOk C G b J fp wr gw h0 ps St body s0) (K : FnOk G C k)
  (hR : ∀ ρ' s', LinkOk G S' ρ' → Inv C S'.σ ρ' s' → Step C ρ0 ρ' s0 s' → ∀ u, (∀ v, f = .ret v → RdO C ρ' s' u v) → R (.ok (flowOf f u)) s')
  (hP : ∀ m s, LoopAt C G tgt fp wr h0 ps St body f S' ρ0 s0 m s → P m s) (h : LoopAt C G tgt fp wr h0 ps St body f S' ρ0 s0 n s2) :
  wpAny C.M C.A (pyNext (.ref J)) (fun r s₁ => match r with
   | none => wpAny C.M C.A (execs [] C.env) (fun f s₃ => R (.ok f) s₃) E4 s₁
   | some v => wpAny C.M C.A (letOwnedTupleGo tgt (.ref J) v) (fun _ s₁' => wpAny C.M C.A (assign tgt C.env v) (fun _ s₂ => wpAny C.M C.A (execs b C.env) (fun f s₃ => match f with
      | .next | .cont => ∃ m, m < n ∧ P m s₃
      | .brk => R (.ok .next) s₃
      | .ret v => R (.ok (.ret v)) s₃) E1 s₂) E2 s₁') E3 s₁) E5 s2 := by
 obtain ⟨i, S1, ρ1, rfl, hi, e2, L1, I1, st1, kh1, hfp1, hst1⟩ := h
 rcases Nat.lt_or_ge i ps.length with hlt | hge
 ·obtain ⟨p, hp⟩ : ∃ p, ps[i]? = some p := ⟨_, List.getElem?_eq_getElem hlt⟩
  refine Z.W.item i p s2 _ _ hp st1 fun v s3 st3 mv3 hrd hgo => ?_
  obtain ⟨I3, k3⟩ := I1.mv mv3 (fun b hb => List.mem_append_left _ hb) (fun b hb => Z.W.there _ _ st3 b (Z.W.sub b hb)) Z.hg Z.hc
  exact for_turn Z K hp hR hP e2 L1 I3 st3 (fun b o e => k3 b o (kh1 b o e)) hfp1 (step_mv Z.hs0 Z.hgw hst1 mv3) (hrd _ kh1 I1.hidLt) hgo
 ·have hil : i = ps.length := by exact Nat.le_antisymm ‹_› ‹_›
  subst hil
  rw [List.drop_of_length_le (Nat.le_refl _)] at e2
  obtain ⟨rfl, rfl⟩ := Prod.mk.inj (sm_ e2)
  refine Z.W.done s2 _ _ st1 fun s3 mv3 => wpAny_execs_nil ?_
  obtain ⟨Io, ko⟩ := I1.out mv3 Z.hg Z.hc Z.hH
  exact hR ρ1 s3 L1 Io (step_mv Z.hs0 Z.hgw hst1 mv3) .none fun _ z => (nomatch z)
theorem for_loop {tgt : Expr} {b : List Stmt} {J : Addr} {fp wr : List Addr} {gw : List Nat} {h0 : Heap} {ps : List PyData} {St : Nat → Shared → Prop} {body : Mine.St → Option (Fl × Mine.St)} {f : Fl} {s0 s1 : Shared} {ρ0 : List Own} {R : Result → Shared → Prop}
  (W : It C.M C.A J fp wr gw h0 ps St) (K : FnOk G C k) (hb : ∀ (S : Mine.St) (f : Fl) (S' : Mine.St), body S = some (f, S') → ExL (C.with wr) G b S f S')
  (hg : ∀ b ∈ wr, C.g.get? b = none) (hc : ∀ y c, C.env.cells.lookup y = some c → c ∉ wr) (hH : ∀ a ∈ C.H, a ∉ wr) (hs0 : ∀ b ∈ wr, s0.heap.get? b = none) (hgw : ∀ k ∈ gw, s0.gens[k]? = none)
  (e : loopL (bndT G tgt) body ps S = some (f, S'))
  (L : LinkOk G S ρ) (I : Inv (C.with wr) S.σ ρ s1) (st : St 0 s1) (kh : Keeps h0 ((C.with wr).hh ρ s1)) (hfp : ∀ b ∈ fp, b ∉ C.own' ρ) (hst : Step C ρ0 ρ s0 s1)
  (hR : ∀ ρ' s', LinkOk G S' ρ' → Inv C S'.σ ρ' s' → Step C ρ0 ρ' s0 s' → ∀ u, (∀ v, f = .ret v → RdO C ρ' s' u v) → R (.ok (flowOf f u)) s') :
  codeAny C.M C.A (.forLoop tgt (.ref J) b [] C.env) R s1 :=
 codeAny_forLoop_any (LoopAt C G tgt fp wr h0 ps St body f S' ρ0 s0) (fun n s2 h => for_step ⟨W, hb, hg, hc, hH, hs0, hgw⟩ K hR (fun _ _ x => x) h) (ps.length + 1)
  ⟨0, S, ρ, by rfl, Nat.zero_le _, by simpa using e, L, I, st, kh, hfp, hst⟩
theorem gen_loop {tgt : Expr} {b : List Stmt} {J Lg : Addr} {gi : Nat} {base : List Addr} {ps : List PyData} {G0 : Shared → Prop} {body : Mine.St → Option (Fl × Mine.St)} {f : Fl} {s0 s1 : Shared} {R : Result → Shared → Prop}
  (W : It0 C.M C.A J Lg gi base ps G0) (K : FnOk G C k) (hb : ∀ wr (S : Mine.St) (f : Fl) (S' : Mine.St), body S = some (f, S') → ExL (C.with wr) G b S f S')
  (I0 : Inv C S.σ ρ s0) (X : Full s0 s1) (hJ : s0.heap.get? J = none) (hL : s0.heap.get? Lg = none) (hgi : s0.gens[gi]? = none) (hbase : ∀ b ∈ base, b ∉ C.own' ρ) (st : G0 s1)
  (e : loopL (bndT G tgt) body ps S = some (f, S')) (L : LinkOk G S ρ)
  (hR : ∀ ρ' s', LinkOk G S' ρ' → Inv C S'.σ ρ' s' → Step C ρ ρ' s0 s' → ∀ u, (∀ v, f = .ret v → RdO C ρ' s' u v) → R (.ok (flowOf f u)) s') :
  codeAny C.M C.A (.forLoop tgt (.ref J) b [] C.env) R s1 := by
 have full : ∀ {s3}, Mv [Lg] [gi] s1 s3 → Full s0 s3 := fun {s3} y => ⟨fun b o e => y.keep b o (fun q => by rw [List.mem_singleton] at q; exact none_ (hL.symm.trans (q ▸ e))) (X.keep b o e), y.os.trans X.os,
  fun k z e => y.gens k z (fun q => by rw [List.mem_singleton] at q; exact none_ (hgi.symm.trans (q ▸ e))) (X.gens k z e), fun h => y.bare (X.bare h)⟩
 refine codeAny_forLoop_any (fun n s => (n = ps.length + 1 ∧ s = s1) ∨ ∃ wr St, LoopOk C G b J (J :: (wr ++ base)) wr [gi] (trunc s1.heap 0) ps St body s0 ∧ LoopAt C G tgt (J :: (wr ++ base)) wr (trunc s1.heap 0) ps St body f S' ρ s0 n s) ?_ (ps.length + 1) (.inl ⟨rfl, rfl⟩)
 rintro n s (⟨rfl, rfl⟩ | ⟨wr, St, Z, h⟩)
 ·refine W.first (trunc s.heap 0) s _ _ st (fun hp s3 m3 => ?_) fun p v s3 wr St hp W3 st3 m3 hwr hLw hrd hgo => ?_
  ·subst hp
   cases e
   exact wpAny_execs_nil (hR ρ s3 L (I0.ext (full m3).ext) (Step.ext I0 (full m3).ext) .none fun _ z => (nomatch z))
  ·have hw0 : ∀ b ∈ wr, s0.heap.get? b = none := fun b hb => by
    rcases hwr b hb with q | q
    ·exact q ▸ hL
    ·cases e : s0.heap.get? b with
     | none => rfl
     | some o => exact none_ (q.symm.trans (X.keep b o e))
   have there : ∀ b ∈ wr, ∃ o, s3.heap.get? b = some o := fun b hb => W3.there _ _ st3 b (W3.sub b hb)
   obtain ⟨I3, k3⟩ := I0.into (wr := wr) (full m3).ext hw0 there
   have z1 : ∀ b ∈ wr, C.g.get? b = none := fun b hb => by
     cases e : C.g.get? b with
     | none => rfl
     | some o => have := I0.keep _ _ e; exact none_ ((hw0 b hb).symm.trans this)
   have z2 : ∀ y c, C.env.cells.lookup y = some c → c ∉ wr := fun y c e q => by
     obtain ⟨o, e⟩ := I0.cl y c e; exact none_ ((hw0 c q).symm.trans e)
   have z3 : ∀ a ∈ C.H, a ∉ wr := fun a ha q => by
     obtain ⟨⟨o, e⟩, _⟩ := I0.old a ha; exact none_ ((hw0 a q).symm.trans e)
   have Z : LoopOk C G b J (J :: (wr ++ base)) wr [gi] (trunc s.heap 0) ps St body s0 := ⟨W3, hb wr, z1, z2, z3, hw0, fun k hk => by rw [List.mem_singleton] at hk; rw [hk]; exact hgi⟩
   refine for_turn (i := 0) (ρ0 := ρ) (ρ1 := ρ) (S1 := S) Z K hp hR (fun m s h => .inr ⟨wr, St, Z, h⟩) (e) L I3 st3 (fun b o e => absurd (trunc_get.mp e).1 (Nat.not_lt_zero _)) (fun b hb q => ?_) (Step.ext I0 (full m3).ext) (hrd _ fun a ha => ?_) hgo
   ·obtain ⟨o, e⟩ := I0.own' b q
    rcases List.mem_cons.mp hb with r | hb
    ·exact none_ (hJ.symm.trans (r ▸ e))
    ·rcases List.mem_append.mp hb with r | r
     ·exact none_ ((hw0 b r).symm.trans e)
     ·exact hbase b r q
   ·rcases List.mem_append.mp ha with q | q
    ·obtain ⟨o, e⟩ := I0.there a q; exact .inl ⟨o, X.keep _ _ e⟩
    ·rcases List.mem_cons.mp q with q | q
     ·obtain ⟨m, o, _, _, e, _⟩ := I0.ns; exact .inl ⟨o, X.keep _ _ (q ▸ e)⟩
     ·rcases List.mem_append.mp q with q | q
      ·obtain ⟨p, hp, rfl⟩ := List.mem_map.mp q
       obtain ⟨v, o, e, _⟩ := I0.cells p hp; exact .inl ⟨o, X.keep _ _ e⟩
      ·rcases List.mem_append.mp q with q | q
       ·exact .inr q
       ·obtain ⟨⟨o, e⟩, _⟩ := I0.old a q; exact .inl ⟨o, X.keep _ _ e⟩
 ·exact for_step Z K hR (fun m s h => .inr ⟨wr, St, Z, h⟩) h
end
end
section
open PySem.Calls
section
variable {C : Cx} {G : Fn} {σ σ0 τ : Sig} {ρ : List Own} {s s' : Shared} {E : Value → Shared → Prop} {k n : Nat} {S S' : St}
theorem inter_false (K : FnOk G C k) : interactive C.env = false := by
 unfold interactive; exact K.cx.fn ▸ rfl
theorem own_of {x : Str} {l : List PyData} (L : LinkOk G S ρ) (I : Inv C S.σ ρ s) (hx : S.own.contains x = true) (e : S.σ x = some (.d (.list l))) :
  ∃ (o : Own) (vs : List Value), ρ.find? (·.name == x) = some o ∧ o.two = false ∧ o.rows = [] ∧ VarAt C.env s.heap x (.ref o.at_) ∧ s.heap.PlainList o.at_ vs.toArray ∧ RdL (C.hh ρ s) vs l := by
 obtain ⟨o, ho⟩ := L.full x hx
 obtain ⟨u, h1, h2⟩ := I.vars x _ e
 rw [ho] at h2
 have hk := L.own o (find_mem ho)
 obtain ⟨e1, l', vs, e2, pl, r⟩ := h2
 cases e2
 subst e1
 cases q : o.two with
 | true => rw [q, own_name ho, hx] at hk; exact absurd hk.1 (fun z => nomatch z)
 | false => rw [q] at r; exact ⟨o, vs, ho, q, r.1, h1, pl, r.2⟩
theorem own_mem {o : Own} {x : Str} (ho : ρ.find? (·.name == x) = some o) : o.at_ ∈ addrs ρ := mem_addrs (find_mem ho) _ (.head _)
theorem LinkOk.putOwn (L : LinkOk G S ρ) {x : Str} {v w : X} (e : S.σ x = some w) : LinkOk G { S with σ := Mine.put S.σ x v } ρ := L.put (.inr ⟨w, e⟩)
theorem finish_own {o : Own} {x : Str} {l' : List PyData} {vs' : List Value} {h' : Heap} {t : Nat} (K : FnOk G C k) (L : LinkOk G S ρ) (I : Inv C S.σ ρ s) (ho : ρ.find? (·.name == x) = some o) (h2 : o.two = false) (hr : o.rows = []) {w : X} (e : S.σ x = some w)
  (hs : Heap.SameBut o.at_ s.heap h') (pl : h'.PlainList o.at_ vs'.toArray) (r : RdL (C.hh ρ s) vs' l') :
  LinkOk G { S with σ := put S.σ x (.d (.list l')) } ρ ∧ Inv C (put S.σ x (.d (.list l'))) ρ { s with heap := h', toks := t } ∧ Step C ρ ρ s { s with heap := h', toks := t } := by
 have kh : Keeps (C.hh ρ s) (C.hh ρ { s with heap := h', toks := t }) := keeps_hide fun b ob m e => hs.extBut b ob (fun q => m (q ▸ (List.mem_append_left _ (own_mem ho)))) e
 obtain ⟨a, b⟩ := I.own_upd (v' := .d (.list l')) (s' := { s with heap := h', toks := t }) ho (.head _) (cell_ne K I (own_mem ho)) (fun b ob q e => hs.extBut b ob q e) (let ⟨n, e⟩ := pl; ⟨_, e⟩) rfl (fun _ _ e => e) id ⟨rfl, l', vs', rfl, pl, by rw [h2]; exact ⟨hr, r.keeps kh⟩⟩
 exact ⟨L.putOwn e, a, b⟩
theorem own_ext {o : Own} {x : Str} {vs : List Value} (I : Inv C σ ρ s) (X : Ext C.env.locals s s') (ho : ρ.find? (·.name == x) = some o) (pl : s.heap.PlainList o.at_ vs.toArray) : s'.heap.PlainList o.at_ vs.toArray :=
 Heap.PlainList.at' (fun b e => X.keep _ _ (I.notL _ (List.mem_append_left _ (own_mem ho))) e) pl
theorem few_one {e : Expr} {pos : Pos} {env : Env} (hn : noStar e = true) : ((backTo pos (starEach [e] env)).all (fun x => !x.1) && (backToKw pos (keywordEach [] env)).all (fun x => x.1.isSome)
   && decide (([e] : List Expr).length + ([] : List Keyword).length + (if ([] : List Keyword).isEmpty then 0 else 1) < 30)) = true := by
 rw [star_len (fun x hx => List.mem_singleton.mp hx ▸ hn)]; rfl
theorem stars_one {e : Expr} (hn : noStar e = true) : noStars [e] := fun x hx => List.mem_singleton.mp hx ▸ hn
theorem ex_append {x : Str} {p apos pos epos : Pos} {e : Expr} {l : List PyData} {v : PyData} (K : FnOk G C k) (ok : okName x = true) (hx : S.own.contains x = true) (hl : (apos.endLine == pos.line) = true) (hn : noStar e = true) (he : ∀ ρ, LinkOk G S ρ → Evs C S.σ ρ e (.d v)) (e1 : S.σ x = some (.d (.list l))) (hsz : l.length ≤ 1048576) :
  ExS C G (.Expr (.Call (.Attribute (.Name x p) "append" apos) [e] [] pos) epos) S .next { S with σ := put S.σ x (.d (.list (l ++ [v]))) } := fun ρ s Q E L I h => by
 obtain ⟨o, vs, ho, h2, hr, hv, pl, r⟩ := own_of L I hx e1
 refine wpAny_Expr (wpAny_Call_method (base_ok rfl) (few_one hn) hl PySem.F.plainAttrs_list PySem.F.slot_list_append PySem.F.type_list_append (var_load K.cx ok hv ?_)) (inter_false K) rfl
 obtain ⟨nn, epl⟩ := id pl
 refine ⟨⟨_, epl, rfl⟩, fun a q => by cases q; exact ⟨_, epl, rfl⟩, args_builtin (stars_one hn) ?_⟩
 rw [star_cons hn, back_cons]
 refine spliced_cons (he ρ L s _ _ I fun u s1 X1 r1 _ => spliced_nil ?_)
 have I1 := I.ext X1
 refine wpAny_list_append_plain (hsz := by rw [List.size_toArray, r.length, sizeLine_is]; exact wk ‹_› rfl) (own_ext I X1 ho pl) fun h' pl' hs => ?_
 obtain ⟨L2, I2, S2⟩ := finish_own (t := s1.toks) (vs' := vs ++ [u]) K L I1 ho h2 hr e1 hs (by simpa using pl') ((rdl_ext r X1).append (.cons r1 .nil))
 exact h ρ _ L2 I2 ((Step.ext I X1).trans S2) .none fun _ z => (nomatch z)
theorem ex_extend {x : Str} {p apos pos epos : Pos} {e : Expr} {l v : List PyData} (K : FnOk G C k) (ok : okName x = true) (hx : S.own.contains x = true) (hl : (apos.endLine == pos.line) = true) (hn : noStar e = true) (he : ∀ ρ, LinkOk G S ρ → Evs C S.σ ρ e (.d (.list v))) (e1 : S.σ x = some (.d (.list l))) (hsz : l.length ≤ 1048576) (hsz2 : v.length ≤ 1048576) :
  ExS C G (.Expr (.Call (.Attribute (.Name x p) "extend" apos) [e] [] pos) epos) S .next { S with σ := put S.σ x (.d (.list (l ++ v))) } := fun ρ s Q E L I h => by
 obtain ⟨o, vs, ho, h2, hr, hv, pl, r⟩ := own_of L I hx e1
 refine wpAny_Expr (wpAny_Call_method (base_ok rfl) (few_one hn) hl PySem.F.plainAttrs_list PySem.F.slot_list_extend PySem.F.type_list_extend (var_load K.cx ok hv ?_)) (inter_false K) rfl
 obtain ⟨nn, epl⟩ := id pl
 refine ⟨⟨_, epl, rfl⟩, fun a q => by cases q; exact ⟨_, epl, rfl⟩, args_builtin (stars_one hn) ?_⟩
 rw [star_cons hn, back_cons]
 refine spliced_cons (he ρ L s _ _ I fun u s1 X1 r1 _ => spliced_nil ?_)
 have I1 := I.ext X1
 obtain ⟨n1, pl1⟩ := own_ext I X1 ho pl
 obtain ⟨b, ws, n2, rfl, hb, rw2⟩ := Rd.list_ r1
 have lv := r.length
 have lw := rw2.length
 refine call_meets PySem.F.slot_list_extend ⟨_, pl1, rfl⟩ PySem.F.entry_list_extend (PySem.F.args_list_extend_2 _ _)
  (PySem.AutoSeq1.list_extend_list_list_0 o.at_ vs.toArray n1 b ws.toArray n2 (by simp [Builtin.List.listTooLong, sizeLine]; intro _; lia) (by rw [List.size_toArray, sizeLine_is]; lia) (by rw [List.size_toArray, List.size_toArray, sizeLine_is]; lia)) ⟨pl1, keeps_hide_of _ _ hb, ?_⟩
 obtain ⟨L2, I2, S2⟩ := finish_own (t := s1.toks) (vs' := vs ++ ws) (h' := s1.heap.update o.at_ (Obj.mapSeq fun x => x ++ ws.toArray)) K L I1 ho h2 hr e1 (Heap.SameBut.update ..) ⟨_, by simpa using IsL.update pl1 fun x => x ++ ws.toArray⟩ ((rdl_ext r X1).append rw2)
 exact h ρ _ L2 I2 ((Step.ext I X1).trans S2) .none fun _ z => (nomatch z)
theorem erase_drop1 {α : Type} (l : List α) : l.eraseIdx 0 = l.drop 1 := by cases l <;> rfl
theorem ex_del {x : Str} {p pos spos : Pos} {i : Expr} {j : Int} {l : List PyData} (K : FnOk G C k) (ok : okName x = true) (hx : S.own.contains x = true) (hi : ∀ ρ, LinkOk G S ρ → Evs C S.σ ρ i (.d (.int j))) (e1 : S.σ x = some (.d (.list l))) (hj : j = 0 ∨ j = -1) (hne : l ≠ []) (hsz : l.length ≤ 1048576) :
  ExS C G (.Delete [.Subscript (.Name x p) i spos] pos) S .next { S with σ := put S.σ x (.d (.list (if j = 0 then l.drop 1 else l.dropLast))) } := fun ρ s Q E L I h => by
 obtain ⟨o, vs, ho, h2, hr, hv, pl, r⟩ := own_of L I hx e1
 refine wpAny_Delete (wpAny_deleteEach_cons (wpAny_delete_Subscript (var_load K.cx ok hv (hi ρ L s _ _ I fun u s1 X1 r1 _ => ?_))))
 obtain ⟨t, rfl⟩ := Rd.int_ r1
 have I1 := I.ext X1
 have lv := r.length
 have hpos : 0 < l.length := by cases l with
  | nil => exact absurd rfl hne
  | cons => simp
 have fin : ∀ (kk : Nat) (h' : Heap), kk = (if j = 0 then 0 else l.length - 1) → h'.PlainList o.at_ (vs.toArray.eraseIdxIfInBounds kk) → Heap.SameBut o.at_ s1.heap h' → Q .next { s1 with heap := h' } := fun kk h' hk pl' hs => by
  have e2 : vs.toArray.eraseIdxIfInBounds kk = (if j = 0 then vs.drop 1 else vs.dropLast).toArray := by
   have hlt : kk < vs.length := by rw [hk]; split <;> lia
   have : vs.toArray.eraseIdxIfInBounds kk = (vs.eraseIdx kk).toArray := by
    simp [Array.eraseIdxIfInBounds, hlt]
   rw [this, hk]
   split
   ·rw [erase_drop1]
   ·rw [← lv, List.eraseIdx_length_sub_one]
  rw [e2] at pl'
  have rr : RdL (C.hh ρ s1) (if j = 0 then vs.drop 1 else vs.dropLast) (if j = 0 then l.drop 1 else l.dropLast) := by
   split
   ·exact (rdl_ext r X1).drop 1
   ·rw [List.dropLast_eq_take, List.dropLast_eq_take, lv]; exact (rdl_ext r X1).take _
  obtain ⟨L2, I2, S2⟩ := finish_own (t := s1.toks) K L I1 ho h2 hr e1 hs pl' rr
  exact h ρ _ L2 I2 ((Step.ext I X1).trans S2) .none fun _ z => (nomatch z)
 have hk : seqIndex? j vs.toArray.size = some (if j = 0 then 0 else l.length - 1) := by
  rw [List.size_toArray, lv]
  rcases hj with rfl | rfl
  ·exact (if_pos rfl) ▸ (seqIndex_of (by exact Int.natCast_nonneg _) (by exact Int.ofNat_lt.mpr ‹_›))
  ·rw [if_neg (by decide)]
   rw [seqIndex_neg (by exact Int.natCast_nonneg _) (by lia)]
   congr 1; exact tm1
 refine wpAny_delItem_plain (own_ext I X1 ho pl) (by rcases hj with rfl | rfl <;> decide) hk (fun h' pl' hs => wpAny_deleteEach_nil (fin _ h' rfl pl' hs)) (by rw [List.size_toArray, sizeLine_is]; lia)
theorem upd_set {α : Type} : ∀ (l : List α) (i : Nat) (y : α), upd l i y = l.set i y
 | [], _, _ => by delta upd; rfl
 | _ :: _, 0, _ => rfl
 | _ :: r, i + 1, y => congrArg (_ :: ·) (upd_set r i y)
theorem ex_set {x : Str} {p pos spos : Pos} {i e : Expr} {j : Int} {l : List PyData} {v : PyData} (K : FnOk G C k) (ok : okName x = true) (hx : S.own.contains x = true) (he : ∀ ρ, LinkOk G S ρ → Evs C S.σ ρ e (.d v)) (hi : ∀ ρ, LinkOk G S ρ → Evs C S.σ ρ i (.d (.int j))) (e1 : S.σ x = some (.d (.list l)))
  (h0 : 0 ≤ j) (h1 : j < l.length) (hsz : l.length ≤ 1048576) (hsw : swapsWith e (some (.Subscript (.Name x p) i spos)) pos.line C.env = pure false) :
  ExS C G (.Assign [.Subscript (.Name x p) i spos] e pos) S .next { S with σ := put S.σ x (.d (.list (upd l j.toNat v))) } := fun ρ s Q E L I h => by
 obtain ⟨o, vs, ho, h2, hr, hv, pl, r⟩ := own_of L I hx e1
 refine wpAny_Assign_Subscript (he ρ L s _ _ I fun u s1 X1 r1 _ => ?_) hsw
 have I1 := I.ext X1
 have hv1 : VarAt C.env s1.heap x (.ref o.at_) := by obtain ⟨m, n⟩ := I.ns; exact hv.ext X1 n
 refine var_load K.cx ok hv1 (hi ρ L s1 _ _ I1 fun w s2 X2 r2 _ => ?_)
 obtain ⟨t, rfl⟩ := Rd.int_ r2
 have I2 := I1.ext X2
 have lv := r.length
 obtain ⟨n2, pl2⟩ := own_ext I1 X2 ho (own_ext I X1 ho pl)
 refine ki_setAt (items := vs.toArray) (n := n2) pl2 h0 (by lia) (by rw [List.size_toArray]; lia) ?_
 have hset : (vs.toArray.setIfInBounds j.toNat u) = (upd vs j.toNat u).toArray := by rw [upd_set]; simp
 obtain ⟨L3, I3, S3⟩ := finish_own (t := s2.toks) (h' := s2.heap.update o.at_ (Obj.mapSeq (·.setIfInBounds j.toNat u))) (vs' := upd vs j.toNat u) K L I2 ho h2 hr e1 (Heap.SameBut.update ..) ⟨_, by
  have q := IsL.update pl2 (·.setIfInBounds j.toNat u)
  rw [hset] at q; exact q⟩ ((rdl_ext (rdl_ext r X1) X2).upd j.toNat (Rd.keeps (hh_keeps X2) r1))
 exact h ρ _ L3 I3 (((Step.ext I X1).trans (Step.ext I1 X2)).trans S3) .none fun _ z => (nomatch z)
theorem aug_sound {op : Operator} {a b r : PyData} {u v : Value} {Q : Value → Shared → Prop} (e : augD op a b = some r) (ru : Rd (C.hh ρ s) u a) (rv : Rd (C.hh ρ s) v b) (h : PR C ρ s r Q) : wpAny C.M C.A (inplaceOp op u v) Q E s := by
 have ru : RdO C ρ s u (.d a) := .inl ru
 have rv : RdO C ρ s v (.d b) := .inl rv
 cases op with
 | Add =>
  refine ifE e fun hn e => ?_
  cases a with
  | int i => exact bndE e fun j h1 e => ru.intE fun t => int1E h1 rv fun t' => PyProof.Rows.iadd_int (h.of e _ _ .toks (.int _ _))
  | str x => exact bndE e fun y h1 e => ifE e fun hs e => ru.strE fun t => str1E h1 rv fun t' => PyProof.Rows.iadd_str (fun t' tk => h.of e _ _ .toks (.str _ _)) (Nat.le_trans (short_le (and2 hs).2) (by decide))
  | list l => exact Bool.noConfusion hn
  | _ => exact none_ e
 | Sub => exact ints_elim e ru rv fun i t j t' e => PyProof.Rows.isub_int (h.of e _ _ .toks (.int _ _))
 | Mult => exact ints_elim e ru rv fun i t j t' e => ifE e fun hs e => PyProof.Rows.imul_int (h.of e _ _ .toks (.int _ _)) (.of_left (intBits_lt (of_decide_eq_true (and2 hs).1)))
 | _ => exact none_ e
theorem ex_aug {x : Str} {p pos : Pos} {op : Operator} {e : Expr} {a b d : PyData} (K : FnOk G C k) (ok : okName x = true) (hx : G.ok x = true) (e1 : S.σ x = some (.d a)) (he : ∀ ρ, LinkOk G S ρ → Evs C S.σ ρ e (.d b)) (ho : augD op a b = some d) :
  ExS C G (.AugAssign (.Name x p) op e pos) S .next { S with σ := put S.σ x (.d d) } := fun ρ s Q E L I h => by
 obtain ⟨u, h1, h2⟩ := I.vars x _ e1
 rw [(L.st K).free x hx] at h2
 refine wpAny_AugAssign_Name (name_load K.cx ok h1 (he ρ L s _ _ I fun v s1 X1 r1 _ => aug_sound (C := C) (ρ := ρ) ho (Rd.keeps (hh_keeps X1) h2) r1 fun y s2 X2 r2 => ?_))
 exact store_sound (v := .d d) (L.st K) hx ((I.ext X1).ext X2) r2 fun s3 I3 S3 => h ρ s3 (L.put (.inl (ok_parts hx).2.2)) I3 ((Step.ext I (X1.trans X2)).trans S3) .none fun _ z => (nomatch z)
theorem ex_swap {x y : Str} {px py : Pos} {a b : Expr} {kk kt : Nat} {kp tp pos : Pos} {u v : PyData} (K : FnOk G C k) (hs : swapT G.kd x px y py a b = true) (hx : G.ok x = true) (hy : G.ok y = true) (na : noStar a = true) (nb : noStar b = true) (ha : ∀ ρ, LinkOk G S ρ → Evs C S.σ ρ a (.d u)) (hb : ∀ ρ, LinkOk G S ρ → Evs C S.σ ρ b (.d v)) :
  ExS C G (.Assign [.Tuple [.Name x px, .Name y py] kt tp] (.Tuple [a, b] kk kp) pos) S .next { S with σ := put (put S.σ y (.d v)) x (.d u) } := fun ρ s Q E L I h => by
 have hl : EvL C S.σ ρ [a, b] fun s us => RdL (C.hh ρ s) us [u, v] :=
  evl_cons (R := fun s w => Rd (C.hh ρ s) w u) na (fun s Q E I q => ha ρ L s Q E I fun w s1 X1 r1 _ => q w s1 X1 r1)
   (evl_cons (P := fun _ us => us = []) (P' := fun s us => RdL (C.hh ρ s) us [v]) (R := fun s w => Rd (C.hh ρ s) w v) nb (fun s Q E I q => hb ρ L s Q E I fun w s1 X1 r1 _ => q w s1 X1 r1) (evl_nil fun _ => rfl) fun s s' w us I X r1 r2 => by subst r2; exact .cons (Rd.keeps (hh_keeps X) r1) .nil)
   fun s s' w us I X r1 r2 => .cons (Rd.keeps (hh_keeps X) r1) r2
 refine Assign_Tuple_swapped (names := [x, y]) (tuple_ev hl (by simp) s _ _ I fun t s1 X1 r1 _ => ?_) rfl (swapped_ok K hs na nb)
 obtain ⟨c, vs, n, rfl, hc, rv⟩ := Rd.tuple_ r1
 have I1 := I.ext X1
 cases rv with
 | cons r2 rv =>
  cases rv with
  | cons r3 rv =>
   cases rv
   rename_i w1 w2
   refine wpAny_unpackItems_tuple (items := #[w1, w2]) K.cx.lv.hh ⟨_, keeps_hide_of _ _ hc, rfl, n, rfl⟩ fun h' hx' => ?_
   have X2 : Ext C.env.locals s1 { s1 with heap := h' } := .heap' fun b o e => hx' b o (Nat.ne_of_lt (Heap.lt_size e)) e
   refine assignInOrder_cons (wpAny_bindName (store_sound (v := .d v) (L.st K) hy (I1.ext X2) (Rd.keeps (hh_keeps X2) r3) fun s3 I3 S3 => ?_))
   refine assignInOrder_cons (wpAny_bindName (store_sound (v := .d u) (L.st K) hx I3 (Rd.keeps S3.hh (Rd.keeps (hh_keeps X2) r2)) fun s4 I4 S4 => ?_))
   refine assignInOrder_nil ?_
   have L3 : LinkOk G { S with σ := put S.σ y (.d v) } ρ := L.put (.inl (ok_parts hy).2.2)
   exact h ρ s4 (L3.put (.inl (ok_parts hx).2.2)) I4 (((Step.ext I (X1.trans X2)).trans S3).trans S4) .none fun _ z => (nomatch z)
theorem ex_unpack {ts : List Expr} {e : Expr} {kt : Nat} {tp pos : Pos} {p : PyData} (K : FnOk G C k) (he : ∀ ρ, LinkOk G S ρ → Evs C S.σ ρ e (.d p)) (hb : bindTD G.ok (.Tuple ts kt tp) S.σ p = some τ) (hs : swapsWithSole [.Tuple ts kt tp] e pos.line C.env = pure false) (hw : swappedStores [.Tuple ts kt tp] e C.env = pure none) :
  ExS C G (.Assign [.Tuple ts kt tp] e pos) S .next { S with σ := τ } := fun ρ s Q E L I h =>
 Assign_Tuple (he ρ L s _ _ I fun u s1 X1 r1 _ => bind_sound (L.st K) K.cx.lv.hh hb (I.ext X1) r1 fun s2 I2 S2 => h ρ s2 (L.bind hb) I2 ((Step.ext I X1).trans S2) .none fun _ z => (nomatch z)) hs hw
theorem putAll_elim {ok : Str → Bool} {v : X} {P : Sig → List Expr → Sig → Prop} (nil : ∀ σ, P σ [] σ) (cons : ∀ σ x q ts τ, ok x = true → putAll ok (put σ x v) v ts = some τ → P (put σ x v) ts τ → P σ (.Name x q :: ts) τ) {ts : List Expr} : ∀ {σ τ : Sig}, putAll ok σ v ts = some τ → P σ ts τ := by
 induction ts with
 | nil => exact fun {σ τ} e => sm_ e ▸ nil σ
 | cons t ts ih =>
  intro σ τ e
  refine bndE e fun x h1 e1 => ifE e1 fun h2 e2 => ?_
  obtain ⟨q, rfl⟩ := nameV_ h1
  exact cons σ x q ts τ h2 e2 (ih e2)
theorem putAll_sound {v : X} {u : Value} (K : FnOk G C k) {ts : List Expr} {σ τ : Sig} (e : putAll G.ok σ v ts = some τ) : ∀ {own : List Str} {s : Shared} {Q : Unit → Shared → Prop}, LinkOk G ⟨σ, own⟩ ρ → Inv C σ ρ s → RdX C.G (C.hh ρ s) u v →
  (∀ s', LinkOk G ⟨τ, own⟩ ρ → Inv C τ ρ s' → Step C ρ ρ s s' → Q () s') → wpAny C.M C.A (assignAll u ((assignEach ts C.env).map (·.2))) Q E s :=
 putAll_elim (P := fun σ ts τ => ∀ {own : List Str} {s : Shared} {Q : Unit → Shared → Prop}, LinkOk G ⟨σ, own⟩ ρ → Inv C σ ρ s → RdX C.G (C.hh ρ s) u v →
  (∀ s', LinkOk G ⟨τ, own⟩ ρ → Inv C τ ρ s' → Step C ρ ρ s s' → Q () s') → wpAny C.M C.A (assignAll u ((assignEach ts C.env).map (·.2))) Q E s)
  (fun σ {own s Q} L I r h => wpAny_pure (h s L I .refl)) (fun σ x q ts τ hx e ih {own s Q} L I r h => by
   have one : ∀ {Q' : Unit → Shared → Prop}, (∀ s', Inv C (put σ x v) ρ s' → Step C ρ ρ s s' → Q' () s') → wpAny C.M C.A (assign (.Name x q) C.env u) Q' E s := fun {Q'} h' => wpAny_assign_Name (store_sound (L.st K) hx I r h')
   cases ts with
   | nil =>
    obtain rfl := sm_ e
    exact one fun s' I' S' => h s' (L.put (.inl (ok_parts hx).2.2)) I' S'
   | cons t ts =>
    have next : ∀ s', Inv C (put σ x v) ρ s' → Step C ρ ρ s s' → wpAny C.M C.A (assignAll u ((assignEach (t :: ts) C.env).map (·.2))) Q E s' := fun s' I' S' => ih (L.put (.inl (ok_parts hx).2.2)) I' (r.keeps S'.hh) fun s2 L2 I2 S2 => h s2 L2 I2 (S'.trans S2)
    show wpAny C.M C.A (assignAll u (assign (.Name x q) C.env :: (assignEach (t :: ts) C.env).map (·.2))) Q E s
    obtain ⟨a, b, hl⟩ : ∃ a b, (assignEach (t :: ts) C.env).map (·.2) = a :: b := by
     by_cases q : t.ctorIdx = 22
     ·exact Expr.Starred.elim (motive_1 := fun t => ∃ a b, (assignEach (t :: ts) C.env).map (·.2) = a :: b) t q fun _ _ => ⟨_, _, rfl⟩
     ·exact ⟨assign t C.env, (assignEach ts C.env).map (·.2), by cases t <;> first | rfl | exact absurd rfl q⟩
    rw [hl] at next ⊢
    exact wpAny_bind (wpAny_holding (one fun s' I' S' => next s' I' S'))) e
theorem swapped_none {t1 t2 : Expr} {ts : List Expr} {env : Env} (e : Expr) (t : Expr) (ht : t = t1 := by rfl) : swappedStores (t1 :: t2 :: ts) e env = pure none := by
 cases t1 <;> rfl
theorem ex_multi {t1 t2 : Expr} {ts : List Expr} {e : Expr} {pos : Pos} {v : X} (K : FnOk G C k) (he : ∀ ρ, LinkOk G S ρ → Evs C S.σ ρ e v) (hp : putAll G.ok S.σ v (t1 :: t2 :: ts) = some τ) : ExS C G (.Assign (t1 :: t2 :: ts) e pos) S .next { S with σ := τ } := fun ρ s Q E L I h =>
 wpAny_Assign_stores (he ρ L s _ _ I fun u s1 X1 r1 _ => putAll_sound K hp L (I.ext X1) r1 fun s2 L2 I2 S2 => h ρ s2 L2 I2 ((Step.ext I X1).trans S2) .none fun _ z => (nomatch z)) rfl (swapped_none _ _)
end
end
section
open PySem.Calls
section
variable {C : Cx} {G : Fn} {σ σ0 τ : Sig} {ρ : List Own} {s s' : Shared} {E : Value → Shared → Prop} {k n : Nat} {S S' : St}
theorem Inv.freeze {x : Str} {o : Own} {vs : List Value} {l : List PyData} (I : Inv C σ ρ s) (ho : ρ.find? (·.name == x) = some o) (h2 : o.two = false) (e : σ x = some (.d (.list l))) :
  Inv C σ (ρ.filter fun o => !(o.name == x)) s ∧ Step C ρ (ρ.filter fun o => !(o.name == x)) s s := by
 have sub := addrs_filter (fun o => !(o.name == x)) ρ
 have kk : Keeps (C.hh ρ s) (C.hh (ρ.filter fun o => !(o.name == x)) s) := keeps_hide_sub fun b ob m e => ⟨fun q => m ((List.mem_append.mp q).elim (fun z => List.mem_append_left _ (sub.subset z)) fun z => List.mem_append_right _ z), e⟩
 have nod := I.nodup
 rw [List.nodup_append] at nod
 have subl : (addrs (ρ.filter (fun o => !(o.name == x))) ++ C.env.locals :: C.cs.map (·.2)).Sublist (addrs ρ ++ C.env.locals :: C.cs.map (·.2)) := List.Sublist.append sub (List.Sublist.refl _)
 refine ⟨⟨I.gd, I.ns, I.keep, fun y v ev => ?_, fun p hp => I.owns p (List.mem_filter.mp hp).1, I.cells, I.nodup.sublist subl, I.names.sublist ((List.filter_sublist ..).map _), fun a ha => I.new a (subl.subset ha), fun a ha => ⟨(I.old a ha).1, fun q => (I.old a ha).2 (subl.subset q)⟩, fun a ha => I.there a (sub.subset ha), I.bare, I.cl⟩,
  ⟨fun _ _ _ e => e, fun a h => .inl (sub.subset h), fun _ h => h, rfl, fun _ _ e => e, id⟩⟩
 obtain ⟨u, h1, h3⟩ := I.vars y v ev
 refine ⟨u, h1, ?_⟩
 by_cases q : y = x
 ·subst q
  rw [e] at ev; cases ev
  rw [ho] at h3
  obtain ⟨e1, l', vs, e2, ⟨n, pl⟩, r⟩ := h3
  cases e2; subst e1
  rw [h2] at r
  have hn : (ρ.filter fun o => !(o.name == y)).find? (·.name == y) = none := by
   rw [List.find?_eq_none]
   intro p hp
   have := (List.mem_filter.mp hp).2
   simpa using this
  rw [hn]
  refine Rd.list (vs := vs) (hideAll_get _ pl fun q => ?_) (r.2.keeps kk)
  have hm := own_mem ho
  rcases List.mem_append.mp q with q | q
  ·obtain ⟨o', ho', hb⟩ := List.mem_flatMap.mp q
   have hf := List.mem_filter.mp ho'
   have := addr_one nod.1 (find_mem ho) hf.1 (.head _) hb
   subst this
   have := hf.2
   simp [own_name ho] at this
  ·rcases List.mem_cons.mp q with q | q
   ·exact nod.2.2 _ hm _ (.head _) q
   ·rcases List.mem_append.mp q with q | q
    ·exact nod.2.2 _ hm _ (.tail _ q) rfl
    ·exact (I.old _ q).2 (List.mem_append_left _ hm)
 ·rw [find_filter_ne q]
  exact h3.at' (fun _ _ _ _ _ e => e) kk
theorem freeze_any {x : Str} (L : LinkOk G S ρ) (I : Inv C S.σ ρ s) : ∃ ρ', LinkOk G { S with own := S.own.filter fun y => !(y == x) } ρ' ∧ Inv C S.σ ρ' s ∧ Step C ρ ρ' s s := by
 by_cases hx : S.own.contains x = true
 ·obtain ⟨o, ho⟩ := L.full x hx
  have hk := L.own o (find_mem ho)
  have h2 : o.two = false := by
   cases q : o.two with
   | false => rfl
   | true => rw [q, own_name ho, hx] at hk; exact absurd hk.1 (by simp)
  obtain ⟨v, ev⟩ := I.owns o (find_mem ho)
  rw [own_name ho] at ev
  obtain ⟨u, h1, h3⟩ := I.vars x v ev
  rw [ho] at h3
  obtain ⟨e1, l, vs, e2, _⟩ := h3
  subst e2
  obtain ⟨I', S'⟩ := I.freeze (vs := vs) ho h2 ev
  refine ⟨_, ⟨fun p hp => ?_, fun y hy => ?_, fun y w hy hw => ?_⟩, I', S'⟩
  ·obtain ⟨hp1, hp2⟩ := List.mem_filter.mp hp
   have := L.own p hp1
   have hne : ¬ p.name = x := by simpa using hp2
   cases q : p.two with
   | false =>
    rw [q] at this
    refine ⟨?_, this.2⟩
    simpa [List.mem_filter, hne] using this.1
   | true =>
    rw [q] at this
    refine ⟨?_, this.2⟩
    have h := this.1
    simp at h
    simp [List.mem_filter, h]
  ·have hy' : y ∈ S.own ∧ ¬ y = x := by simpa [List.mem_filter] using hy
   obtain ⟨p, hp⟩ := L.full y (by simpa using hy'.1)
   exact ⟨p, (find_filter_ne hy'.2 ρ).trans hp⟩
  ·have hne : y ≠ x := fun q => by
    subst q
    have := L.own o (find_mem ho)
    rw [h2, own_name ho, hy] at this
    exact absurd this.2.2 (by simp)
   obtain ⟨p, hp⟩ := L.full2 y w hy hw
   exact ⟨p, (find_filter_ne hne ρ).trans hp⟩
 ·have : (S.own.filter fun y => !(y == x)) = S.own := List.filter_eq_self.mpr fun y hy => by
   by_cases q : y = x
   ·subst q; exact absurd (by simpa using hy) hx
   ·simp [q]
  exact ⟨ρ, by rw [this]; exact L, I, .refl⟩
structure RowAt (C : Cx) (ρ : List Own) (s : Shared) (x : Str) (l : List PyData) (o : Own) : Prop where
 found : ρ.find? (·.name == x) = some o
 two : o.two = true
 var : VarAt C.env s.heap x (.ref o.at_)
 pl : s.heap.PlainList o.at_ (o.rows.map Value.ref).toArray
 len : o.rows.length = l.length
 rows : ∀ (i : Nat) (a : Addr) (p : PyData), o.rows[i]? = some a → l[i]? = some p → ∃ (m : List PyData) (us : List Value), p = PyData.list m ∧ s.heap.PlainList a us.toArray ∧ RdL (C.hh ρ s) us m
theorem row_of {x : Str} {l : List PyData} (L : LinkOk G S ρ) (I : Inv C S.σ ρ s) (hx : G.own2.contains x = true) (e : S.σ x = some (.d (.list l))) : ∃ o, RowAt C ρ s x l o := by
 obtain ⟨o, ho⟩ := L.full2 x _ hx e
 obtain ⟨u, h1, h2⟩ := I.vars x _ e
 rw [ho] at h2
 have hk := L.own o (find_mem ho)
 obtain ⟨e1, l', vs, e2, pl, r⟩ := h2
 cases e2
 subst e1
 cases q : o.two with
 | false => rw [q, own_name ho, hx] at hk; exact absurd hk.2.2 (by simp)
 | true => rw [q] at r; obtain ⟨r1, r2, r3⟩ := r; subst r1; exact ⟨o, ho, q, h1, pl, r2, r3⟩
theorem RowAt.ext {x : Str} {l : List PyData} {o : Own} (R : RowAt C ρ s x l o) (I : Inv C σ ρ s) (X : Ext C.env.locals s s') : RowAt C ρ s' x l o := by
 obtain ⟨m0, n0⟩ := I.ns
 have kp : ∀ a ∈ o.addrs, ∀ b, s.heap.get? a = some b → s'.heap.get? a = some b := fun a ha b e => X.keep a b (I.notL a (List.mem_append_left _ (mem_addrs (find_mem R.found) a ha))) e
 refine ⟨R.found, R.two, R.var.ext X n0, Heap.PlainList.at' (kp _ (.head _)) R.pl, R.len, fun i a p ha hp => ?_⟩
 obtain ⟨m, us, e1, e2, e3⟩ := R.rows i a p ha hp
 exact ⟨m, us, e1, Heap.PlainList.at' (kp _ (.tail _ (List.mem_of_getElem? ha))) e2, rdl_ext e3 X⟩
theorem row_ev {x : Str} {p pos : Pos} {i : Expr} {a : Int} {l m : List PyData} {o : Own} {Q : Value → Shared → Prop} (K : FnOk G C k) (ok : okName x = true) (R : RowAt C ρ s x l o) (I : Inv C S.σ ρ s) (hi : Evs C S.σ ρ i (.d (.int a))) (h0 : 0 ≤ a) (hsz : l.length ≤ 1048576) (hat : at? l a = some (.list m))
  (h : ∀ ra s', o.rows[a.toNat]? = some ra → Ext C.env.locals s s' → Q (.ref ra) s') : wpAny C.M C.A (eval (.Subscript (.Name x p) i pos) C.env) Q E s := by
 refine Subscript_ (var_load K.cx ok R.var (hi s _ _ I fun w s1 X1 r1 _ => ?_))
 obtain ⟨t, rfl⟩ := Rd.int_ r1
 have R1 := R.ext I X1
 have hl : l[a.toNat]? = some (.list m) := by unfold at? at hat; rw [if_pos h0] at hat; exact hat
 have hlt := (List.getElem?_eq_some_iff.mp hl).1
 obtain ⟨ra, hra⟩ : ∃ ra, o.rows[a.toNat]? = some ra := ⟨_, List.getElem?_eq_getElem (R.len ▸ hlt)⟩
 refine Sub_.use ⟨⟨_, _, R1.pl.isList.typeIs, slot_list_getitem.lookup⟩, wpAny_getItem_list R1.pl.isList h0 (by lia) (x := .ref ra) ?_ (h ra s1 hra X1)⟩
 rw [List.getElem?_toArray, List.getElem?_map, hra]; rfl
theorem rows_inj {o : Own} {i j : Nat} {a : Addr} (nd : o.addrs.Nodup) (h1 : o.rows[i]? = some a) (h2 : o.rows[j]? = some a) : i = j := by
 have nd : (o.at_ :: o.rows).Nodup := nd
 have nd := (List.nodup_cons.mp nd).2
 obtain ⟨l1, e1⟩ := List.getElem?_eq_some_iff.mp h1
 obtain ⟨l2, e2⟩ := List.getElem?_eq_some_iff.mp h2
 exact (List.getElem_inj nd).mp (e1.trans e2.symm)
theorem own_nodup : ∀ {ρ : List Own}, (addrs ρ).Nodup → ∀ {o : Own}, o ∈ ρ → o.addrs.Nodup
 | [], _, _, h => (nomatch h)
 | p :: r, hn, o, h => by
  have hn : (p.addrs ++ addrs r).Nodup := hn
  rw [List.nodup_append] at hn
  rcases List.mem_cons.mp h with rfl | g
  ·exact hn.1
  ·exact own_nodup hn.2.1 g
theorem finish_row {x : Str} {l m m' : List PyData} {o : Own} {a : Nat} {ra : Addr} {us' : List Value} {h' : Heap} {t : Nat} {w : X} (K : FnOk G C k) (L : LinkOk G S ρ) (I : Inv C S.σ ρ s) (R : RowAt C ρ s x l o) (e : S.σ x = some w) (hra : o.rows[a]? = some ra)
  (hs : Heap.SameBut ra s.heap h') (pl : h'.PlainList ra us'.toArray) (r : RdL (C.hh ρ s) us' m') :
  LinkOk G { S with σ := put S.σ x (.d (.list (upd l a (.list m')))) } ρ ∧ Inv C (put S.σ x (.d (.list (upd l a (.list m'))))) ρ { s with heap := h', toks := t } ∧ Step C ρ ρ s { s with heap := h', toks := t } := by
 have hm := find_mem R.found
 have hro : ra ∈ o.addrs := .tail _ (List.mem_of_getElem? hra)
 have hin : ra ∈ addrs ρ := mem_addrs hm _ hro
 have nod := I.nodup
 rw [List.nodup_append] at nod
 have nd := own_nodup nod.1 hm
 have ndc : (o.at_ :: o.rows).Nodup := nd
 have hne : o.at_ ≠ ra := fun q => (List.nodup_cons.mp ndc).1 (q ▸ (List.mem_of_getElem? hra))
 have kh : Keeps (C.hh ρ s) (C.hh ρ { s with heap := h', toks := t }) := keeps_hide fun b ob m e => hs.extBut b ob (fun q => m (q ▸ (List.mem_append_left _ hin))) e
 obtain ⟨A, B⟩ := I.own_upd (v' := .d (.list (upd l a (.list m')))) (s' := { s with heap := h', toks := t }) R.found hro (cell_ne K I hin) (fun b ob q e => hs.extBut b ob q e) (let ⟨n, e⟩ := pl; ⟨_, e⟩) rfl (fun _ _ e => e) id
  ⟨rfl, upd l a (.list m'), o.rows.map Value.ref, rfl, Heap.PlainList.at' (fun b e => hs.extBut _ _ hne e) R.pl, by
   rw [R.two]
   refine ⟨rfl, by rw [upd_set, List.length_set]; exact R.len, fun i b p hb hp => ?_⟩
   rw [upd_set, List.getElem?_set] at hp
   by_cases q : a = i
   ·subst q
    rw [hra] at hb; cases hb
    rw [if_pos rfl] at hp
    split at hp
    ·cases hp; exact ⟨m', us', rfl, pl, r.keeps kh⟩
    ·cases hp
   ·rw [if_neg q] at hp
    obtain ⟨m2, us2, e1, e2, e3⟩ := R.rows i b p hb hp
    refine ⟨m2, us2, e1, Heap.PlainList.at' (fun ob e => hs.extBut _ _ (fun z => q ?_) e) e2, e3.keeps kh⟩
    subst z; exact rows_inj nd hra hb⟩
 exact ⟨L.putOwn e, A, B⟩
theorem ex_set2 {x : Str} {p pos pi pj : Pos} {i j e : Expr} {a b : Int} {l m : List PyData} {v : PyData} (K : FnOk G C k) (ok : okName x = true) (hx : G.own2.contains x = true) (he : ∀ ρ, LinkOk G S ρ → Evs C S.σ ρ e (.d v)) (hi : ∀ ρ, LinkOk G S ρ → Evs C S.σ ρ i (.d (.int a))) (hj : ∀ ρ, LinkOk G S ρ → Evs C S.σ ρ j (.d (.int b)))
  (e1 : S.σ x = some (.d (.list l))) (ha : 0 ≤ a) (hb : 0 ≤ b) (hb2 : b < m.length) (hat : at? l a = some (.list m)) (hsz : l.length ≤ 1048576) (hsz2 : m.length ≤ 1048576) (hsw : swapsWith e (some (.Subscript (.Subscript (.Name x p) i pi) j pj)) pos.line C.env = pure false) :
  ExS C G (.Assign [.Subscript (.Subscript (.Name x p) i pi) j pj] e pos) S .next { S with σ := put S.σ x (.d (.list (upd l a.toNat (.list (upd m b.toNat v))))) } := fun ρ s Q E L I h => by
 obtain ⟨o, R⟩ := row_of L I hx e1
 refine wpAny_Assign_Subscript (he ρ L s _ _ I fun u s1 X1 r1 _ => ?_) hsw
 have I1 := I.ext X1
 refine row_ev K ok (R.ext I X1) I1 (hi ρ L) ha hsz hat fun ra s2 hra X2 => ?_
 have I2 := I1.ext X2
 refine hj ρ L s2 _ _ I2 fun w s3 X3 r3 _ => ?_
 have I3 := I2.ext X3
 obtain ⟨t, rfl⟩ := Rd.int_ r3
 have R3 := ((R.ext I X1).ext I1 X2).ext I2 X3
 have hl : l[a.toNat]? = some (.list m) := by unfold at? at hat; rw [if_pos ha] at hat; exact hat
 obtain ⟨m', us, em, ⟨n3, pl3⟩, r4⟩ := R3.rows _ ra _ hra hl
 cases em
 have lu := r4.length
 refine ki_setAt (items := us.toArray) (n := n3) pl3 hb (by lia) (by rw [List.size_toArray]; lia) ?_
 have hset : (us.toArray.setIfInBounds b.toNat u) = (upd us b.toNat u).toArray := by rw [upd_set]; simp
 obtain ⟨L4, I4, S4⟩ := finish_row (m := m) (t := s3.toks) (h' := s3.heap.update ra (Obj.mapSeq (·.setIfInBounds b.toNat u))) (us' := upd us b.toNat u) (m' := upd m b.toNat v) K L I3 R3 e1 hra (Heap.SameBut.update ..) ⟨_, by
  have q := IsL.update pl3 (·.setIfInBounds b.toNat u)
  rw [hset] at q; exact q⟩ (r4.upd b.toNat (Rd.keeps (hh_keeps (X2.trans X3)) r1))
 exact h ρ _ L4 I4 (((Step.ext I X1).trans (Step.ext I1 (X2.trans X3))).trans S4) .none fun _ z => (nomatch z)
theorem ex_aug2 {x : Str} {p pos pi pj : Pos} {i j e : Expr} {op : Operator} {a b old : Int} {l m : List PyData} {d v : PyData} (K : FnOk G C k) (ok : okName x = true) (hx : G.own2.contains x = true) (he : ∀ ρ, LinkOk G S ρ → Evs C S.σ ρ e (.d d)) (hi : ∀ ρ, LinkOk G S ρ → Evs C S.σ ρ i (.d (.int a))) (hj : ∀ ρ, LinkOk G S ρ → Evs C S.σ ρ j (.d (.int b)))
  (e1 : S.σ x = some (.d (.list l))) (ha : 0 ≤ a) (hb : 0 ≤ b) (hb2 : b < m.length) (hat : at? l a = some (.list m)) (hold : at? m b = some (.int old)) (hsz : l.length ≤ 1048576) (hsz2 : m.length ≤ 1048576) (hv : augD op (.int old) d = some v)
  (hst : ∀ ov iv new, augStore j ov iv new = (do holding [new, ov, iv] (setItem ov iv new); release [new, ov, iv] []; pure .next)) :
  ExS C G (.AugAssign (.Subscript (.Subscript (.Name x p) i pi) j pj) op e pos) S .next { S with σ := put S.σ x (.d (.list (upd l a.toNat (.list (upd m b.toNat v))))) } := fun ρ s Q E L I h => by
 obtain ⟨o, R⟩ := row_of L I hx e1
 refine wpAny_AugAssign_Subscript_any (row_ev K ok R I (hi ρ L) ha hsz hat fun ra s2 hra X2 => ?_) hst
 have I2 := I.ext X2
 refine hj ρ L s2 _ _ I2 fun w s3 X3 r3 _ => ?_
 have I3 := I2.ext X3
 obtain ⟨t, rfl⟩ := Rd.int_ r3
 have R3 := (R.ext I X2).ext I2 X3
 have hl : l[a.toNat]? = some (.list m) := by unfold at? at hat; rw [if_pos ha] at hat; exact hat
 obtain ⟨m', us, em, pl3, r4⟩ := R3.rows _ ra _ hra hl
 cases em
 have hm : m[b.toNat]? = some (.int old) := by unfold at? at hold; rw [if_pos hb] at hold; exact hold
 obtain ⟨uo, huo, ro⟩ := r4.get _ hm
 refine wpAny_getItem_list pl3.isList hb (by lia) (x := uo) (by simpa using huo) ?_
 refine he ρ L s3 _ _ I3 fun u s4 X4 r5 _ => ?_
 have I4 := I3.ext X4
 refine aug_sound (C := C) (ρ := ρ) hv (Rd.keeps (hh_keeps X4) ro) r5 fun y s5 X5 r6 => ?_
 have I5 := I4.ext X5
 have R5 := (R3.ext I3 X4).ext I4 X5
 obtain ⟨m', us5, em, ⟨n5, pl5⟩, r7⟩ := R5.rows _ ra _ hra hl
 cases em
 have lu := r7.length
 refine ki_setAt (items := us5.toArray) (n := n5) pl5 hb (by lia) (by rw [List.size_toArray]; lia) ?_
 have hset : (us5.toArray.setIfInBounds b.toNat y) = (upd us5 b.toNat y).toArray := by rw [upd_set]; simp
 obtain ⟨L6, I6, S6⟩ := finish_row (m := m) (t := s5.toks) (h' := s5.heap.update ra (Obj.mapSeq (·.setIfInBounds b.toNat y))) (us' := upd us5 b.toNat y) (m' := upd m b.toNat v) K L I5 R5 e1 hra (Heap.SameBut.update ..) ⟨_, by
  have q := IsL.update pl5 (·.setIfInBounds b.toNat y)
  rw [hset] at q; exact q⟩ (r7.upd b.toNat r6)
 exact h ρ _ L6 I6 ((Step.ext I (((X2.trans X3).trans X4).trans X5)).trans S6) .none fun _ z => (nomatch z)
end
end
section
open PySem.Calls
section
variable {C : Cx} {G : Fn} {σ σ0 τ : Sig} {ρ : List Own} {s s' : Shared} {E : Value → Shared → Prop} {k n : Nat} {S S' : St} {F : Fx}
theorem rd_ints {h : Heap} {c : Int} : ∀ {us : List Value} {n : Nat}, RdL h us (List.replicate n (.int c)) → ∀ h' : Heap, RdL h' us (List.replicate n (.int c))
 | _, 0, r, h' => by cases r; exact .nil
 | _, n + 1, r, h' => by
  rw [List.replicate_succ] at r ⊢
  cases r with
  | cons a b =>
   obtain ⟨t, rfl⟩ := a.int_
   exact .cons (.int _ _) (rd_ints b h')
theorem compL_const {bnd : PyData → Option Sig} {d : PyData} (h : ∀ p, ∃ τ, bnd p = some τ) : ∀ ps : List PyData, compL bnd (fun _ => some true) (fun _ => some d) ps = some (List.replicate ps.length d)
 | [] => rfl
 | p :: r => by
  obtain ⟨τ, e⟩ := h p
  exact bnI e (mpI (compL_const h r))
theorem rep_one {α : Type} (x : α) : ∀ n, (List.replicate n [x]).flatten = List.replicate n x
 | 0 => rfl
 | n + 1 => by rw [List.replicate_succ, List.flatten_cons, rep_one x n, List.replicate_succ]; rfl
theorem comp_grid {tgt iter elt : Expr} {sc : Scope} {pos py spos : Pos} {y : Str} {items : List PyData} {c : Int} {kk : Nat} {Q : Flow → Shared → Prop}
  (K : FxOk F C ρ k) (ok : CompOk F.kd sc) (hs : ∀ x, foldedSetIterable iter C.env x = pure x) (hi : EvIt C σ ρ false iter items) (hsz : items.length ≤ 1048576) (hbnd : ∀ p, ∃ τ, bindTD (okC sc) tgt (compSig F sc σ) p = some τ)
  (he : ∀ (C' : Cx) (τ : Sig), FxOk (F.comp sc) C' [] k → EvsF true C' τ elt (.list (List.replicate kk (.int c)))) (I : Inv C σ ρ s)
  (hsw : swapsWith (.ListComp elt [⟨tgt, iter, [], 0⟩] sc pos) (some (.Name y py)) spos.line C.env = pure true) (hy : C.env.kindOf y = some .local)
  (h : ∀ D rows s', Inv C (put σ y (.d (.list (List.replicate items.length (.list (List.replicate kk (.int c))))))) (⟨y, D, rows, true⟩ :: ρ.filter (fun o => !(o.name == y))) s' → Step C ρ (⟨y, D, rows, true⟩ :: ρ.filter (fun o => !(o.name == y))) s s' → Q .next s') :
  wpAny C.M C.A (exec (.Assign [.Name y py] (.ListComp elt [⟨tgt, iter, [], 0⟩] sc pos) spos) C.env) Q E s := by
 obtain ⟨cl, hclos, hcl, hfr⟩ := closure_of (scope := sc) (env := C.env) fun x hx q => K.cell x.1 (ok.free x hx q)
 rw [exec_Assign_Name_used _ _ _ _ hsw]
 refine wpAny_bind (wpAny_standAt (wpAny_bind ?_))
 show wpAny _ C.A (do let _ ← comprehension (.ListComp elt [⟨tgt, iter, [], 0⟩] sc pos) sc C.env _ (newList []) false (eval iter C.env) (some (assign (.Name y py) C.env))) _ _ s
 refine wpAny_bind (wpAny_mono (wpAny_comprehension_free (use := some (assign (.Name y py) C.env)) (Q := fun _ s' => Q .next s') rfl hs hclos ok.fn ok.loc
  (comp_core (fr := true) (tests := fun _ => some true) (eltf := fun _ => some (.list (List.replicate kk (.int c)))) (RR := fun acc L => compPost C.M C.A E (some (assign (.Name y py) C.env)) (fun _ s' => Q .next s') acc L) K ok hcl hfr hi
   (fun C' K' => ⟨fun τ b hb => by obtain rfl := sm_ hb; exact fun s Q E I q => wpAny_tests_nil (q s .refl), fun τ p hp => by obtain rfl := sm_ hp; exact he C' τ K'⟩) hsz (compL_const hbnd items) I fun D L s1 hD hL DL hn X rd nr => ?_)) (fun _ s' hq => wpAny_pure (wpAny_pure hq)) fun _ _ e => e)
 obtain ⟨mL, nL⟩ := hn
 obtain ⟨m, n0⟩ := I.ns
 have n := X.ns m n0
 have LL : C.env.locals ≠ L := fun q => by
  obtain ⟨o, _, _, e0, _⟩ := n0
  exact none_ (hL.symm.trans (q ▸ e0))
 have exL : ∀ b, s.heap.get? b = none → b ≠ C.env.locals := fun b hb q => by
  obtain ⟨o, _, _, e0, _⟩ := n0
  exact none_ (hb.symm.trans (q.symm ▸ e0))
 show wpAny _ C.A (assign (.Name y py) C.env (.ref D)) _ _ _
 refine wpAny_assign_Name (wpAny_storeName_local hy n (fun h2 n2 hs2 => ⟨mL, nL.sameBut hs2 (Ne.symm LL), fun h3 hs3 => ?_⟩) (K.cx.fn ▸ rfl))
 have n3 : h3.Ns C.env.locals (fun x => if x = y then some (.ref D) else m x) := n2.sameBut hs3 LL
 have up : ∀ b o, b ≠ C.env.locals → b ≠ L → s1.heap.get? b = some o → h3.get? b = some o := fun b o q1 q2 e => hs3.extBut b o q2 (hs2.extBut b o q1 e)
 have keep : ∀ b o, b ≠ C.env.locals → s.heap.get? b = some o → h3.get? b = some o := fun b o q e => up b o q (fun z => by exact none_ (hL.symm.trans (z.symm ▸ e))) (X.keep b o q e)
 obtain ⟨rows, nn, eD, rnd, rfr⟩ := nr rfl
 obtain ⟨a0, vs, nn', e0, eD', rl⟩ := rd.list_
 cases e0
 have hvs : vs = rows.map Value.ref := by
  have := of_hideAll _ eD'
  rw [eD] at this; cases this; rfl
 subst hvs
 have rowsAt : ∀ (i : Nat) (a : Addr) (p : PyData), rows[i]? = some a → (List.replicate items.length (PyData.list (List.replicate kk (.int c))))[i]? = some p → ∃ us : List Value, p = .list (List.replicate kk (.int c)) ∧ h3.PlainList a us.toArray ∧ ∀ h' : Heap, RdL h' us (List.replicate kk (.int c)) := fun i a p ha hp => by
  obtain ⟨u, e1, r1⟩ := rl.get i hp
  rw [List.getElem?_map, ha] at e1
  obtain rfl := sm_ e1
  have hpp : p = .list (List.replicate kk (.int c)) := by
   rw [List.getElem?_replicate] at hp
   split at hp
   ·obtain rfl := sm_ hp; rfl
   ·exact none_ hp
  subst hpp
  obtain ⟨a', us, n', e2, e3, r3⟩ := r1.list_
  cases e2
  obtain ⟨f1, f2, f3⟩ := rfr a (List.mem_of_getElem? ha)
  exact ⟨us, rfl, ⟨n', up _ _ (exL _ f1) f3 (of_hideAll _ e3)⟩, rd_ints r3⟩
 obtain ⟨I3, S3⟩ := I.own_gen (o := ⟨y, D, rows, true⟩) (v := .d (.list (List.replicate items.length (.list (List.replicate kk (.int c)))))) (s2 := { s1 with heap := h3, toks := s1.toks + 1 }) rfl (fun b hb => by
   rcases List.mem_cons.mp hb with q | q
   ·exact q ▸ hD
   ·exact (rfr b q).1) (List.nodup_cons.mpr ⟨fun q => (rfr D q).2.1 rfl, rnd⟩) (fun b hb => by
   rcases List.mem_cons.mp hb with q | q
   ·exact q ▸ (⟨_, up _ _ (exL _ hD) DL eD⟩)
   ·obtain ⟨i, hi⟩ := List.getElem?_of_mem q
    have hlt : i < items.length := by
     have h1 := rl.length
     rw [List.length_map, List.length_replicate] at h1
     exact h1.symm ▸ ((List.getElem?_eq_some_iff.mp hi).1)
    obtain ⟨us, _, ⟨n', e⟩, _⟩ := rowsAt i b _ hi (List.getElem?_replicate.trans (if_pos hlt))
    exact ⟨_, e⟩) hy n0 n3 keep X.os X.gens X.bare
  ⟨rfl, _, rows.map Value.ref, rfl, ⟨nn, up _ _ (exL _ hD) DL eD⟩, rfl, by
   have h1 := rl.length
   rw [List.length_map] at h1
   exact h1, fun i a p ha hp => by
   obtain ⟨us, e1, e2, e3⟩ := rowsAt i a p ha hp
   exact ⟨_, us, e1, e2, e3 _⟩⟩
 exact h D rows _ I3 S3
end
end
section
open PySem.Calls
section
variable {C : Cx} {G : Fn} {σ σ0 τ : Sig} {ρ : List Own} {s s' : Shared} {E : Value → Shared → Prop} {k n : Nat} {S S' : St} {F : Fx}
theorem keeps_perm {h0 h : Heap} {l l' : List Addr} (hm : ∀ b, b ∈ l' → b ∈ l) (x : Keeps h0 (hideAll h l)) : Keeps h0 (hideAll h l') := fun b o e => by
 have e1 := x b o e
 by_cases m : b ∈ l
 ·exact none_ ((hideAll_none _ m).symm.trans e1)
 ·exact hideAll_get _ (of_hideAll _ e1) fun q => m (hm b q)
theorem gnone (I : Inv C σ ρ s) {a : Addr} (h : s.heap.get? a = none) : C.g.get? a = none := by
 cases e : C.g.get? a with
 | none => rfl
 | some o => exact none_ (h.symm.trans (I.keep _ _ e))
theorem ex_for {tgt it : Expr} {b : List Stmt} {pos : Pos} {items : List PyData} {body : St → Option (Fl × St)} {f : Fl} (K : FnOk G C k) (hit : ∀ ρ, LinkOk G S ρ → EvIt C S.σ ρ true it items) (hfold : ∀ x, foldedSetIterable it C.env x = pure x)
  (hb : ∀ (C' : Cx), FnOk G C' k → ∀ (S : St) (f : Fl) (S' : St), body S = some (f, S') → ExL C' G b S f S') (e : loopL (bndT G tgt) body items S = some (f, S')) :
  ExS C G (.For tgt it b [] pos) S f S' := fun ρ s Q E L I h => by
 refine wpAny_For (hit ρ L s _ _ I fun J fp h0 s1 T W st X hJ kh hfp => ?_) hfold
 have J1 : ∀ b ∈ [J], s.heap.get? b = none := fun b hb => by obtain rfl := List.mem_singleton.mp hb; exact hJ
 obtain ⟨I1, _⟩ := I.into (wr := [J]) X J1 (fun b hb => W.there _ _ st b (W.sub b hb))
 refine for_loop (wr := [J]) (ρ0 := ρ) (s0 := s) W K (fun S f S' hb' => hb _ (K.with _) S f S' hb') (fun b hb => gnone I (J1 b hb)) (fun y c e q => ?_) (fun a ha q => ?_) J1 (fun k hk => (nomatch hk)) e L I1 st (keeps_perm (fun b hb => ?_) kh) (fun b hb q => ?_) (Step.ext I X) fun ρ' s' L' I' S' u hu => ?_
 ·obtain ⟨o, e⟩ := I.cl y c e; exact none_ ((J1 c q).symm.trans e)
 ·obtain ⟨⟨o, e⟩, _⟩ := I.old a ha; exact none_ ((J1 a q).symm.trans e)
 ·rcases List.mem_append.mp hb with q | q
  ·exact .tail _ (List.mem_append_left _ q)
  ·rcases List.mem_cons.mp q with q | q
   ·rw [q]; exact .tail _ (List.mem_append_right _ (.head _))
   ·rcases List.mem_append.mp q with q | q
    ·exact .tail _ (List.mem_append_right _ (.tail _ (List.mem_append_left _ q)))
    ·rcases List.mem_append.mp q with q | q
     ·rw [List.mem_singleton] at q; rw [q]; exact .head _
     ·exact .tail _ (List.mem_append_right _ (.tail _ (List.mem_append_right _ q)))
 ·obtain ⟨h1, h2, h3⟩ := hfp b hb
  rcases List.mem_append.mp q with q | q
  ·exact h3 rfl q
  ·rcases List.mem_cons.mp q with q | q
   ·exact h1 q
   ·exact h2 q
 ·have := h ρ' s' L' I' S' u hu
  cases f <;> exact this
theorem ex_gen {tgt a : Expr} {g : Str} {gp ip pos : Pos} {b : List Stmt} {p : PyData} {items : List PyData} {body : St → Option (Fl × St)} {f : Fl} (K : FnOk G C k) (ok : okName g = true) (hg : G.kd g = some .globalImplicit) (hn : noStar a = true) (ha : ∀ ρ, LinkOk G S ρ → Evs C S.σ ρ a (.d p)) (hgen : G.T.gen g p = some items)
  (hb : ∀ (C' : Cx), FnOk G C' k → ∀ (S : St) (f : Fl) (S' : St), body S = some (f, S') → ExL C' G b S f S') (e : loopL (bndT G tgt) body items S = some (f, S')) :
  ExS C G (.For tgt (.Call (.Name g gp) [a] [] ip) b [] pos) S f S' := fun ρ s Q E L I h => by
 obtain ⟨ag, g1, g2, _, g4⟩ := K.T.gen g p items hgen
 refine wpAny_For (wpAny_Call_ofName (glob_load K.cx ok (by rw [← K.kd]; exact hg) I (.inl g1) ?_)) fun _ => rfl
 refine args_K (fun e he => by obtain rfl := List.mem_singleton.mp he; exact hn) g2 ?_
 rw [star_cons hn, back_cons]
 refine spliced_cons (ha ρ L s _ _ I fun u s1 X1 r1 _ => spliced_nil ?_)
 have I1 := I.ext X1
 refine ⟨I1.gdH.kin, g4 C.A s1 u (C.hh ρ s1) _ _ K.cx.lv I1.gdH I1.bare keeps_hide_of r1 fun J Lg gi s2 G0 X2 W st hJ hL hgi => W.self _ _ _ st ?_⟩
 refine gen_loop W K (fun wr S f S' hb' => hb _ (K.with _) S f S' hb') I1 X2 hJ hL hgi (fun b hb q => ?_) st e L fun ρ' s' L' I' S' u hu => ?_
 ·obtain ⟨o, e⟩ := I1.gd.base_ex b hb
  exact none_ ((I1.new b q).symm.trans e)
 ·have := h ρ' s' L' I' ((Step.ext I X1).trans S') u hu
  cases f <;> exact this
theorem ex_freeze {x : Str} {st : Stmt} {f : Fl} (h : ExS C G st { S with own := S.own.filter fun y => !(y == x) } f S') : ExS C G st S f S' := fun ρ s Q E L I q => by
 obtain ⟨ρ1, L1, I1, S1⟩ := freeze_any (x := x) L I
 exact h ρ1 s Q E L1 I1 fun ρ' s' L' I' S' => q ρ' s' L' I' (S1.trans S')
theorem swap_other {e : Expr} {t : Option Expr} {line : Nat} {env : Env} (h : ¬(e.ctorIdx = 8 ∨ e.ctorIdx = 9 ∨ e.ctorIdx = 10)) : swapsWith e t line env = pure false := by
 cases e <;> first | rfl | exact absurd (.inl rfl) h | exact absurd (.inr (.inl rfl)) h | exact absurd (.inr (.inr rfl)) h
theorem swap_no {e : Expr} {v : X} {t : Option Expr} {line : Nat} {env : Env} (h : Mine.ee n F e σ = some v) (hne : compV e = none) : swapsWith e t line env = pure false := by
 refine swap_other fun q => ?_
 cases n with
 | zero => exact none_ h
 | succ n =>
  rcases q with q | q | q
  ·exact Expr.ListComp.elim (motive_1 := fun e => Mine.ee (n + 1) F e σ = some v → compV e = none → False) e q (fun elt gens sc p h hne => bndE h fun g h1 _ => none_ (hne.symm.trans (mpI h1))) h hne
  ·exact Expr.SetComp.elim (motive_1 := fun e => Mine.ee (n + 1) F e σ = some v → False) e q (fun _ _ _ _ h => none_ h) h
  ·exact Expr.DictComp.elim (motive_1 := fun e => Mine.ee (n + 1) F e σ = some v → False) e q (fun _ _ _ _ _ h => none_ h) h
theorem swap_make {e : Expr} {t : Option Expr} {line : Nat} {env : Env} (h : makesList e = true) : swapsWith e t line env = pure false := by
 refine swap_other fun q => ?_
 have h1 : decide (e.ctorIdx = 24) = false := decide_eq_false fun z => by rw [z] at q; exact absurd q (by decide)
 have h2 : binE e = none := dif_neg fun z => by rw [z] at q; exact absurd q (by decide)
 have h3 : cfunE e = none := dif_neg fun z => by rw [z] at q; exact absurd q (by decide)
 unfold makesList at h
 rw [h1, h2, h3] at h
 exact Bool.noConfusion h
theorem swap_sub {e o i : Expr} {px : Pos} {line : Nat} {env : Env} : swapsWith e (some (.Subscript o i px)) line env = pure false := by
 by_cases h : e.ctorIdx = 8 ∨ e.ctorIdx = 9 ∨ e.ctorIdx = 10
 ·rcases h with q | q | q
  ·exact Expr.ListComp.elim (motive_1 := fun e => swapsWith e (some (.Subscript o i px)) line env = pure false) e q fun _ _ _ _ => rfl
  ·exact Expr.SetComp.elim (motive_1 := fun e => swapsWith e (some (.Subscript o i px)) line env = pure false) e q fun _ _ _ _ => rfl
  ·exact Expr.DictComp.elim (motive_1 := fun e => swapsWith e (some (.Subscript o i px)) line env = pure false) e q fun _ _ _ _ _ => rfl
 ·exact swap_other h
theorem swap_yes {elt : Expr} {gens : List Comprehension} {sc : Scope} {p : Pos} {x : Str} {px : Pos} {line : Nat} (K : FnOk G C k) (h : swapOk G.kd x px sc p = true) : swapsWith (.ListComp elt gens sc p) (some (.Name x px)) line C.env = pure true := by
 unfold swapOk at h
 obtain ⟨h, h3⟩ := and2 h
 obtain ⟨h1, h2⟩ := and2 h
 have hbk : C.env.blockKind = .function := by unfold Env.blockKind; rw [K.cx.fn]; rfl
 have k1 : C.env.kindOf x = some .local := by rw [← K.kd]; exact eq_of_beq h1
 show (pure (C.env.blockKind == .function && C.env.kindOf x == some .local && px.line == p.line && !(sc.names.any fun (n, k) => n == x && (k == .local || k == .cell))) : Sem Bool) = pure true
 have h3' : (!(sc.names.any fun (n, k) => n == x && (k == .local || k == .cell))) = true := h3
 rw [hbk, k1, h2, h3']
 rfl
theorem noSlice_aug {j : Expr} {v : X} (h : Mine.ee n F j σ = some v) : ∀ ov iv new, augStore j ov iv new = (do holding [new, ov, iv] (setItem ov iv new); release [new, ov, iv] []; pure .next) := fun ov iv new => by
 have h := of_decide_eq_false (ee_odd h)
 cases j <;> first | rfl | exact absurd (.inr (.inr (.inl rfl))) h
end
end
section
open PySem.Calls
section
variable {C : Cx} {G : Fn} {ρ : List Own} {s : Shared} {E : Value → Shared → Prop} {k n : Nat} {S : St}
theorem grid_elt {C' : Cx} {τ : Sig} {c k0 : Int} {u1 u2 : Nat} {p1 p2 p3 p4 : Pos} (h0 : 0 ≤ k0) (h1 : k0 ≤ 100) : EvsF true C' τ (.BinOp (.List [.Constant (.int c) u1 p1] p2) .Mult (.Constant (.int k0) u2 p3) p4) (.list (List.replicate k0.toNat (.int c))) := fun s Q E I q => by
 have hl : EvL C' τ [] [.Constant (.int c) u1 p1] fun s us => RdL (C'.hh [] s) us [.int c] :=
  evl_cons (P := fun _ us => us = []) (R := fun s w => Rd (C'.hh [] s) w (.int c)) rfl (fun s Q E I q => const_ev (d := .int c) rfl s Q E I fun w s1 X1 r1 _ => q w s1 X1 r1) (evl_nil fun _ => rfl) fun s s' w us I X r1 r2 => by subst r2; exact .cons (Rd.keeps (hh_keeps X) r1) .nil
 have hb : binD .Mult (.list [.int c]) (.int k0) = some (.list (List.replicate k0.toNat (.int c))) := by
  refine (if_pos ?_).trans (by rw [rep_one])
  rw [Bool.and_eq_true, Bool.and_eq_true, Bool.and_eq_true]
  exact ⟨⟨⟨rfl, decide_eq_true (Int.le_trans h1 (by decide))⟩, decide_eq_true (Int.le_trans (by decide) h0)⟩, decide_eq_true (by show 1 * k0.toNat ≤ 1048576; lia)⟩
 exact wpAny_BinOp (evo_of (list_ev hl (by simp)) s _ _ I fun u s1 X1 r1 => evo_of (const_ev (d := .int k0) rfl) s1 _ _ (I.ext X1) fun v s2 X2 r2 =>
  bin_sound hb ((I.ext X1).ext X2) (r1.ext (I.ext X1) X2) r2 fun x s3 X3 rd fr => q x s3 ((X1.trans X2).trans X3) rd fun _ => by
   obtain ⟨a, vs, nn, e, _, _⟩ := rd.list_
   exact ⟨a, e, fr.back I (X1.trans X2) a e⟩)
theorem grid_link {x : Str} {D : Addr} {rows : List Addr} {v : X} (L : LinkOk G S ρ) (ho : S.own.contains x = false) (h2 : G.own2.contains x = true) : LinkOk G { S with σ := put S.σ x v } (⟨x, D, rows, true⟩ :: ρ.filter fun o => !(o.name == x)) := by
 have find : ∀ {y : Str} {o : Own}, y ≠ x → ρ.find? (·.name == y) = some o → ((⟨x, D, rows, true⟩ : Own) :: ρ.filter fun o => !(o.name == x)).find? (·.name == y) = some o := fun {y o} hne ho' => by
  have : (x == y) = false := by simpa using Ne.symm hne
  exact (List.find?_cons_of_neg (by show ¬(x == y) = true; rw [this]; exact fun z => nomatch z)).trans ((find_filter_ne hne ρ).trans ho')
 refine ⟨fun o ho' => ?_, fun y hy => ?_, fun y w hy hw => ?_⟩
 ·rcases List.mem_cons.mp ho' with q | ho'
  ·exact q ▸ ⟨ho, h2⟩
  ·exact L.own o (List.mem_filter.mp ho').1
 ·obtain ⟨o, ho'⟩ := L.full y hy
  exact ⟨o, find (fun q => by have hy : S.own.contains y = true := hy; rw [q, ho] at hy; exact Bool.noConfusion hy) ho'⟩
 ·by_cases q : y = x
  ·exact ⟨⟨x, D, rows, true⟩, List.find?_cons_of_pos (by rw [q]; exact beq_self_eq_true x)⟩
  ·obtain ⟨o, ho'⟩ := L.full2 y w hy ((if_neg q).symm.trans hw)
   exact ⟨o, find q ho'⟩
theorem grid_row {C' : Cx} {τ : Sig} {e : Expr} {r : Int × Int} (h : rowV e = some r) (h0 : 0 ≤ r.2) (h1 : r.2 ≤ 100) : EvsF true C' τ e (.list (List.replicate r.2.toNat (.int r.1))) := by
 exact rowV_ h fun _ _ _ _ _ _ => grid_elt h0 h1
theorem grid_iter {it : Expr} {f : Str × Expr} {m : Int} (K : FnOk G C k) (L : LinkOk G S ρ) (hr : G.kd "range" = some .globalImplicit) (h4 : call1V it = some f) (h5 : numV f.2 = some m) (q : f.1 = "range") (h0 : 0 ≤ m) (h1 : m ≤ 100) : EvIt C S.σ ρ false it (intsD (rangeL 0 m)) ∧ ∀ x, foldedSetIterable it C.env x = pure x := by
 refine call1V_ h4 fun pf p6 => ?_
 obtain ⟨u3, p5, e4⟩ := numV_ h5
 rw [e4, q]
 have hl : EvL C S.σ ρ [.Constant (.int m) u3 p5] fun s us => RdL (C.hh ρ s) us [.int m] :=
  evl_cons (P := fun _ us => us = []) (R := fun s w => Rd (C.hh ρ s) w (.int m)) rfl (fun s Q E I q => const_ev (d := .int m) rfl s Q E I fun w s1 X1 r1 _ => q w s1 X1 r1) (evl_nil fun _ => rfl) fun s s' w us I X r1 r2 => by subst r2; exact .cons (Rd.keeps (hh_keeps X) r1) .nil
 exact ⟨range_it (L.fx K) hr (stars_one rfl) hl (if_pos (by rw [Bool.and_eq_true]; exact ⟨decide_eq_true (by show _ ≤ 1048576; exact tnW ‹_›), decide_eq_true (by show _ ≤ 1048576; lia)⟩)), fun _ => rfl⟩
theorem ex_grid {x : Str} {px spos : Pos} {e : Expr} {g : (Int × Nat × Nat) × Scope × Pos} (K : FnOk G C k) (hg : gridOf e = some g) (hs : swapOk G.kd x px g.2.1 g.2.2 = true) (hc : compOk G.kd g.2.1 = true) (ho : S.own.contains x = false) (h2 : G.own2.contains x = true) (hr : G.kd "range" = some .globalImplicit) :
  ExS C G (.Assign [.Name x px] e spos) S .next { S with σ := put S.σ x (.d (.list (List.replicate g.1.2.2 (.list (List.replicate g.1.2.1 (.int g.1.1)))))) } := fun ρ s Q E L I h => by
 refine bndE hg fun c h1 z => bndE z fun r h2' z => bndE z fun y h3 z => bndE z fun f h4 z => bndE z fun m h5 z => ifE z fun q z => ?_
 obtain rfl := sm_ z
 obtain ⟨q1, q2, q3, q4, q5, q6, q7⟩ := q
 have hlen : (intsD (rangeL 0 m)).length = m.toNat := by simp [intsD, rangeL]
 obtain ⟨hi, hf⟩ := grid_iter K L hr h4 h5 q1 q4 q5
 obtain ⟨p, hp⟩ := nameV_ h3
 rw [compV_ h1, nil_ q7]
 refine comp_grid (kk := r.2.toNat) (c := r.1) (L.fx K) (compOk_of hc) hf hi (by rw [hlen]; clear h; exact tnW ‹_›) (fun p => ⟨_, by rw [hp]; exact if_pos q6⟩) (fun C' τ K' => grid_row h2' q2 q3) I (swap_yes K hs) (by rw [← K.kd]; exact eq_of_beq (and2 (and2 hs).1).1) fun D rows s1 I1 S1 => ?_
 rw [hlen] at I1
 exact h _ s1 (grid_link L ho h2) I1 S1 .none fun _ z => (nomatch z)
end
structure SS (n : Nat) : Prop where
 es : ∀ {C G st S f S' k}, FnOk G C k → Mine.es n G st S = some (f, S') → ExS C G st S f S'
 esL : ∀ {C G ss S f S' k}, FnOk G C k → Mine.esL n G ss S = some (f, S') → ExL C G ss S f S'
section
variable {C : Cx} {G : Fn} {σ σ0 τ : Sig} {ρ : List Own} {s s' : Shared} {E : Value → Shared → Prop} {k n : Nat} {S S' : St} {F : Fx} {f : Fl}
theorem step_esL (Z : SS n) {ss : List Stmt} (K : FnOk G C k) (h : Mine.esL (n + 1) G ss S = some (f, S')) : ExL C G ss S f S' := by
 cases ss with
 | nil => obtain ⟨rfl, rfl⟩ := Prod.mk.inj (sm_ h); exact exl_nil
 | cons st r =>
  refine bndE h fun z h1 h => ?_
  obtain ⟨f1, S1⟩ := z
  cases f1 with
  | next => exact exl_cons (Z.es K h1) (Z.esL K h)
  | _ => obtain ⟨rfl, rfl⟩ := Prod.mk.inj (sm_ h); exact exl_stop (fun q => nomatch q) (Z.es K h1)
theorem own3 {x : Str} {b : Bool} (h : (G.mu.contains x && S.own.contains x && b) = true) : S.own.contains x = true ∧ b = true := ⟨(and2 (and2 h).1).2, (and2 h).2⟩
theorem ExS.of {st : Stmt} {z : Fl × St} (e : some z = some (f, S')) (h : ExS C G st S z.1 z.2) : ExS C G st S f S' := by
 obtain rfl := sm_ e; exact h
theorem V_ (K : FnOk G C k) {e : Expr} {v : X} (h : Mine.ee n (G.fx S) e S.σ = some v) : ∀ ρ, LinkOk G S ρ → Evs C S.σ ρ e v := fun ρ L => (se n).ee (L.fx K) h
theorem T_ (K : FnOk G C k) {e : Expr} {b : Bool} (h : Mine.et n (G.fx S) e S.σ = some b) : ∀ ρ, LinkOk G S ρ → Evt C S.σ ρ e b := fun ρ L => (se n).et (L.fx K) h
section
variable {x : Str} {px pos p q : Pos} {e i j : Expr} {op : Operator}
theorem s_grid (K : FnOk G C k) (h2 : G.own2.contains x = true) (h : esGrid G S x px e = some (f, S')) : ExS C G (.Assign [.Name x px] e pos) S f S' := by
 refine bndE h fun g hg h => ifE h fun hc h => .of h ?_
 have c1 := and2 hc
 have c2 := and2 c1.1
 have c3 := and2 c2.1
 exact ex_grid K hg c3.1 c3.2 ((Bool.not_eq_true' _).mp c2.2) h2 (eq_of_beq c1.2)
theorem s_name (K : FnOk G C k) (h : esName n G S x px e = some (f, S')) : ExS C G (.Assign [.Name x px] e pos) S f S' := by
 refine pick_ h (fun h2 h => s_grid K h2 h) fun h2 h => pick_ h (fun hmu h => ?_) fun hmu h => ?_
 ·exact bndE h fun l he h => ifE h fun hq h => .of h (ex_own K (and2 hq).2 (and2 hq).1 (V_ K (eLst_ he)) (swap_make (and2 hq).1))
 ·refine optE h (fun c hc h => ifE h fun hs h => ?_) fun hc h => bndE h fun v he h => ifE h fun hok h => .of h (ex_name K hok (V_ K he) (swap_no he hc))
  ·skip
   obtain ⟨l, hd, hz⟩ := mpd h
   refine .of (congrArg some hz) ?_
   rw [compV_ hc]
   have hk : C.env.kindOf x = some .local := by rw [← K.kd]; exact eq_of_beq (and2 (and2 hs).1).1
   refine fun ρ s Q E L I q => ?_
   obtain ⟨a, items, tests, eltf, b, c, d, e1, e2⟩ := (se n).ecomp (L.fx K) hd
   exact comp_assign (okk := fun _ => true) (L.fx K) a b c d e1 e2 I (swap_yes K hs) hk (L.none (.inl (Bool.not_eq_true _ ▸ hmu)) (Bool.not_eq_true _ ▸ h2)) fun s1 I1 S1 => q ρ s1 (L.put (.inl (Bool.not_eq_true _ ▸ h2))) I1 S1 .none fun _ z => (nomatch z)
theorem s_tuple {ts : List Expr} {kt : Nat} {tp : Pos} (K : FnOk G C k) (h : esTuple n G S ts kt tp e = some (f, S')) : ExS C G (.Assign [.Tuple ts kt tp] e pos) S f S' := by
 refine optE h (fun es h1 h => bndE h fun ab h2 h => bndE h fun xy h3 h => bndE h fun u h6 h => bndE h fun v h7 h => ifE h fun hq h => .of h ?_) fun h1 h => bndE h fun a h2 h => ifE h fun _ h => bndE h fun v h3 h => ?_
 ·obtain ⟨kk, kp, rfl⟩ := tupE_ h1
  rw [two_ h2, twoN_ h3]
  have h6 := dOd h6
  have h7 := dOd h7
  exact ex_swap K (and2 (and2 hq).1).1 (and2 (and2 hq).1).2 (and2 hq).2 (ee_noStar h6) (ee_noStar h7) (V_ K h6) (V_ K h7)
 ·obtain ⟨τ, hb, hz⟩ := mpd h
  obtain rfl := methV_ h2
  exact .of (congrArg some hz) (ex_unpack K (V_ K (dOd h3)) hb rfl rfl)
theorem s_set {i : Expr} (K : FnOk G C k) (h : esSet n G S x i e = some (f, S')) : ExS C G (.Assign [.Subscript (.Name x p) i q] e pos) S f S' := by
 refine ifE h fun hq h => bndE h fun v h1 h => bndE h fun l h2 h => bndE h fun j h3 h => ifE h fun hc h => .of h (ex_set K (own3 hq).2 (own3 hq).1 (V_ K (dOd h1)) (V_ K (eInt_ h3)) (eLst_ h2) hc.1 hc.2.1 (short_le hc.2.2) swap_sub)
theorem cell_is {c : List PyData × Int × List PyData × Int} (h : cellAt n G S x i j = some c) : S.σ x = some (.d (.list c.1)) ∧ Mine.ee n (G.fx S) i S.σ = some (.d (.int c.2.1)) ∧ Mine.ee n (G.fx S) j S.σ = some (.d (.int c.2.2.2)) ∧ at? c.1 c.2.1 = some (.list c.2.2.1) ∧
  0 ≤ c.2.1 ∧ 0 ≤ c.2.2.2 ∧ c.2.2.2 < c.2.2.1.length ∧ short c.1.length = true ∧ short c.2.2.1.length = true := by
 refine bndE h fun l h1 h => bndE h fun a h3 h => bndE h fun b h5 h => bndE h fun m h7 h => ifE h fun hc h => smE h (bndE h7 fun m' h7 h8 => ?_)
 exact ⟨eLst_ h1, eInt_ h3, eInt_ h5, listV_ h8 ▸ h7, hc⟩
theorem s_set2 (K : FnOk G C k) {pi pj : Pos} (h : esSet2 n G S x i j e = some (f, S')) : ExS C G (.Assign [.Subscript (.Subscript (.Name x p) i pi) j pj] e pos) S f S' := by
 refine ifE h fun hq h => bndE h fun v h1 h => ?_
 obtain ⟨c, h2, hz⟩ := mpd h
 refine .of (congrArg some hz) ?_
 obtain ⟨c1, c2, c3, c4, c5, c6, c7, c8, c9⟩ := cell_is h2
 exact ex_set2 K (and2 hq).2 (and2 hq).1 (V_ K (dOd h1)) (V_ K c2) (V_ K c3) c1 c5 c6 c7 c4 (short_le c8) (short_le c9) swap_sub
theorem s_to {t : Expr} (K : FnOk G C k) (h : esTo n G S t e = some (f, S')) : ExS C G (.Assign [t] e pos) S f S' := by
 refine optE h (fun x h1 h => (nameP_ h1) ▸ (s_name K h)) fun h1 h => optE h (fun c h2 h => (tupP_ h2) ▸ (s_tuple K h)) fun h2 h => bndE h fun v h3 h => (subV_ h3).elim fun q e0 => e0 ▸ optE h (fun x h4 h => (nameV_ h4).elim fun p e1 => ?_) fun h4 h => bndE h fun w h5 h => bndE h fun x h6 h => (subV_ h5).elim fun p1 e1 => (nameV_ h6).elim fun p2 e2 => ?_
 ·rw [e1]; exact s_set K h
 ·rw [e1, e2]; exact s_set2 K h
theorem s_assign {ts : List Expr} (K : FnOk G C k) (h : esAssign n G S ts e = some (f, S')) : ExS C G (.Assign ts e pos) S f S' := by
 refine optE h (fun t h1 h => (one_ h1) ▸ (s_to K h)) fun h1 h => ifE h fun hn h => bndE h fun v h2 h => ifE h fun _ h => ?_
 obtain ⟨τ, hb, hz⟩ := mpd h
 refine .of (congrArg some hz) ?_
 cases ts with
 | nil => cases hn
 | cons t1 r => cases r with
  | nil => exact none_ h1.symm
  | cons t2 r => exact ex_multi K (V_ K h2) hb
theorem s_augN (K : FnOk G C k) (h : esAug n G S x op e = some (f, S')) : ExS C G (.AugAssign (.Name x p) op e pos) S f S' := by
 refine ifE h fun hq h => bndE h fun a h2 h => bndE h fun b h3 h => ?_
 obtain ⟨d, hb, hz⟩ := mpd h
 exact .of (congrArg some hz) (ex_aug K (and2 (and2 hq).1).1 (and2 (and2 hq).1).2 (dOd h2) (V_ K (dOd h3)) hb)
theorem s_aug2 (K : FnOk G C k) {pi pj : Pos} (h : esAug2 n G S x i j op e = some (f, S')) : ExS C G (.AugAssign (.Subscript (.Subscript (.Name x p) i pi) j pj) op e pos) S f S' := by
 refine ifE h fun hq h => bndE h fun c h5 h => bndE h fun d h6 h => bndE h fun o h7 h => bndE h7 fun old h7 h8 => ?_
 obtain ⟨r, hb, hz⟩ := mpd h
 obtain ⟨c1, c2, c3, c4, c5, c6, c7, c8, c9⟩ := cell_is h5
 exact .of (congrArg some hz) (ex_aug2 K (and2 hq).2 (and2 hq).1 (V_ K (dOd h6)) (V_ K c2) (V_ K c3) c1 c5 c6 c7 c4 (intV_ h8 ▸ h7) (short_le c8) (short_le c9) hb (noSlice_aug c3))
theorem s_aug {t : Expr} (K : FnOk G C k) (h : esAugA n G S t op e = some (f, S')) : ExS C G (.AugAssign t op e pos) S f S' := by
 refine optE h (fun x h1 h => (nameV_ h1).elim fun p e1 => e1 ▸ s_augN K h) fun h1 h => bndE h fun v h2 h => bndE h fun w h3 h => bndE h fun x h4 h => (subV_ h2).elim fun p1 e1 => e1 ▸ (subV_ h3).elim fun p2 e2 => (nameV_ h4).elim fun p3 e3 => ?_
 rw [e2, e3]; exact s_aug2 K h
theorem s_del {ts : List Expr} (K : FnOk G C k) (h : esDelA n G S ts = some (f, S')) : ExS C G (.Delete ts pos) S f S' := by
 refine bndE h fun t h1 h => bndE h fun v h2 h => bndE h fun x h3 h => (one_ h1) ▸ (subV_ h2).elim fun p1 e0 => e0 ▸ (nameV_ h3).elim fun p2 e1 => ?_
 rw [e1]
 exact ifE h fun hq h => bndE h fun l h4 h => bndE h fun j h5 h => ifE h fun hc h => .of h (ex_del K (own3 hq).2 (own3 hq).1 (V_ K (eInt_ h5)) (eLst_ h4) hc.1 hc.2.1 (short_le hc.2.2))
theorem s_expr (K : FnOk G C k) (h : esExpr n G S e = some (f, S')) : ExS C G (.Expr e pos) S f S' := by
 refine bndE h fun c h1 h => bndE h fun a h2 h => bndE h fun x h3 h => ifE h fun hq h => bndE h fun l h4 h => bndE h fun v h5 h0 => ?_
 obtain rfl := appV_ h1
 rw [methV_ h2]
 obtain ⟨p1, e1⟩ := nameV_ h3
 rw [e1]
 have q1 := own3 (and2 hq).1
 have h5 := dOd h5
 refine pick_ h0 (fun hm h => ifE h fun hs h => .of h ?_) fun _ h => ifE h fun hm h => bndE h fun w h6 h => ifE h fun hs h => .of h ?_
 ·rw [hm]
  exact ex_append K (and2 hq).2 q1.1 q1.2 (ee_noStar h5) (V_ K h5) (eLst_ h4) (short_le hs)
 ·rw [hm]
  rw [listV_ h6] at h5
  exact ex_extend K (and2 hq).2 q1.1 q1.2 (ee_noStar h5) (V_ K h5) (eLst_ h4) (short_le (and2 (and2 hs).1).2) (short_le (and2 hs).2)
theorem s_for {tgt it : Expr} {b : List Stmt} {body : St → Option (Fl × St)} (K : FnOk G C k) (B : ∀ (C' : Cx), FnOk G C' k → ∀ (S : St) (f : Fl) (S' : St), body S = some (f, S') → ExL C' G b S f S') (h : esFor n G S tgt it body = some (f, S')) : ExS C G (.For tgt it b [] pos) S f S' := by
 refine optE h (fun x h1 h => bndE h fun items hi h => ex_freeze (ex_for K (fun ρ L => ((se n).ei (L.fx K) hi).1) (fold_ok hi) B h)) fun h1 h => optE h (fun g h2 h => ?_) fun h2 h => bndE h fun items hi h => ex_for K (fun ρ L => ((se n).ei (L.fx K) hi).1) (fold_ok hi) B h
 refine pick_ h (fun _ h => bndE h fun items hi h => ex_for K (fun ρ L => ((se n).ei (L.fx K) hi).1) (fold_ok hi) B h) fun _ h => ifE h fun hg h => bndE h fun p ha h => bndE h fun items hgen h0 => call1V_ h2 fun p1 p2 => ?_
 have ha := dOd ha
 exact ex_gen K hg.1 hg.2 (ee_noStar ha) (V_ K ha) hgen B h0
end
theorem step_es (Z : SS n) {st : Stmt} (K : FnOk G C k) (h : Mine.es (n + 1) G st S = some (f, S')) : ExS C G st S f S' := by
 cases st with
 | Assign ts e p => exact s_assign K h
 | AugAssign t op e p => exact s_aug K h
 | Delete ts p => exact s_del K h
 | Expr e p => exact s_expr K h
 | If t b o p =>
  refine bndE h fun c h1 h => ?_
  cases c with
  | true => exact ex_if (T_ K h1) (fun _ => Z.esL K h) fun z => (nomatch z)
  | false => exact ex_if (T_ K h1) (fun z => (nomatch z)) fun _ => Z.esL K h
 | For tgt it b o p =>
  refine ifE h fun ho h' => ?_
  obtain rfl := nil_ ho
  exact s_for K (fun C' K' S f S' hb => Z.esL K' hb) h'
 | Assert t m p =>
  refine ifE h fun hm h => bndE h fun c h1 h => ifE h fun hc h => .of h ?_
  rw [Option.isNone_iff_eq_none.mp hm]
  exact ex_assert (T_ K (hc ▸ h1))
 | Return e p =>
  refine bndE h fun e h1 h => ?_
  obtain ⟨v, h2, hz⟩ := mpd h
  rw [h1]
  exact .of (congrArg some hz) (ex_ret fun ρ L => (se n).eo (L.fx K) h2)
 | Break p => exact .of h ex_break
 | _ => exact none_ h
theorem ss_zero : SS 0 := ⟨fun _ h => none_ h, fun _ h => none_ h⟩
theorem ss : ∀ n, SS n
 | 0 => ss_zero
 | n + 1 => have Z := ss n
  { es := step_es Z, esL := step_esL Z }
end
end
section
open PySem.Calls
theorem Lv.deeper {A : Around} {n : Nat} {env : Env} (h : Lv A (n + 1)) : Lv (A.deeper env) n := by
 refine ⟨h.hh, ?_, ?_⟩
 ·have := h.depth; show A.depth + 1 + 20 * n < 900; lia
 ·have := h.units; show A.units + 3 + 200 * n + 200 < 9000; lia
theorem bindL_not {kd : Str → Option NameKind} {x : Str} : ∀ {l : List (Str × Value)} {m : Str → Option Value}, x ∉ l.map (·.1) → bindL kd l m x = m x
 | [], _, _ => rfl
 | (n, v) :: r, m, h => by
  unfold bindL
  have h1 : x ≠ n := fun q => h (q ▸ (.head _))
  rw [bindL_not (fun q => h (.tail _ q))]
  split
  ·exact if_neg h1
  ·rfl
theorem bindC_not {kd : Str → Option NameKind} {x : Str} : ∀ {l : List (Str × Value)} {m : Str → Option Value}, x ∉ l.map (·.1) → bindC kd l m x = m x
 | [], _, _ => rfl
 | (n, v) :: r, m, h => by
  unfold bindC
  have h1 : x ≠ n := fun q => h (q ▸ (.head _))
  rw [bindC_not (fun q => h (.tail _ q))]
  split
  ·rfl
  ·exact if_neg h1
theorem bindL_get {kd : Str → Option NameKind} {x : Str} {u : Value} (hx : kd x = some .local) : ∀ {l : List (Str × Value)} {m : Str → Option Value}, (l.map (·.1)).Nodup → (x, u) ∈ l → bindL kd l m x = some u
 | [], _, _, h => (nomatch h)
 | (n, v) :: r, m, nd, h => by
  unfold bindL
  obtain ⟨nd1, nd2⟩ := List.nodup_cons.mp nd
  rcases List.mem_cons.mp h with q | h
  ·cases q
   rw [bindL_not nd1, if_pos hx, if_pos rfl]
  ·exact bindL_get hx nd2 h
theorem bindC_get {kd : Str → Option NameKind} {x : Str} {u : Value} (hx : kd x = some .cell) : ∀ {l : List (Str × Value)} {m : Str → Option Value}, (l.map (·.1)).Nodup → (x, u) ∈ l → bindC kd l m x = some u
 | [], _, _, h => (nomatch h)
 | (n, v) :: r, m, nd, h => by
  unfold bindC
  obtain ⟨nd1, nd2⟩ := List.nodup_cons.mp nd
  rcases List.mem_cons.mp h with q | h
  ·cases q
   rw [bindC_not nd1, if_neg (by rw [hx]; simp), if_pos rfl]
  ·exact bindC_get hx nd2 h
theorem zip_fst {α β : Type} : ∀ {as : List α} {bs : List β}, as.length = bs.length → (as.zip bs).map (·.1) = as
 | [], [], _ => rfl
 | [], _ :: _, h => by cases h
 | _ :: _, [], h => by cases h
 | a :: r, b :: l, h => by rw [List.zip_cons_cons, List.map_cons, zip_fst (by simpa using h)]
theorem bindP_length : ∀ {ps : List Arg} {l : List X} {σ : Sig}, bindP ps l = some σ → ps.length = l.length
 | [], l, σ, h => ifE h fun h _ => by rw [nil_ h]; rfl
 | _ :: _, [], _, h => none_ h
 | _ :: r, _ :: l, _, h => let ⟨_, q, _⟩ := mpd h; congrArg Nat.succ (bindP_length q)
theorem RdXs.length {G : Gl} {h : Heap} {us : List Value} {l : List X} (r : RdXs G h us l) : us.length = l.length := by
 induction r with
 | nil => rfl
 | cons _ _ ih => exact congrArg (· + 1) ih
theorem bindP_get {G : Gl} {h : Heap} : ∀ {ps : List Arg} {l : List X} {us : List Value} {σ : Sig}, bindP ps l = some σ → RdXs G h us l → ∀ x v, σ x = some v → ∃ u, (x, u) ∈ (ps.map (·.arg)).zip us ∧ RdX G h u v
 | [], _, _, σ, e, _, x, v, hx => ifE e fun _ e => by rw [← sm_ e] at hx; exact none_ hx
 | _ :: _, [], _, _, e, _, _, _, _ => none_ e
 | a :: r, w :: l, us, σ, e, rr, x, v, hx => by
  obtain ⟨τ, q, rfl⟩ := mpd e
  cases rr with
  | cons r1 r2 => exact pick_ hx (fun q1 hx => ⟨_, q1 ▸ .head _, sm_ hx ▸ r1⟩) fun _ hx => let ⟨u, h1, h2⟩ := bindP_get q r2 x v hx; ⟨u, .tail _ h1, h2⟩
structure DefOk (K : Frag) (f : Addr) (name qual : Str) (params : Arguments) (body : List Stmt) (scope : Scope) : Prop where
 it : ∃ (oc : Value) (od : Option Addr) (dV kV doc pm cdv ct : Value) (an : Option Addr) (osl : Array (Option Value)), K.lookup f = some ⟨oc, od, .func (fnX name qual params body scope [] dV kV doc pm an cdv ct), osl⟩ ∧ codeIn K cdv qual = true ∧
  ∀ us : List Value, us.length = params.args.length → bindArgs (fnX name qual params body scope [] dV kV doc pm an cdv ct) ⟨us, []⟩ = pure ((params.args.map (·.arg)).zip us)
 co : scope.isCoroutine = false
 gen : scope.isGenerator = false
 fn : scope.kind = .function
 nd : (params.args.map (·.arg)).Nodup
 kinds : ∀ x ∈ params.args.map (·.arg), scope.names.lookup x = some .local ∨ scope.names.lookup x = some .cell
 cnd : ((cellsFrom 0 scope.names []).map (·.1)).Nodup
theorem def_enter {G : Gl} {n : Nat} {f : Addr} {name qual : Str} {params : Arguments} {body : List Stmt} {scope : Scope} {A : Around} {H : List Addr} {s : Shared} {us : List Value} {l : List X} {σ : Sig} {R : Result → Shared → Prop} (D : DefOk G.K f name qual params body scope)
  (hd : A.depth < 1000) (lv : ∀ env, Lv (A.deeper env) n) (gd : Gd G s.heap) (bare : AllBare s.gens) (hH : ∀ a ∈ H, ∃ o, s.heap.get? a = some o) (ra : RdXs G (hideAll s.heap H) us l) (hσ : bindP params.args l = some σ)
  (h : ∀ (env : Env) (s1 : Shared), (∀ T mu own2, TabOk G T n → FnOk ⟨T, fun y => scope.names.lookup y, mu, own2⟩ ⟨G, A.deeper env, env, env.cells, H, s.heap⟩ n) → Inv ⟨G, A.deeper env, env, env.cells, H, s.heap⟩ σ [] s1 →
   (∀ a ∈ env.locals :: env.cells.map (·.2), s.heap.get? a = none) → Keeps s.heap s1.heap → s1.os = s.os ∧ s1.gens = s.gens → env.locals = s.heap.objs.size → env.cells = cellsFrom (s.heap.objs.size + 1) scope.names [] → (∀ E, wpAny (model G.prog G.w) (A.deeper env) (execs body env) (fun fl s' => R (.ok (.ret (match fl with | .ret v => v | _ => .none))) s') E s1)) :
  codeAny (model G.prog G.w) A (.call (.ref f) ⟨us, []⟩) R s := by
 obtain ⟨oc, od, dV, kV, doc, pm, cdv, ct, an, osl, hK, hcode, hbind⟩ := D.it
 have hlen := bindP_length hσ
 have hlu := ra.length
 refine codeAny_call_function (fd := fnX name qual params body scope [] dV kV doc pm an cdv ct) (body := body) hd (gd.kin _ _ hK) rfl D.co D.gen rfl (codeRec_of gd.kin hcode) ?_
 rw [hbind us (by lia)]
 refine wpAny_pure (wpAny_newFunctionEnv_cells D.fn (fun x hx => ?_) fun env he s1 x => ?_)
 ·have hx1 : x.1 ∈ params.args.map (·.arg) := (List.of_mem_zip hx).1
  rcases D.kinds x.1 hx1 with q | q
  ·exact .inl q
  ·exact .inr ⟨q, cellsFrom_some _ _ _ (.inl q)⟩
 ·have hkd : ∀ y, env.kindOf y = scope.names.lookup y := fun y => by rw [he]; rfl
  have hL : env.locals = s.heap.objs.size := by rw [he]; rfl
  have hcells : env.cells = cellsFrom (s.heap.objs.size + 1) scope.names [] := by rw [he]; rfl
  have cmem : ∀ y c, env.cells.lookup y = some c → (y, c) ∈ env.cells := fun y c e => mem_of_lookup e
  have cnd : (env.cells.map (·.1)).Nodup := by
   rw [hcells, ← cellsFrom_names scope.names 0 (s.heap.objs.size + 1) [] [] rfl]; exact D.cnd
  have clk : ∀ y c, (y, c) ∈ env.cells → env.cells.lookup y = some c := fun y c hm => lookup_of_mem_nodup cnd hm
  have fresh : ∀ a ∈ env.locals :: env.cells.map (·.2), s.heap.get? a = none := fun a ha => by
   apply get?_ge
   rcases List.mem_cons.mp ha with q | q
   ·rw [q, hL]; exact Nat.le_refl _
   ·obtain ⟨p, hp, e⟩ := List.mem_map.mp q
    have := x.above p.1 p.2 hp
    rw [← e]
    rw [hL] at this
    exact Nat.le_of_lt this
  have keep := x.toInCall.keep
  let C : Cx := ⟨G, A.deeper env, env, env.cells, H, s.heap⟩
  have kk : Keeps (hideAll s.heap H) (C.hh [] s1) := keeps_hide_sub fun b o m e => by
   refine ⟨fun q => ?_, keep b o e⟩
   have q : b ∈ env.locals :: (env.cells.map (·.2) ++ H) := q
   rcases List.mem_cons.mp q with q | q
   ·exact none_ ((fresh b (by rw [q]; exact .head _)).symm.trans e)
   ·rcases List.mem_append.mp q with q | q
    ·exact none_ ((fresh b (.tail _ q)).symm.trans e)
    ·exact m q
  have K : ∀ T mu own2, TabOk G T n → FnOk ⟨T, fun y => scope.names.lookup y, mu, own2⟩ C n := fun T mu own2 TK => by
   refine ⟨TK, fun y => (hkd y).symm, ⟨by show env.scope.kind = _; rw [he]; exact D.fn, by show env.globals = _; rw [he]; rfl, by show env.builtins = _; rw [he]; rfl, lv env⟩, fun y hy => ?_, fun y d e => List.mem_map_of_mem (f := (·.2)) (cmem y d e)⟩
   have := cellsFrom_some scope.names (s.heap.objs.size + 1) [] (.inl hy)
   rw [← hcells] at this
   obtain ⟨c, hc⟩ := Option.isSome_iff_exists.mp this
   exact ⟨c, hc, List.mem_map_of_mem (f := (·.2)) (cmem y c hc), fun z _ hz => name_of_addr x.apart (cmem z c hz) (cmem y c hc)⟩
  have I : Inv C σ [] s1 := by
   refine ⟨gd, ⟨_, x.toInCall.ns⟩, keep, fun y w hw => ?_, fun o ho => (nomatch ho), fun p hp => ⟨_, x.cell p.1 p.2 (clk _ _ hp)⟩, ?_, List.nodup_nil, fun a ha => fresh a ha, fun a ha => ?_, fun a ha => (nomatch ha), ?_, fun y c hc => ?_⟩
   ·obtain ⟨u, h1, h2⟩ := bindP_get hσ ra y w hw
    refine ⟨u, ?_, h2.keeps kk⟩
    have ndz : (((params.args.map (·.arg)).zip us).map (·.1)).Nodup := by rw [zip_fst (by rw [List.length_map]; lia)]; exact D.nd
    have hy1 : y ∈ params.args.map (·.arg) := (List.of_mem_zip h1).1
    unfold VarAt
    rcases D.kinds y hy1 with q | q
    ·have q' : C.env.kindOf y = some .local := (hkd y).trans q
     rw [q']
     exact ⟨_, x.toInCall.ns, bindL_get q' ndz h1⟩
    ·have q' : C.env.kindOf y = some .cell := (hkd y).trans q
     rw [q']
     have := cellsFrom_some scope.names (s.heap.objs.size + 1) [] (.inl q)
     rw [← hcells] at this
     obtain ⟨c, hc⟩ := Option.isSome_iff_exists.mp this
     have hi := x.cell y c hc
     rw [bindC_get q' ndz h1] at hi
     exact ⟨c, hc, hi⟩
   ·show (env.locals :: env.cells.map (·.2)).Nodup
    refine List.nodup_cons.mpr ⟨fun q => ?_, List.pairwise_map.mpr x.apart⟩
    obtain ⟨p, hp, e⟩ := List.mem_map.mp q
    have := x.above p.1 p.2 hp
    rw [e] at this
    exact Nat.lt_irrefl _ this
   ·obtain ⟨o, e⟩ := hH a ha
    exact ⟨⟨o, keep _ _ e⟩, fun q => by rw [fresh a q] at e; cases e⟩
   ·obtain ⟨h1, tk, hs1⟩ := x.toInCall.same
    rw [hs1]; exact bare
   ·obtain ⟨o, e, _⟩ := x.cell y c hc; exact ⟨o, e⟩
  have same : s1.os = s.os ∧ s1.gens = s.gens := by
   obtain ⟨h1, tk, hs1⟩ := x.toInCall.same
   rw [hs1]; exact ⟨rfl, rfl⟩
  exact ⟨gd.lim.keeps keep, codeAny_func (h env s1 K I fresh keep same hL hcells _)⟩
theorem fn_spec {G : Gl} {T : Tab} {n : Nat} {f : Addr} {name qual : Str} {params : Arguments} {body : List Stmt} {scope : Scope} {mu own2 : List Str} (TK : TabOk G T n) (D : DefOk G.K f name qual params body scope) (h2 : ∀ x ∈ own2, x ∉ params.args.map (·.arg)) :
  FnSpec G (n + 1) (.ref f) (runFn T params body scope mu own2) := fun A H s us l v Q E e lv gd bare hH ra h => by
 refine bndE e fun σ hσ e => bndE e fun z hrun hz => ?_
 obtain ⟨f, S'⟩ := z
 cases f with
 | ret w =>
  obtain rfl := sm_ hz
  refine wpAny_call (def_enter D (by have := lv.depth; lia) (fun env => lv.deeper) gd bare hH ra hσ fun env s1 K I fresh keep same hL _ E' => ?_)
  refine (ss fuel).esL (K T mu own2 TK) hrun [] s1 _ _ ⟨fun o ho => (nomatch ho), fun y hy => (nomatch hy), fun y w h1 h3 => ?_⟩ I fun ρ' s' L' I' S' u hu => ?_
  ·obtain ⟨u, q, _⟩ := bindP_get hσ ra y w h3
   exact absurd (List.of_mem_zip q).1 (h2 y (by simpa using h1))
  ·have full : Full s s' := ⟨fun b o e => S'.keep b o (fun q => by exact none_ ((fresh b q).symm.trans e)) (keep b o e), S'.os.trans same.1, fun k z e => S'.gens k z (same.2 ▸ e), fun hb => S'.bare (same.2 ▸ hb)⟩
   refine h u s' full ?_
   rcases hu _ rfl with r | ⟨a, ds, vs, e1, e2, ⟨nn, pl⟩, rd, hm⟩
   ·exact r.keeps (keeps_hide_sub fun b o m e => ⟨fun q => m (List.mem_append_right _ (.tail _ (List.mem_append_right _ q))), e⟩)
   ·subst e1; subst e2
    exact Rd.list (vs := vs) (hideAll_get _ pl fun q => (I'.old a q).2 (List.mem_append_left _ hm)) (rd.keeps (keeps_hide_sub fun b o m e => ⟨fun q => m (List.mem_append_right _ (.tail _ (List.mem_append_right _ q))), e⟩))
 | _ => exact none_ hz
end
section
open PySem.Calls
section
variable {M : Model} {A : Around} {R : GenEnd} {Y : Protocol} {n : Nat} {s₀ : Shared} {c : Code} {fs : List PySem.Frame} {s : Shared} {env : Env}
 {K : Flow → Sem Fin} {H : Value → Sem Fin} {gd : Bool → Bool} {lv : List Value → List Value}
theorem seg_If {test : Expr} {body orelse : List Stmt} {pos : Pos}
  (h : wpAny M (A.over c fs) (isTrue test env (eval test env)) (fun b s' => Seg M A R Y n s₀ c ((execs (if b = true then body else orelse) env).wrap K H gd lv) fs s') (fun x s' => Seg M A R Y n s₀ c (H x) fs s') s) :
  Seg M A R Y n s₀ c ((exec (.If test body orelse pos) env).wrap K H gd lv) fs s := by
 rw [exec_If]
 refine seg_bind_wrap (wpAny_standAt ?_)
 refine seg_bind_wrap (wpAny_mono h (fun b s' q => ?_) fun _ _ x => x)
 cases b <;> exact q
noncomputable def backTo' (env : Env) (K : Flow → Sem Fin) (H : Value → Sem Fin) (gd : Bool → Bool) (lv : List Value → List Value) : Result → Sem Fin := fun r => ((match r with | .ok f => (.pure f : Sem Flow) | .error e => .raise e).onRaise fun (x : Value) => do
    if (← field x 1) == Value.none then unsupported "frame.own-activation:exception-without-traceback"
    setFlight x env.frame).wrap K H gd lv
theorem seg_For {target iter : Expr} {body orelse : List Stmt} {pos : Pos} (hs : ∀ x, foldedSetIterable iter env x = pure x)
  (h : wpAny M (A.over c fs) (eval iter env) (fun x s₁ => wpAny M (A.over c fs) (pyIter x) (fun it s₂ => ∀ p, Seg M A R Y n s₀ (.forLoop target it body orelse env) (M.den (.forLoop target it body orelse env))
   (.ret (backTo' env K H gd lv) none (gd false) (lv []) c p [] :: fs) s₂) (fun x s' => Seg M A R Y n s₀ c (H x) fs s') s₁) (fun x s' => Seg M A R Y n s₀ c (H x) fs s') s) :
  Seg M A R Y n s₀ c ((exec (.For target iter body orelse pos) env).wrap K H gd lv) fs s := by
 rw [exec_For]
 refine seg_bind_wrap (wpAny_standAt ?_)
 refine seg_bind_wrap (wpAny_mono h (fun x s1 h1 => ?_) fun _ _ x => x)
 rw [hs x]
 refine seg_bind_wrap (wpAny_pure ?_)
 refine seg_bind_wrap (wpAny_standAt ?_)
 refine seg_bind_wrap (wpAny_holding (wpAny_mono h1 (fun it s2 h2 => ?_) fun _ _ x => x))
 exact seg_call h2
end
section
variable {prog : Program} {w : World} {A : Around} {R : GenEnd} {Y : Protocol} {n : Nat} {s₀ : Shared} {fs : List PySem.Frame} {s : Shared} {env : Env}
noncomputable def raised (env : Env) (e : Value) : Sem Fin := (do noteFrame e env; theTreesLotGoes e : Sem Unit).wrap (fun _ => .raise e) .raise id id
theorem seg_forLoop {target : Expr} {it : Value} {body orelse : List Stmt}
  (h : wpAny (model prog w) (A.over (.forLoop target it body orelse env) fs) (pyNext it) (fun r s' => match r with
    | none => Seg (model prog w) A R Y n s₀ (.forLoop target it body orelse env) (.pure (.again (.block orelse env))) fs s'
    | some v => wpAny (model prog w) (A.over (.forLoop target it body orelse env) fs) (letOwnedTupleGo target it v) (fun _ s1 => wpAny (model prog w) (A.over (.forLoop target it body orelse env) fs) (assign target env v) (fun _ s2 =>
     Seg (model prog w) A R Y n s₀ (.forLoop target it body orelse env) ((execs body env).wrap (fun f => match f with
      | .next | .cont => .pure (.again (.forLoop target it body orelse env))
      | .brk => .pure (.done .next)
      | .ret v => .pure (.done (.ret v))) (raised env) id id) fs s2)
     (fun x s' => Seg (model prog w) A R Y n s₀ (.forLoop target it body orelse env) (raised env x) fs s') s1) (fun x s' => Seg (model prog w) A R Y n s₀ (.forLoop target it body orelse env) (raised env x) fs s') s')
   (fun x s' => Seg (model prog w) A R Y n s₀ (.forLoop target it body orelse env) (raised env x) fs s') s) :
  Seg (model prog w) A R Y n s₀ (.forLoop target it body orelse env) ((model prog w).den (.forLoop target it body orelse env)) fs s := by
 show Seg _ A R Y n s₀ _ ((forTurn target it body orelse env).onRaise (fun x => do noteFrame x env; theTreesLotGoes x)) fs s
 have hw : ∀ m : Sem Fin, m.onRaise (fun x => do noteFrame x env; theTreesLotGoes x) = m.wrap (fun f => .pure f) (raised env) id id := fun m => by
  rw [Sem.onRaise_eq_wrap]
  exact Sem.wrap_congr _ _ _ (fun _ => rfl) fun e => by unfold raised; exact Sem.bind_eq_wrap _ _
 rw [hw]
 unfold forTurn
 refine seg_bind_wrap (wpAny_standAt ?_)
 refine seg_bind_wrap (wpAny_onRaise (wpAny_mono h (fun r s' hr => ?_) fun x s' hx => wpAny_standAt hx))
 cases r with
 | none => exact hr
 | some v =>
  refine seg_bind_wrap (wpAny_mono hr (fun _ s1 h1 => ?_) fun _ _ x => x)
  refine seg_bind_wrap (wpAny_mono h1 (fun _ s2 h2 => ?_) fun _ _ x => x)
  rw [Sem.bind_eq_wrap', Sem.wrap_wrap]
  rw [Sem.wrap_congr (execs body env) _ _ (K' := fun f => match f with
      | .next | .cont => .pure (.again (.forLoop target it body orelse env))
      | .brk => .pure (.done .next)
      | .ret v => .pure (.done (.ret v))) (H' := raised env) (fun f => by cases f <;> rfl) (fun e => by rfl)]
  exact h2
end
end
section
open PySem.Calls
theorem AllBare.setGen {a : Array GenState} {g : Nat} {x : GenState} (h : AllBare a) (hx : x.bare = true) : AllBare (a.setIfInBounds g x) := fun y hy => by
 obtain ⟨i, hi, rfl⟩ := Array.mem_iff_getElem.mp hy
 have hi' : i < a.size := by rw [Array.size_setIfInBounds] at hi; exact hi
 rw [Array.getElem_setIfInBounds hi']
 split
 ·exact hx
 ·exact h _ (Array.getElem_mem _)
section
variable {prog : Program} {w : World} {A : Around} {E : Value → Shared → Prop} {s : Shared}
theorem next_gen {a : Addr} {g n : Nat} {gs : GenState} {P : Nat → Shared → Shared → Prop} {Y : Protocol} {Q : Option Value → Shared → Prop} (hh : A.handled = none)
  (hl : s.heap.NoLimit) (hroom : A.depth < recursionLimit) (hg : s.heap.IsGen a g) (hgs : s.gens[g]? = some gs)
  (hgo : gs.Goes (model prog w) A.in1 (fun n s₀ r s₁ => r = .ok (.ret .none) ∧ P n s₀ s₁) Y n (.send .none) (s.setGen g .running))
  (hY : ∀ v s₁ gs', gs'.bare = true → Y (n - 1) (s.setGen g .running) v s₁ (fun r' s'' => match n with
    | 0 => False
    | m + 1 => gs'.Goes (model prog w) A.in1 (fun n s₀ r s₁ => r = .ok (.ret .none) ∧ P n s₀ s₁) Y m r' s'') → Q (some v) (s₁.setGen g gs'))
  (hP : ∀ s₁, P n (s.setGen g .running) s₁ → ∀ h', (∀ b o, s₁.heap.get? b = some o → h'.get? b = some o) → Q none { s₁.setGen g .finished with heap := h' }) :
  wpAny (model prog w) A (pyNext (.ref a)) Q E s := by
 delta pyNext
 refine wpAny_bind (wpAny_attempt (wpAny_callSpecial?_slot (name := Str.ofString "__next__") hg.typeIs slot_gen_next
  (wpAny_call_entry slot_gen_next hg.typeIs entry_gen_next ?_ (args_gen_next _))))
 show wpAny _ _ (Builtin.Generator.genWake (.ref a) (.send .none)) _ _ s
 delta Builtin.Generator.genWake
 refine wpAny_bind (wpAny_holding (wpAny_genNumber hg (wpAny_bind (wpAny_genState hgs ?_))))
 have main : ∀ l (k : GenResult → Sem Fin) Q' E', (∀ x s₁, (x = .ok (.ret .none) ∧ P n (s.setGen g .running) s₁) → wpAny (model prog w) A.in1 (k (End.ret x).result) Q' E' (s₁.setGen g .finished)) →
   (∀ v s₁ gs', gs'.bare = true → Y (n - 1) (s.setGen g .running) v s₁ (fun r' s'' => match n with
    | 0 => False
    | m + 1 => gs'.Goes (model prog w) A.in1 (fun n s₀ r s₁ => r = .ok (.ret .none) ∧ P n s₀ s₁) Y m r' s'') → wpAny (model prog w) A.in1 (k (.yielded v)) Q' E' (s₁.setGen g gs')) →
   wpAny (model prog w) A.in1 (.resume g (.send .none) l k) Q' E' s := fun l k Q' E' h1 h2 => wpAny_resumeQ hgs hgo h1 h2
 cases gs with
 | running => exact hgo.elim
 | finished => exact hgo.elim
 | _ =>
  refine wpAny_bind (wpAny_roomToWake hl hroom ?_)
  show wpAny _ _ (.resume g (.send .none) [] _) _ _ s
  refine main _ _ _ _ (fun x s₁ hx => ?_) (fun v s₁ gs' hb hv => ?_)
  ·obtain ⟨rfl, hp⟩ := hx
   show wpAny _ _ (newExc (.type "StopIteration") [] >>= _) _ _ _
   refine wpAny_bind ?_
   simp only [newExc, newTuple]
   refine wpAny_bind (wpAny_newObj_type ?_ (by size_fits))
   refine wpAny_bind (m := firstArgMember _ _) (wpAny_of_eq (a := Value.none) (by first | rfl | (simp only [firstArgMember]; rfl)) ?_)
   refine wpAny_newObj_type ?_ (by size_fits)
   simp only [raiseNew]
   refine wpAny_bind (wpAny_bind (wpAny_handled ?_))
   rw [show A.in1.handled = none from hh]
   refine wpAny_throw ?_
   refine wpAny_bind (wpAny_isInstance (T := "StopIteration") (b := true) ⟨_, Heap.get?_push_size _ rfl, rfl⟩ isSubtype_stop ?_)
   exact wpAny_pure (hP s₁ hp _ fun b o hb => Heap.get?_push_of_some _ (Heap.get?_push_of_some _ hb))
  ·exact wpAny_pure ⟨v, rfl, wpAny_pure (hY v s₁ gs' hb hv)⟩
end
section
variable {prog : Program} {w : World} {A : Around} {R : GenEnd} {Y : Protocol} {n : Nat} {s₀ : Shared} {fs : List PySem.Frame} {s : Shared} {env : Env}
theorem seg_block_nil (h : Seg (model prog w) A R Y n s₀ (.block [] env) (.pure (.done .next)) fs s) : Seg (model prog w) A R Y n s₀ (.block [] env) ((model prog w).den (.block [] env)) fs s := h
end
section
variable {C : Cx} {G : Fn} {σ : Sig} {ρ : List Own} {s s' : Shared} {E : Value → Shared → Prop} {k n : Nat} {S S' : St} {F : Fx}
theorem Inv.withA {A : Around} (I : Inv C σ ρ s) : Inv { C with A := A } σ ρ s := ⟨I.gd, I.ns, I.keep, I.vars, I.owns, I.cells, I.nodup, I.names, I.new, I.old, I.there, I.bare, I.cl⟩
noncomputable def flatX : X → Bool
 | .d (.int _) => true
 | .d (.str _) => true
 | .d (.bool _) => true
 | _ => false
theorem flat_rd {G : Gl} {h h' : Heap} {u : Value} {v : X} (hf : flatX v = true) (r : RdX G h u v) : RdX G h' u v := by
 cases v with
 | w => cases hf
 | r a => cases hf
 | d p =>
  cases p <;> first | (cases hf; done) | skip
  ·obtain rfl := Rd.bool_ r; exact Rd.bool _
  ·obtain ⟨t, rfl⟩ := Rd.int_ r; exact Rd.int _ _
  ·obtain ⟨t, rfl⟩ := Rd.str_ r; exact Rd.str _ _
theorem Inv.again (I : Inv C σ [] s) (hf : ∀ y v, σ y = some v → flatX v = true) (hcs : C.cs = []) (hH : C.H = []) (hcl : C.env.cells = []) (hg : ∀ b o, C.g.get? b = some o → b ∈ C.G.base)
  (hk : ∀ b ∈ C.env.locals :: C.G.base, ∀ o, s.heap.get? b = some o → s'.heap.get? b = some o) (hb : AllBare s'.gens) : Inv C σ [] s' := by
 refine ⟨I.gd, ?_, fun b o e => hk b (.tail _ (hg b o e)) o (I.keep b o e), fun y v e => ?_, I.owns, fun p hp => ?_, I.nodup, I.names, I.new, fun a ha => ?_, fun a ha => (nomatch ha), hb, fun y c e => ?_⟩
 ·obtain ⟨m, n⟩ := I.ns; exact ⟨m, n.at' (hk _ (.head _))⟩
 ·obtain ⟨u, h1, h2⟩ := I.vars y v e
  refine ⟨u, ?_, flat_rd (hf y v e) h2⟩
  delta VarAt at *
  split at h1
  ·obtain ⟨m, n, e⟩ := h1; exact ⟨m, n.at' (hk _ (.head _)), e⟩
  ·obtain ⟨c, n, e⟩ := h1; rw [hcl] at n; cases n
  ·obtain ⟨c, n, e⟩ := h1; rw [hcl] at n; cases n
  ·exact h1
 ·rw [hcs] at hp; cases hp
 ·rw [hH] at ha; cases ha
 ·rw [hcl] at e; cases e
theorem link_nil (L : LinkOk G S ρ) (h1 : S.own = []) (h2 : G.own2 = []) : ρ = [] := by
 cases ρ with
 | nil => rfl
 | cons o r =>
  have := L.own o (.head _)
  rw [h1, h2] at this
  cases q : o.two <;> (rw [q] at this; simp at this)
theorem link_mk (h1 : S.own = []) (h2 : G.own2 = []) : LinkOk G S [] := by
 refine ⟨fun o ho => (nomatch ho), fun x hx => ?_, fun x v hx => ?_⟩
 ·rw [h1] at hx; exact absurd hx (fun z => nomatch z)
 ·rw [h2] at hx; exact absurd hx (fun z => nomatch z)
theorem Step.mv (x : Step C [] [] s s') (hcs : C.cs = []) : Mv [C.env.locals] [] s s' := ⟨fun b o hb e => x.keep b o (fun q => hb (by
  have q : b ∈ C.env.locals :: C.cs.map (·.2) := q
  rw [hcs] at q; exact q)) e, x.os, fun k z _ e => x.gens k z e, x.bare⟩
theorem seg_plain {A : Around} {R : GenEnd} {Y : Protocol} {m : Nat} {s₀ : Shared} {c : Code} {fs : List PySem.Frame} {st : Stmt} {fu : Nat} {K' : Flow → Sem Fin} {H' : Value → Sem Fin} {gd : Bool → Bool} {lv : List Value → List Value} {τ σ : Sig}
  (K : FnOk G { C with A := A.over c fs } k) (h2 : G.own2 = []) (e : Mine.es fu G st ⟨σ, []⟩ = some (.next, ⟨τ, []⟩)) (I : Inv C σ [] s)
  (h : ∀ s', Inv C τ [] s' → Step C [] [] s s' → Seg C.M A R Y m s₀ c (K' .next) fs s') :
  Seg C.M A R Y m s₀ c ((exec st C.env).wrap K' H' gd lv) fs s := by
 refine seg_wrap ((ss fu).es K e [] s _ _ (link_mk rfl h2) I.withA fun ρ' s' L' I' S' u hu => ?_)
 have hr : ρ' = [] := link_nil L' rfl h2
 subst hr
 exact h s' (I'.withA (A := C.A)) ⟨S'.keep, S'.sub, S'.live, S'.os, S'.gens, S'.bare⟩
theorem const_size {x : Str} {px cp pos : Pos} {c : Const} {u : Nat} {p : PyData} {Q : Flow → Shared → Prop} (K : FnOk G C k) (hx : G.ok x = true) (hl : G.kd x = some .local) (h2 : G.own2 = []) (e : constD c = some p) (I : Inv C σ [] s)
  (h : ∀ s', Inv C (put σ x (.d p)) [] s' → Step C [] [] s s' → s'.heap.objs.size = s.heap.objs.size → Q .next s') : wpAny C.M C.A (exec (.Assign [.Name x px] (.Constant c u cp) pos) C.env) Q E s := by
 have fin : ∀ (v : Value) (t : Nat), Rd (C.hh [] s) v p → wpAny C.M C.A (storeName C.env x v) (fun _ s' => Q .next s') E { s with toks := t } := fun v t r => by
  have X : Ext C.env.locals s { s with toks := t } := .toks
  obtain ⟨m, n⟩ := I.ns
  have hk : C.env.kindOf x = some .local := by rw [← K.kd]; exact hl
  have I1 := I.ext X
  refine wpAny_storeName_local hk n (fun h' n' hs => ?_) (K.cx.fn ▸ rfl)
  obtain ⟨I', S'⟩ := I1.put_local (v := .d p) (t := t + 1) hk rfl (Rd.keeps (hh_keeps X) r) n n' hs
  exact h _ I' ((Step.ext I X).trans S') hs.1
 refine wpAny_Assign_Name ?_ rfl
 cases c with
 | none => exact wpAny_Constant_none (fin _ s.toks (.of e .none))
 | bool b => exact wpAny_Constant_bool (fin _ s.toks (.of e (.bool _)))
 | int i => exact wpAny_Constant_int (fin _ _ (.of e (.int _ _)))
 | str x => exact ifE e fun _ e => wpAny_Constant_str (fin _ _ (.of e (.str _ _)))
 | _ => exact none_ e
theorem tuple_new {es : List Expr} {kk : Nat} {pos : Pos} {ps : List PyData} {Q : Value → Shared → Prop} (he : EvL C σ ρ es fun s us => RdL (C.hh ρ s) us ps) (hsz : ps.length ≤ 1048576) (I : Inv C σ ρ s)
  (h : ∀ us s', Ext C.env.locals s s' → RdL (C.hh ρ s') us ps → Q (.ref s'.heap.objs.size) { s' with heap := s'.heap.push { cls := .type "tuple", data := .seq us.toArray } }) : wpAny C.M C.A (eval (.Tuple es kk pos) C.env) Q E s :=
 Tuple_ (he pos s _ _ I fun us s1 X1 r1 => wpAny_newTuple (h us s1 X1 r1) (by rw [r1.length, sizeLine_is]; exact wk ‹_› rfl))
end
end
section
noncomputable def fixB : Bool → List Nat → List Nat
 | _, [] => []
 | b, c :: r => if c = 10 then (bif b then fixB false r else 13 :: 10 :: fixB false r) else if c = 13 then 13 :: 10 :: fixB true r else c :: fixB false r
noncomputable def dotL : Bool → List Nat → List Nat
 | _, [] => []
 | b, c :: r => bif b && c == 46 then 46 :: 46 :: dotL false r else c :: dotL (c == 10) r
noncomputable def outL : Bool → Nat → List Nat → List (Nat × List Nat)
 | b, p, [] => bif b then [(p - 1, [92])] else []
 | b, p, c :: r => bif b then (p, [92, c]) :: outL false (p + 1) r else if c = 92 then outL true (p + 1) r else (p, [c]) :: outL false (p + 1) r
theorem fixB_c {b : Bool} {c : Nat} {r : List Nat} (h1 : c ≠ 10) (h2 : c ≠ 13) : fixB b (c :: r) = c :: fixB false r := (if_neg h1).trans (if_neg h2)
theorem fixB_t {c : Nat} {r : List Nat} (h : c ≠ 10) : fixB true (c :: r) = fixB false (c :: r) := (if_neg h).trans (if_neg h).symm
theorem dot_step {b : Bool} {c : Nat} {r : List Nat} (h : b = true → c ≠ 46) : dotL b (c :: r) = c :: dotL (c == 10) r := by
 cases b with
 | false => rfl
 | true => exact congrArg (fun z => bif z then 46 :: 46 :: dotL false r else c :: dotL (c == 10) r) (beq_eq_false_iff_ne.mpr (h rfl))
end
section
theorem elN {α β : Type} {o : Option α} {g : β} {f : α → β} (h : o = none) : o.elim g f = g := by rw [h]; rfl
theorem elS {α β : Type} {o : Option α} {g : β} {f : α → β} {a : α} (h : o = some a) : o.elim g f = f a := by rw [h]; rfl
theorem nt_ {b : Bool} (h : b = false) : ¬ b = true := h ▸ Bool.false_ne_true
theorem put_eq (σ : Sig) (x : Str) (v : X) : put σ x v x = some v := if_pos rfl
theorem put_ne {σ : Sig} {x y : Str} {v : X} (h : y ≠ x) : put σ x v y = σ y := if_neg h
noncomputable def Fx.plain (F : Fx) (x : Str) : Bool := okName x && isVar (F.kd x) && !(F.own.contains x || F.own2.contains x)
theorem Fx.plain_ {F : Fx} {x : Str} (h : F.plain x = true) : okName x = true ∧ isVar (F.kd x) = true ∧ F.own.contains x = false ∧ F.own2.contains x = false := by
 unfold Fx.plain at h
 simpa [and_assoc] using h
theorem eeName_ {F : Fx} {σ : Sig} {x : Str} (h : F.plain x = true) : eeName F x σ = σ x := by
 obtain ⟨h1, h2, h3, h4⟩ := Fx.plain_ h
 unfold eeName
 rw [h1, h2, h3, h4]; rfl
theorem eeGlob_ {F : Fx} {σ : Sig} {x : Str} (h : okName x = true) (hk : F.kd x = some .globalImplicit) : eeName F x σ = (F.T.const x).map .d := by
 unfold eeName
 rw [h, hk]; rfl
noncomputable def isNameE (e : Expr) : Bool := (nameV e).isSome || (subV e).elim false fun s => isName s.1
noncomputable def isComp (e : Expr) : Bool := decide (e.ctorIdx = 8)
theorem eo_ee {n : Nat} {F : Fx} {σ : Sig} {e : Expr} (h : isNameE e = false) : Mine.eo (n + 1) F e σ = Mine.ee n F e σ := by
 unfold isNameE at h
 rw [Bool.or_eq_false_iff] at h
 obtain ⟨h1, h2⟩ := h
 have e1 : nameV e = none := Option.isSome_eq_false_iff.mp h1 |> Option.isNone_iff_eq_none.mp
 have e2 : rowOfV F e = none := by
  unfold rowOfV
  cases q : subV e with
  | none => rfl
  | some s =>
   rw [q] at h2
   have : nameV s.1 = none := dif_neg (of_decide_eq_false h2)
   show (nameV s.1).bind _ = none
   rw [this]; rfl
 exact (elN (o := nameV e) e1).trans (elN (o := rowOfV F e) e2)
theorem cmp_sign {c d : Nat} (h1 : c < 0x110000) (h2 : d < 0x110000) : cmpD .Eq (.str ⟨#[c]⟩) (.str ⟨#[d]⟩) = some (decide (c = d)) := by
 have sh : ∀ c : Nat, c < 0x110000 → SeqAt.shaped (.str ⟨#[c]⟩) = true := fun x hx => by simp [SeqAt.shaped, PyData.canLay0, PyData.depth, PyData.strOk]; exact hx
 show (if SeqAt.shaped (.str ⟨#[c]⟩) && SeqAt.shaped (.str ⟨#[d]⟩) then some (PyData.eqv (.str ⟨#[c]⟩) (.str ⟨#[d]⟩)) else none) = _
 rw [sh c h1, sh d h2]
 show some ((⟨#[c]⟩ : Str) == ⟨#[d]⟩) = _
 congr 1
 by_cases h : c = d
 ·subst h; simp
 ·have : (⟨#[c]⟩ : Str) ≠ ⟨#[d]⟩ := fun q => h (by injection q with q; simpa using q)
  rw [decide_eq_false h]
  exact beq_eq_false_iff_ne.mpr this
end
section
section
variable {n : Nat} {F : Fx} {G : Fn} {σ τ : Sig} {S S1 : St} {a b d p q r : PyData} {v w : X} {pos pos' : Pos} {e e1 e2 : Expr} {z : Fl × St} {x : Str}
theorem nName (h : F.plain x = true) (e : σ x = some v) : Mine.ee (n + 1) F (.Name x pos) σ = some v := (eeName_ h).trans e
theorem nConst {c : Const} {k : Nat} (e : constD c = some p) : Mine.ee (n + 1) F (.Constant c k pos) σ = some (.d p) := mpI e
theorem nGlobal (h : okName x = true) (hk : F.kd x = some .globalImplicit) (e : F.T.const x = some p) : Mine.ee (n + 1) F (.Name x pos) σ = some (.d p) := (eeGlob_ h hk).trans (mpI e)
theorem oOwn (h : (okName x && isVar (F.kd x) && F.own.contains x) = true) (e : σ x = some v) : Mine.eo (n + 1) F (.Name x pos) σ = some v := (if_pos h).trans e
theorem oRead (h : F.own.contains x = false) (e : Mine.ee n F (.Name x pos) σ = some v) : Mine.eo (n + 1) F (.Name x pos) σ = some v := (if_neg (by rw [h]; simp)).trans e
theorem oName (h : F.plain x = true) (e : σ x = some v) : Mine.eo (n + 2) F (.Name x pos) σ = some v := oRead (Fx.plain_ h).2.2.1 (nName h e)
theorem oGlobal (h : okName x = true) (hk : F.kd x = some .globalImplicit) (e : F.T.const x = some p) : Mine.eo (n + 2) F (.Name x pos) σ = some (.d p) := (if_neg (by rw [hk, show isVar (some NameKind.globalImplicit) = false from rfl, Bool.and_false]; exact fun z => nomatch z)).trans (nGlobal h hk e)
theorem oSub {i : Expr} (h : F.own2.contains x = false) (e : Mine.ee n F (.Subscript (.Name x pos) i pos') σ = some v) : Mine.eo (n + 1) F (.Subscript (.Name x pos) i pos') σ = some v := by
 exact (elN (o := rowOfV F (.Subscript (.Name x pos) i pos')) (if_neg (by rw [h]; simp))).trans e
theorem oE (h : isNameE e = false) (e1 : Mine.ee n F e σ = some v) : Mine.eo (n + 1) F e σ = some v := (eo_ee h).trans e1
theorem nBin {op : Operator} (h1 : Mine.eo n F e1 σ = some (.d a)) (h2 : Mine.eo n F e2 σ = some (.d b)) (h3 : binD op a b = some r) : Mine.ee (n + 1) F (.BinOp e1 op e2 pos) σ = some (.d r) := bnI (dOI h1) (bnI (dOI h2) (mpI h3))
theorem nCmp {op : CmpOp} {t : Bool} (h1 : Mine.eo n F e1 σ = some (.d a)) (h2 : Mine.eo n F e2 σ = some (.d b)) (h3 : cmpD op a b = some t) : Mine.ee (n + 1) F (.Compare e1 [op] [e2] pos) σ = some (.d (.bool t)) := bnI (dOI h1) (bnI (dOI h2) (mpI h3))
theorem nIfT {o : Expr} (h : Mine.et n F e1 σ = some true) (h1 : Mine.ee n F e2 σ = some v) : Mine.ee (n + 1) F (.IfExp e1 e2 o pos) σ = some v := bnI h h1
theorem nIfF {o : Expr} (h : Mine.et n F e1 σ = some false) (h1 : Mine.ee n F o σ = some v) : Mine.ee (n + 1) F (.IfExp e1 e2 o pos) σ = some v := bnI h h1
theorem nSub (h : isSlice e2 = false) (h1 : Mine.eo n F e1 σ = some (.d a)) (h2 : Mine.ee n F e2 σ = some (.d b)) (h3 : subD a b = some r) : Mine.ee (n + 1) F (.Subscript e1 e2 pos) σ = some (.d r) :=
 bnI (dOI h1) ((elN (o := sliceV e2) (dif_neg (of_decide_eq_false h))).trans (bnI (dOI h2) (mpI h3)))
theorem nSlice {lo up : Option Expr} {i j : Option Nat} (h1 : Mine.eo n F e1 σ = some (.d a)) (h2 : Mine.eopt n F lo σ = some i) (h3 : Mine.eopt n F up σ = some j) (h4 : sliceD a i j = some r) : Mine.ee (n + 1) F (.Subscript e1 (.Slice lo up none pos) pos') σ = some (.d r) :=
 bnI (dOI h1) (bnI h2 (bnI h3 (mpI h4)))
theorem pNone : Mine.eopt (n + 1) F none σ = some none := rfl
theorem pSome {i : Int} {k : Nat} (h : Mine.ee n F e σ = some (.d (.int i))) (hk : i = k) (hl : k ≤ lim) : Mine.eopt (n + 1) F (some e) σ = some (some k) := bnI (dOI h) (by
 subst hk
 exact if_pos ⟨Int.natCast_nonneg k, Int.ofNat_le.mpr hl⟩)
theorem nList {es : List Expr} {l : List PyData} (h : Mine.eeL n F es σ = some l) (hs : short es.length = true) : Mine.ee (n + 1) F (.List es pos) σ = some (.d (.list l)) := (if_pos hs).trans (mpI h)
theorem nTuple {es : List Expr} {k : Nat} {l : List PyData} (h : Mine.eeL n F es σ = some l) (hs : short es.length = true) : Mine.ee (n + 1) F (.Tuple es k pos) σ = some (.d (.tuple l)) := (if_pos hs).trans (mpI h)
theorem nComp {elt tgt iter : Expr} {ifs : List Expr} {sc : Scope} {l : List PyData} (h : Mine.ecomp n F elt tgt iter ifs sc σ = some l) : Mine.ee (n + 1) F (.ListComp elt [⟨tgt, iter, ifs, 0⟩] sc pos) σ = some (.d (.list l)) := mpI h
noncomputable def eltF (n : Nat) (F : Fx) (e : Expr) : Sig → Option PyData := fun τ => dO (Mine.ee n F e τ)
theorem ecomp_of {elt tgt iter : Expr} {ifs : List Expr} {sc : Scope} {l items : List PyData} (ok : compOk F.kd sc = true) (hi : Mine.ei n false F iter σ = some items) (hs : short items.length = true)
  (h : compL (bindTD (okC sc) tgt (compSig F sc σ)) (Mine.etL n (F.comp sc) ifs) (eltF n (F.comp sc) elt) items = some l) : Mine.ecomp (n + 1) F elt tgt iter ifs sc σ = some l := (if_pos ok).trans (bnI hi ((if_pos hs).trans h))
theorem eNil : Mine.eeL (n + 1) F [] σ = some [] := rfl
theorem eCons {es : List Expr} {l : List PyData} (h : Mine.ee n F e σ = some (.d p)) (h2 : Mine.eeL n F es σ = some l) : Mine.eeL (n + 1) F (e :: es) σ = some (p :: l) := bnI (dOI h) (mpI h2)
theorem oNil : Mine.eoL (n + 1) F [] σ = some [] := rfl
theorem oCons {es : List Expr} {l : List PyData} (h : Mine.eo n F e σ = some (.d p)) (h2 : Mine.eoL n F es σ = some l) : Mine.eoL (n + 1) F (e :: es) σ = some (p :: l) := bnI (dOI h) (mpI h2)
theorem xNil : Mine.exL (n + 1) F [] σ = some [] := rfl
theorem xCons {es : List Expr} {l : List X} (h : Mine.ee n F e σ = some v) (h2 : Mine.exL n F es σ = some l) : Mine.exL (n + 1) F (e :: es) σ = some (v :: l) := bnI h (mpI h2)
theorem tCmp {op : CmpOp} {t : Bool} (h1 : Mine.eo n F e1 σ = some (.d a)) (h2 : Mine.eo n F e2 σ = some (.d b)) (h3 : cmpD op a b = some t) : Mine.et (n + 1) F (.Compare e1 [op] [e2] pos) σ = some t := bnI (dOI h1) (bnI (dOI h2) h3)
theorem tName {t : Bool} (h : Mine.ee n F (.Name x pos) σ = some (.d p)) (h2 : truthD p = some t) : Mine.et (n + 1) F (.Name x pos) σ = some t := bnI (dOI h) h2
theorem tCall {f : Expr} {as : List Expr} {ks : List Keyword} {t : Bool} (h : Mine.ee n F (.Call f as ks pos) σ = some (.d p)) (h2 : truthD p = some t) : Mine.et (n + 1) F (.Call f as ks pos) σ = some t := bnI (dOI h) h2
theorem tBool {op : BoolOp} {es : List Expr} {t : Bool} (h : Mine.etB n F op es σ = some t) : Mine.et (n + 1) F (.BoolOp op es pos) σ = some t := h
theorem bNil {op : BoolOp} : Mine.etB (n + 1) F op [] σ = some (isAnd op) := rfl
theorem bAndT {es : List Expr} {t : Bool} (h : Mine.et n F e σ = some true) (h2 : Mine.etB n F .And es σ = some t) : Mine.etB (n + 1) F .And (e :: es) σ = some t := bnI h h2
theorem bAndF {es : List Expr} (h : Mine.et n F e σ = some false) : Mine.etB (n + 1) F .And (e :: es) σ = some false := bnI h rfl
theorem bOrT {es : List Expr} (h : Mine.et n F e σ = some true) : Mine.etB (n + 1) F .Or (e :: es) σ = some true := bnI h rfl
theorem bOrF {es : List Expr} {t : Bool} (h : Mine.et n F e σ = some false) (h2 : Mine.etB n F .Or es σ = some t) : Mine.etB (n + 1) F .Or (e :: es) σ = some t := bnI h h2
theorem nCall {f : Str} {args : List Expr} {fp : Pos} (hf : okName f = true) (hk : F.kd f = some .globalImplicit) (hl : f ≠ "list") (h : Mine.ecall n F f args σ = some v) : Mine.ee (n + 1) F (.Call (.Name f fp) args [] pos) σ = some v := by
 exact (if_pos (And.intro hf hk)).trans ((elN (o := if f = "list" then (one args).bind call1V else none) (if_neg hl)).trans h)
theorem nBuilt {f : Str} {args : List Expr} {fp : Pos} {l : List PyData} (hf : okName f = true) (hk : F.kd f = some .globalImplicit) (hl : f ≠ "list") (h : Mine.eoL n F args σ = some l) (h2 : builtD f l = some r) : Mine.ee (n + 2) F (.Call (.Name f fp) args [] pos) σ = some (.d r) := nCall hf hk hl (elS (o := (Mine.eoL n F args σ).bind (builtD f)) (bnI h h2))
theorem nFn {f : Str} {args : List Expr} {fp : Pos} {l : List X} (hf : okName f = true) (hk : F.kd f = some .globalImplicit) (hl : f ≠ "list") (hb : ∀ l, builtD f l = none) (h : Mine.exL n F args σ = some l) (h2 : F.T.fn f l = some v) : Mine.ee (n + 2) F (.Call (.Name f fp) args [] pos) σ = some v := nCall hf hk hl (by
 have q : (Mine.eoL n F args σ).bind (builtD f) = none := by cases Mine.eoL n F args σ with
  | none => rfl
  | some l => exact hb l
 exact (elN q).trans (bnI h h2))
theorem nListGen {g : Str} {e : Expr} {fp gp gq : Pos} {l : List PyData} (hk : F.kd "list" = some .globalImplicit) (hg : okName g = true ∧ F.kd g = some .globalImplicit) (h : Mine.ee n F e σ = some (.d p)) (h2 : F.T.gen g p = some l) :
  Mine.ee (n + 1) F (.Call (.Name "list" fp) [.Call (.Name g gp) [e] [] gq] [] pos) σ = some (.d (.list l)) := (if_pos (And.intro rfl hk)).trans ((if_pos hg).trans (bnI (dOI h) (mpI h2)))
theorem nMeth {o : Expr} {m : Str} {apos : Pos} {args : List Expr} {y : Str} {l : List PyData} (h0 : (okBase o && (apos.endLine == pos.line) && decide (args.length < 30)) = true) (hm : m ≠ "sub") (h : Mine.ee n F o σ = some (.d (.str y))) (h1 : Mine.eoL n F args σ = some l) (h2 : methD y m l = some r) :
  Mine.ee (n + 1) F (.Call (.Attribute o m apos) args [] pos) σ = some (.d r) := (if_pos h0).trans ((if_neg hm).trans (bnI h (bnI h1 (mpI h2))))
theorem nSubPat {g m : Str} {gp apos : Pos} {args : List Expr} {y z u : Str} (h0 : (okBase (.Name g gp) && (apos.endLine == pos.line) && decide (args.length < 30)) = true) (hm : m = "sub") (hg : okName g = true ∧ F.kd g = some .globalImplicit) (h1 : Mine.eeL n F args σ = some [.str y, .str z]) (h2 : F.T.pat g y z = some u) :
  Mine.ee (n + 1) F (.Call (.Attribute (.Name g gp) m apos) args [] pos) σ = some (.d (.str u)) := (if_pos h0).trans ((if_pos hm).trans ((if_pos hg).trans (bnI (a := (y, z)) (bnI h1 rfl) (mpI h2))))
theorem nWMeth {o : Expr} {m : Str} {apos : Pos} {args : List Expr} {raw : Str} {i nt : Int} {cnt : List Int} {tr : Int} {sm : Bool} {l : List X} (h0 : (okBase o && (apos.endLine == pos.line) && decide (args.length < 30)) = true) (hm : m ≠ "sub") (hs : m ≠ "split") (h : Mine.ee n F o σ = some (.w raw i nt cnt tr sm)) (h1 : Mine.exL n F args σ = some l) (h2 : F.T.mt m (.w raw i nt cnt tr sm :: l) = some v) :
  Mine.ee (n + 1) F (.Call (.Attribute o m apos) args [] pos) σ = some v := (if_pos h0).trans ((if_neg hm).trans (bnI h ((if_pos hs).trans (bnI h1 h2))))
theorem nAttr {a : Str} {xp : Pos} (hk : F.kd x = some .local) (h : Mine.ee n F (.Name x xp) σ = some v) (h2 : attrX v a = some p) : Mine.ee (n + 1) F (.Attribute (.Name x xp) a pos) σ = some (.d p) := (if_neg (by rw [hk]; decide)).trans (bnI h (mpI h2))
theorem nCat {a : Str} {xp : Pos} (hk : F.kd x = some .globalImplicit) (ok : okName x = true) (h2 : F.T.cat x a = some p) : Mine.ee (n + 1) F (.Attribute (.Name x xp) a pos) σ = some (.d p) := (if_pos hk).trans ((if_pos ok).trans (mpI h2))
theorem iRange {args : List Expr} {fp : Pos} {l items : List PyData} {c : Bool} (hk : F.kd "range" = some .globalImplicit) (h : Mine.eeL n F args σ = some l) (h2 : rangeD l = some items) : Mine.ei (n + 1) c F (.Call (.Name "range" fp) args [] pos) σ = some items := (if_pos (And.intro rfl hk)).trans (bnI h h2)
noncomputable def isCallN (e : Expr) : Bool := (callV e).isSome
theorem eiE {items : List PyData} {c : Bool} (h : isCallN e = false) (h1 : (bif c then Mine.ee n F e σ else Mine.eo n F e σ) = some (.d p)) (h2 : itemsD p = some items) : Mine.ei (n + 1) c F e σ = some items := by
 exact (elN (o := callV e) (Option.isNone_iff_eq_none.mp (Option.isSome_eq_false_iff.mp h))).trans (bnI (dOI h1) h2)
theorem iE {items : List PyData} (h : isCallN e = false) (h1 : Mine.ee n F e σ = some (.d p)) (h2 : itemsD p = some items) : Mine.ei (n + 1) true F e σ = some items := eiE h h1 h2
theorem iO {items : List PyData} (h : isCallN e = false) (h1 : Mine.eo n F e σ = some (.d p)) (h2 : itemsD p = some items) : Mine.ei (n + 1) false F e σ = some items := eiE h h1 h2
theorem sNil : Mine.esL (n + 1) G [] S = some (.next, S) := rfl
theorem sCons {st : Stmt} {l : List Stmt} (h : Mine.es n G st S = some (.next, S1)) (h2 : Mine.esL n G l S1 = some z) : Mine.esL (n + 1) G (st :: l) S = some z := bnI h h2
theorem sStop {st : Stmt} {l : List Stmt} {f : Fl} (h : Mine.es n G st S = some (f, S1)) (hf : match f with | .next => False | _ => True) : Mine.esL (n + 1) G (st :: l) S = some (f, S1) := bnI h (by cases f <;> first | rfl | exact hf.elim)
theorem sIfT {bd o : List Stmt} (h : Mine.et n (G.fx S) e S.σ = some true) (h2 : Mine.esL n G bd S = some z) : Mine.es (n + 1) G (.If e bd o pos) S = some z := bnI h h2
theorem sIfF {bd o : List Stmt} (h : Mine.et n (G.fx S) e S.σ = some false) (h2 : Mine.esL n G o S = some z) : Mine.es (n + 1) G (.If e bd o pos) S = some z := bnI h h2
theorem sRet (h : Mine.eo n (G.fx S) e S.σ = some v) : Mine.es (n + 1) G (.Return (some e) pos) S = some (.ret v, S) := mpI h
theorem sBrk : Mine.es (n + 1) G (.Break pos) S = some (.brk, S) := rfl
theorem comp_none (h : isComp e = false) : compV e = none := dif_neg (of_decide_eq_false h)
theorem sAsg {px : Pos} (h : isComp e = false) (ok : G.ok x = true) (h1 : Mine.ee n (G.fx S) e S.σ = some v) : Mine.es (n + 1) G (.Assign [.Name x px] e pos) S = some (.next, { S with σ := put S.σ x v }) := by
 have ok' := ok
 unfold Fn.ok at ok'
 simp only [Bool.and_eq_true, Bool.not_eq_true'] at ok'
 exact (if_neg (nt_ ok'.2)).trans ((if_neg (nt_ ok'.1.2)).trans ((elN (comp_none h)).trans (bnI h1 (if_pos ok))))
theorem sOwn {px : Pos} {l : List PyData} (h2 : G.own2.contains x = false) (h1 : G.mu.contains x = true) (hm : (makesList e && G.okOwn x) = true) (he : Mine.ee n (G.fx S) e S.σ = some (.d (.list l))) : Mine.es (n + 1) G (.Assign [.Name x px] e pos) S = some (.next, ⟨put S.σ x (.d (.list l)), x :: S.own⟩) := by
 exact (if_neg (nt_ h2)).trans ((if_pos h1).trans (bnI (eLI he) (if_pos hm)))
theorem sComp {px q : Pos} {elt tgt iter : Expr} {ifs : List Expr} {sc : Scope} {l : List PyData} (h2 : G.own2.contains x = false) (h1 : G.mu.contains x = false) (hs : swapOk G.kd x px sc q = true) (h : Mine.ecomp n (G.fx S) elt tgt iter ifs sc S.σ = some l) :
  Mine.es (n + 1) G (.Assign [.Name x px] (.ListComp elt [⟨tgt, iter, ifs, 0⟩] sc q) pos) S = some (.next, { S with σ := put S.σ x (.d (.list l)) }) := by
 exact (if_neg (nt_ h2)).trans ((if_neg (nt_ h1)).trans ((if_pos hs).trans (mpI h)))
theorem sAug {op : Operator} {px : Pos} (ok : (okName x && G.ok x && !(S.own.contains x)) = true) (h1 : S.σ x = some (.d a)) (h2 : Mine.ee n (G.fx S) e S.σ = some (.d b)) (h3 : augD op a b = some r) : Mine.es (n + 1) G (.AugAssign (.Name x px) op e pos) S = some (.next, { S with σ := put S.σ x (.d r) }) := (if_pos ok).trans (bnI (dOI h1) (bnI (dOI h2) (mpI h3)))
theorem sSet {i : Expr} {px : Pos} {l : List PyData} {j : Int} (ok : (G.mu.contains x && S.own.contains x && okName x) = true) (h1 : Mine.ee n (G.fx S) e S.σ = some (.d p)) (h2 : S.σ x = some (.d (.list l))) (h3 : Mine.ee n (G.fx S) i S.σ = some (.d (.int j))) (h4 : 0 ≤ j ∧ j < l.length ∧ short l.length = true) :
  Mine.es (n + 1) G (.Assign [.Subscript (.Name x px) i pos'] e pos) S = some (.next, { S with σ := put S.σ x (.d (.list (upd l j.toNat p))) }) :=
 (if_pos ok).trans (bnI (dOI h1) (bnI (eLI h2) (bnI (eII h3) (if_pos h4))))
theorem sMulti {t1 t2 : Expr} {ts : List Expr} {c : Const} {k : Nat} {cp : Pos} (h : Mine.ee n (G.fx S) (.Constant c k cp) S.σ = some v) (h2 : putAll G.ok S.σ v (t1 :: t2 :: ts) = some τ) : Mine.es (n + 1) G (.Assign (t1 :: t2 :: ts) (.Constant c k cp) pos) S = some (.next, { S with σ := τ }) := bnI h (mpI h2)
theorem sTup {x y : Str} {px py tp kp : Pos} {kt kk : Nat} {e1 e2 : Expr} (h1 : Mine.ee n (G.fx S) e1 S.σ = some (.d a)) (h2 : Mine.ee n (G.fx S) e2 S.σ = some (.d b)) (h3 : (swapT G.kd x px y py e1 e2 && G.ok x && G.ok y) = true) :
  Mine.es (n + 1) G (.Assign [.Tuple [.Name x px, .Name y py] kt tp] (.Tuple [e1, e2] kk kp) pos) S = some (.next, { S with σ := put (put S.σ y (.d b)) x (.d a) }) := bnI (dOI h1) (bnI (dOI h2) (if_pos h3))
theorem sUnpack {ts : List Expr} {kt : Nat} {tp q r : Pos} {z a : Str} (h : Mine.ee n (G.fx S) (.Attribute (.Name z q) a r) S.σ = some (.d p)) (h2 : bindTD G.ok (.Tuple ts kt tp) S.σ p = some τ) : Mine.es (n + 1) G (.Assign [.Tuple ts kt tp] (.Attribute (.Name z q) a r) pos) S = some (.next, { S with σ := τ }) := bnI (dOI h) (mpI h2)
noncomputable def isPlainIt (it : Expr) : Bool := (nameV it).isNone && (call1V it).isNone
theorem sFor {tgt it : Expr} {bd : List Stmt} {items : List PyData} (hn : isPlainIt it = true) (hi : Mine.ei n true (G.fx S) it S.σ = some items)
  (h : loopL (bndT G tgt) (Mine.esL n G bd) items S = some z) : Mine.es (n + 1) G (.For tgt it bd [] pos) S = some z := by
 obtain ⟨h1, h2⟩ := Bool.and_eq_true_iff.mp hn
 exact (elN (o := nameV it) (Option.isNone_iff_eq_none.mp h1)).trans ((elN (o := call1V it) (Option.isNone_iff_eq_none.mp h2)).trans (bnI hi h))
theorem sForName {tgt : Expr} {bd : List Stmt} {items : List PyData} {px : Pos} (hi : Mine.ei n true (G.fx ⟨S.σ, S.own.filter fun y => !(y == x)⟩) (.Name x px) S.σ = some items)
  (h : loopL (bndT G tgt) (Mine.esL n G bd) items ⟨S.σ, S.own.filter fun y => !(y == x)⟩ = some z) : Mine.es (n + 1) G (.For tgt (.Name x px) bd [] pos) S = some z := bnI hi h
theorem sForRange {tgt : Expr} {bd : List Stmt} {items : List PyData} {gp ip : Pos} (hi : Mine.ei n true (G.fx S) (.Call (.Name "range" gp) [e] [] ip) S.σ = some items)
  (h : loopL (bndT G tgt) (Mine.esL n G bd) items S = some z) : Mine.es (n + 1) G (.For tgt (.Call (.Name "range" gp) [e] [] ip) bd [] pos) S = some z := bnI hi h
theorem sForGen {tgt : Expr} {bd : List Stmt} {items : List PyData} {gp ip : Pos} {g : Str} (hr : g ≠ "range") (hg : okName g = true ∧ G.kd g = some .globalImplicit) (h1 : Mine.ee n (G.fx S) e S.σ = some (.d p)) (h2 : G.T.gen g p = some items)
  (h : loopL (bndT G tgt) (Mine.esL n G bd) items S = some z) : Mine.es (n + 1) G (.For tgt (.Call (.Name g gp) [e] [] ip) bd [] pos) S = some z := (if_neg hr).trans ((if_pos hg).trans (bnI (dOI h1) (bnI h2 h)))
theorem sAppend {px apos epos : Pos} {m : Str} {l : List PyData} (ok : (G.mu.contains x && S.own.contains x && (apos.endLine == pos.line) && okName x) = true) (hm : m = "append") (h1 : S.σ x = some (.d (.list l))) (h2 : Mine.ee n (G.fx S) e S.σ = some (.d p)) (hs : short l.length = true) :
  Mine.es (n + 1) G (.Expr (.Call (.Attribute (.Name x px) m apos) [e] [] pos) epos) S = some (.next, { S with σ := put S.σ x (.d (.list (l ++ [p]))) }) :=
 (if_pos ok).trans (bnI (eLI h1) ((bnI (dOI h2) ((if_pos hm).trans (if_pos hs)))))
theorem sExtend {px apos epos lp : Pos} {m : Str} {l k : List PyData} {es : List Expr} (ok : (G.mu.contains x && S.own.contains x && (apos.endLine == pos.line) && okName x) = true) (hm : m = "extend") (h1 : S.σ x = some (.d (.list l))) (h2 : Mine.ee n (G.fx S) (.List es lp) S.σ = some (.d (.list k))) (hs : (short l.length && short k.length) = true) :
  Mine.es (n + 1) G (.Expr (.Call (.Attribute (.Name x px) m apos) [.List es lp] [] pos) epos) S = some (.next, { S with σ := put S.σ x (.d (.list (l ++ k))) }) :=
 (if_pos ok).trans (bnI (eLI h1) ((bnI (dOI h2) ((if_neg (fun q : m = "append" => absurd (hm.symm.trans q) (by decide))).trans ((if_pos hm).trans (bnI (o := listV (.list k)) rfl (if_pos (hs.symm ▸ rfl))))))))
theorem sDel {i : Expr} {px : Pos} {l : List PyData} {j : Int} (ok : (G.mu.contains x && S.own.contains x && okName x) = true) (h1 : S.σ x = some (.d (.list l))) (h2 : Mine.ee n (G.fx S) i S.σ = some (.d (.int j))) (h3 : (j = 0 ∨ j = -1) ∧ l ≠ [] ∧ short l.length = true) :
  Mine.es (n + 1) G (.Delete [.Subscript (.Name x px) i pos'] pos) S = some (.next, { S with σ := put S.σ x (.d (.list (if j = 0 then l.drop 1 else l.dropLast))) }) :=
 (if_pos ok).trans (bnI (eLI h1) ((bnI (eII h2) (if_pos h3))))
theorem sAssert (h : Mine.et n (G.fx S) e S.σ = some true) : Mine.es (n + 1) G (.Assert e none pos) S = some (.next, S) := bnI h rfl
end
end
section
open PySem.Calls
noncomputable def PW := PySem.Challenge.pw_uc0021_01
noncomputable def defOf (body : List Stmt) (n : Str) : Option (Arguments × List Stmt × Scope) := body.findSome? fun st => if h : st.ctorIdx = 0 then Stmt.FunctionDef.elim (motive_2 := fun _ => Option (Arguments × List Stmt × Scope)) st h fun m a b _ _ _ sc _ _ _ => if m = n then some (a, b, sc) else none else none
noncomputable def genD : { d : Arguments × List Stmt × Scope // defOf PW.main.body "_iter_escaped_chars" = some d } := ⟨(_, _, _), rfl⟩
noncomputable abbrev genScope : Scope := genD.1.2.2
noncomputable abbrev genBody : List Stmt := genD.1.2.1
noncomputable def noneE : Expr := .Constant .none 0 ⟨0, 0, 0, 0⟩
noncomputable def forParts (o : Option Stmt) : Expr × Expr × List Stmt := o.elim (noneE, noneE, []) fun st => if h : st.ctorIdx = 9 then Stmt.For.elim (motive_2 := fun _ => Expr × Expr × List Stmt) st h fun t i b _ _ => (t, i, b) else (noneE, noneE, [])
noncomputable abbrev gTgt : Expr := (forParts genBody[2]?).1
noncomputable abbrev gLoop : List Stmt := (forParts genBody[2]?).2.2
noncomputable abbrev gTail : List Stmt := genBody.drop 3
theorem outL_ff {i c : Nat} {r : List Nat} (h : c ≠ 92) : outL false i (c :: r) = (i, [c]) :: outL false (i + 1) r := if_neg h
theorem outL_ft {i : Nat} {r : List Nat} : outL false i (92 :: r) = outL true (i + 1) r := rfl
theorem outL_t {i c : Nat} {r : List Nat} (h : 0 < i) : outL true i (c :: r) = (i, [92, c]) :: outL false (i + 1) r := rfl
theorem outL_t0 {i : Nat} (h : 0 < i) : outL true i [] = [(i - 1, [92])] := rfl
theorem outL_f0 {i : Nat} : outL false i [] = [] := rfl
noncomputable def outD (l : List (Nat × List Nat)) : List PyData := l.map fun q => .tuple [.int q.1, .str ⟨q.2.toArray⟩]
noncomputable def YV (wr : List Addr) (s₀ s : Shared) (v : Value) (p : PyData) : Prop := ∃ (a : Addr) (us : List Value) (n : Nat) (ps : List PyData), v = .ref a ∧ s₀.heap.get? a = none ∧ a ∉ wr ∧ s.heap.get? a = some { cls := .type "tuple", data := .seq us.toArray n } ∧ p = .tuple ps ∧ ∀ h, RdL h us ps
noncomputable def Yp (fp wr : List Addr) (outs : List PyData) : Protocol := fun m s₀ v s kap => (∃ p, outs[outs.length - 1 - m]? = some p ∧ YV wr s₀ s v p) ∧ (∀ b ∈ wr, ∃ o, s.heap.get? b = some o) ∧ Mv wr [] s₀ s ∧
 ∀ s'' : Shared, (∀ b ∈ fp, ∀ o, s.heap.get? b = some o → s''.heap.get? b = some o) → AllBare s''.gens → kap (.send .none) s''
noncomputable def Rp (wr : List Addr) : GenEnd := fun n s₀ r s₁ => r = .ok (.ret .none) ∧ (n = 0 ∧ Mv wr [] s₀ s₁)
structure Rm (A : Around) : Prop where
 hh : A.handled = none
 depth : A.depth + 10 < 900
 units : A.units + 60 + 200 < 9000
noncomputable abbrev gC (G : Gl) (A : Around) (env : Env) (g : Heap) : Cx := ⟨G, A, env, [], [], g⟩
noncomputable abbrev gF (T : Tab) : Fn := ⟨T, fun y => genScope.names.lookup y, [], []⟩
structure GenEnv (env : Env) : Prop where
 sc : env.scope = genScope
 gl : env.globals = mainGlobals
 bl : env.builtins = builtinsNs
 cells : env.cells = []
theorem gF_ok {G : Gl} {T : Tab} {A : Around} {env : Env} {g : Heap} (TK : TabOk G T 0) (K : GenEnv env) (L : Lv A 0) : FnOk (gF T) (gC G A env g) 0 := by
 refine ⟨TK, fun y => by show _ = env.scope.names.lookup y; rw [K.sc], ⟨by show env.scope.kind = _; rw [K.sc]; rfl, K.gl, K.bl, L⟩, fun y hy => ?_, fun y d e => ?_⟩
 ·have hy : genScope.names.lookup y = some .cell := hy
  have := mem_of_lookup hy
  have al : genScope.names.all (fun z => !(z.2 == .cell)) = true := rfl
  have := List.all_eq_true.mp al _ this
  simp at this
 ·have e : env.cells.lookup y = some d := e
  rw [K.cells] at e; cases e
structure Sg (σ : Sig) (x : Str) (p : Int) (esc : Bool) : Prop where
 addr : σ "addr" = some (.d (.str x))
 pos : σ "pos" = some (.d (.int p))
 esc : σ "escape" = some (.d (.bool esc))
 flat : ∀ y v, σ y = some v → flatX v = true
theorem flat_put {σ : Sig} {x : Str} {w : X} (hf : ∀ y v, σ y = some v → flatX v = true) (hw : flatX w = true) : ∀ y v, put σ x w y = some v → flatX v = true := fun y v e => by
 delta put at e
 split at e
 ·obtain rfl := sm_ e; exact hw
 ·exact hf y v e
theorem plain_of {F : Fx} {x : Str} (h : okName x = true) (hk : F.kd x = some .local) (ho : F.own = []) (ho2 : F.own2 = []) : F.plain x = true := by
 delta Fx.plain; rw [h, hk, ho, ho2]; rfl
theorem et_name {F : Fx} {σ : Sig} {x : Str} {p : Pos} {v : PyData} {b : Bool} (h : okName x = true) (hk : F.kd x = some .local) (ho : F.own = []) (ho2 : F.own2 = []) (e : σ x = some (.d v)) (t : truthD v = some b) : Mine.et 5 F (.Name x p) σ = some b := tName (nName (plain_of h hk ho ho2) e) t
theorem ee_name {F : Fx} {σ : Sig} {x : Str} {p : Pos} {v : X} {n : Nat} (e : σ x = some v) (h : okName x = true) (hk : F.kd x = some .local) (ho : F.own = []) (ho2 : F.own2 = []) : Mine.ee (n + 1) F (.Name x p) σ = some v := nName (plain_of h hk ho ho2) e
theorem eo_name {F : Fx} {σ : Sig} {x : Str} {p : Pos} {v : X} {n : Nat} (e : σ x = some v) (h : okName x = true) (hk : F.kd x = some .local) (ho : F.own = []) (ho2 : F.own2 = []) : Mine.eo (n + 2) F (.Name x p) σ = some v := oName (plain_of h hk ho ho2) e
theorem gen_yield {G : Gl} {T : Tab} {A : Around} {env : Env} {g : Heap} {σ : Sig} {s₀ s : Shared} {fp wr : List Addr} {outs : List PyData} {m : Nat} {c : Code} {fs : List PySem.Frame} {es : List Expr} {kk : Nat} {tp yp pos : Pos} {i : Nat} {y : Str}
  {K' : Flow → Sem Fin} {H' : Value → Sem Fin}
  (TK : TabOk G T 0) (K : GenEnv env) (L : Lv (A.over c fs) 0) (I : Inv (gC G A env g) σ [] s) (mv : Mv wr [] s₀ s) (hL : env.locals ∈ wr) (hwr : ∀ b ∈ wr, ∃ o, s.heap.get? b = some o)
  (hg : ∀ b o, g.get? b = some o → b ∈ G.base) (hfp : ∀ b ∈ env.locals :: G.base, b ∈ fp) (hf : ∀ y v, σ y = some v → flatX v = true)
  (ev : Mine.eeL 6 ((gF T).fx ⟨σ, []⟩) es σ = some [.int i, .str y]) (ho : outs[outs.length - 1 - m]? = some (.tuple [.int i, .str y])) (hfs : splitAtGen fs = none) (hfg : fs.any Frame.guarded = false)
  (h : ∀ s2 s3, Mv wr [] s₀ s2 → (∀ b ∈ fp, ∀ o, s2.heap.get? b = some o → s3.heap.get? b = some o) → (∀ b, (∃ o, s.heap.get? b = some o) → ∃ o, s2.heap.get? b = some o) → (∀ b o, b ≠ env.locals → s.heap.get? b = some o → s2.heap.get? b = some o) →
   Inv (gC G A env g) σ [] s3 → Seg (model G.prog G.w) A (Rp wr) (Yp fp wr outs) m s3 c (K' .next) fs s3) :
  Seg (model G.prog G.w) A (Rp wr) (Yp fp wr outs) (m + 1) s₀ c ((exec (.Expr (.Yield (some (.Tuple es kk tp)) yp) pos) env).wrap K' H' id id) fs s := by
 have KF : FnOk (gF T) (gC G (A.over c fs) env g) 0 := gF_ok TK K L
 have lk := (link_mk (G := gF T) (S := ⟨σ, []⟩) rfl rfl).fx KF
 refine seg_Expr_Yield hfs rfl hfg ?_ (K.sc ▸ rfl) (by delta interactive; rw [K.sc]; rfl)
 refine tuple_new (C := gC G (A.over c fs) env g) ((se 6).eeL lk ev).2.2 (by show 2 ≤ 1048576; decide) I.withA fun us s1 X1 r1 => ?_
 have I1 := I.ext X1
 have X2 : Ext env.locals s1 { s1 with heap := s1.heap.push { cls := .type "tuple", data := .seq us.toArray } } := .heap' keeps_push
 have X := X1.trans X2
 have I2 := I.ext X
 generalize hs2 : ({ s1 with heap := s1.heap.push { cls := .type "tuple", data := .seq us.toArray } } : Shared) = s2 at X I2
 have mv2 : Mv wr [] s₀ s2 := mv.trans (X.mv.mono (fun b hb => by rw [List.mem_singleton] at hb; rw [hb]; exact hL) fun k hk => hk)
 have ext : ∀ (b : Addr), (∃ o, s.heap.get? b = some o) → ∃ o, s2.heap.get? b = some o := fun b ⟨o, e⟩ => by
  by_cases q : b = env.locals
  ·rw [q]; obtain ⟨m, o, _, _, e, _⟩ := I2.ns; exact ⟨o, e⟩
  ·exact ⟨o, X.keep _ _ q e⟩
 have ext1 : ∀ (b : Addr), (∃ o, s.heap.get? b = some o) → b < s1.heap.objs.size := fun b ⟨o, e⟩ => by
  by_cases q : b = env.locals
  ·rw [q]; obtain ⟨m, o, _, _, e, _⟩ := I1.ns; exact Heap.lt_size e
  ·exact Heap.lt_size (X1.keep _ _ q e)
 intro kap hk
 refine ⟨⟨_, ho, s1.heap.objs.size, us, 0, _, rfl, ?_, fun q => Nat.lt_irrefl _ (ext1 _ (hwr _ q)), ?_, rfl, fun h' => ?_⟩, fun b hb => ext b (hwr b hb), mv2, fun s3 k3 b3 => ?_⟩
 ·cases e : s₀.heap.get? s1.heap.objs.size with
  | none => rfl
  | some o =>
   exfalso
   by_cases q : s1.heap.objs.size ∈ wr
   ·exact Nat.lt_irrefl _ (ext1 _ (hwr _ q))
   ·exact Nat.lt_irrefl _ (ext1 _ ⟨o, mv.keep _ _ q e⟩)
 ·exact hs2.symm ▸ (Heap.get?_push_size _ rfl)
 ·obtain ⟨u1, u2, rfl, a1, a2⟩ : ∃ u1 u2, us = [u1, u2] ∧ Rd h' u1 (.int i) ∧ Rd h' u2 (.str y) := by
   cases r1 with
   | cons x1 x2 =>
    cases x2 with
    | cons y1 y2 =>
     cases y2
     exact ⟨_, _, rfl, flat_rd (G := G) (v := .d (.int i)) rfl x1, flat_rd (G := G) (v := .d (.str y)) rfl y1⟩
  exact .cons a1 (.cons a2 .nil)
 ·refine hk .none s3 ?_
  show Seg _ _ _ _ _ _ _ _ _ _
  exact h s2 s3 mv2 k3 ext (fun b o q e => X.keep b o q e) (I2.again hf rfl rfl K.cells hg (fun b hb o e => k3 b (hfp b hb) o e) b3)
theorem gen_tail {G : Gl} {T : Tab} {A : Around} {env : Env} {g : Heap} {x : Str} {esc : Bool} {p : Nat} {σ : Sig} {s₀ s : Shared} {fp wr : List Addr} {outs : List PyData} {n : Nat}
  (TK : TabOk G T 0) (K : GenEnv env) (rm : Rm A) (hn : n = (if esc then 1 else 0)) (hs : Sg σ x p esc) (I : Inv (gC G A env g) σ [] s) (mv : Mv wr [] s₀ s) (hL : env.locals ∈ wr) (hwr : ∀ b ∈ wr, ∃ o, s.heap.get? b = some o)
  (hg : ∀ b o, g.get? b = some o → b ∈ G.base) (hfp : ∀ b ∈ env.locals :: G.base, b ∈ fp)
  (ho : esc = true → outs[outs.length - 1]? = some (.tuple [.int p, .str "\\"])) :
  Seg (model G.prog G.w) A (Rp wr) (Yp fp wr outs) n s₀ (.func genBody env) ((execs gTail env).wrap (fun f => .pure (.done (.ret (match f with | .ret v => v | _ => .none))))
   (fun e => (leaving env e).wrap (fun _ => .raise e) .raise id id) id id) [] s := by
 have L : Lv (A.over (.func genBody env) []) 0 := ⟨rm.hh, by have := rm.depth; show A.depth + 1 + 20 * 0 < 900; lia, by have := rm.units; show A.units + 3 + 200 * 0 + 200 < 9000; lia⟩
 have KF : FnOk (gF T) (gC G (A.over (.func genBody env) []) env g) 0 := gF_ok TK K L
 have lk := (link_mk (G := gF T) (S := ⟨σ, []⟩) rfl rfl).fx KF
 refine seg_execs_cons (seg_If ?_)
 refine (se 5).et (C := gC G (A.over (.func genBody env) []) env g) lk (et_name (b := esc) rfl rfl rfl rfl hs.esc rfl) s _ _ I.withA fun s1 X1 => ?_
 have I1 := I.ext X1
 have mv1 : Mv wr [] s₀ s1 := mv.trans (X1.mv.mono (fun b hb => by rw [List.mem_singleton] at hb; rw [hb]; exact hL) fun k hk => hk)
 have ext : ∀ (b : Addr), (∃ o, s.heap.get? b = some o) → ∃ o, s1.heap.get? b = some o := fun b ⟨o, e⟩ => by
  by_cases q : b = env.locals
  ·rw [q]; obtain ⟨m, o, _, _, e, _⟩ := I1.ns; exact ⟨o, e⟩
  ·exact ⟨o, X1.keep _ _ q e⟩
 cases esc with
 | false =>
  subst hn
  refine seg_execs_nil ?_
  exact seg_execs_nil (seg_end (.ok (.ret .none)) ⟨rfl, rfl, mv1⟩)
 | true =>
  subst hn
  refine seg_execs_cons (gen_yield (i := p) (y := "\\") TK K L I1 mv1 hL (fun b hb => ext b (hwr b hb)) hg hfp hs.flat ?_ (ho rfl) rfl rfl fun s2 s3 _ _ _ _ I3 => ?_)
  ·exact eCons (ee_name hs.pos rfl rfl rfl rfl) (eCons (p := .str "\\") rfl rfl)
  ·refine seg_execs_nil ?_
   exact seg_execs_nil (seg_end (.ok (.ret .none)) ⟨rfl, rfl, .refl⟩)
end
section
open PySem.Calls
theorem drop_get4 {α : Type} {l r : List α} {i : Nat} {c : α} (h : l.drop i = c :: r) : l[i]? = some c ∧ l.drop (i + 1) = r ∧ i < l.length := by
 have h1 : (l.drop i)[0]? = some c := by exact h ▸ rfl
 rw [List.getElem?_drop] at h1
 have h2 : (l.drop i).drop 1 = r := by exact h ▸ rfl
 rw [List.drop_drop] at h2
 exact ⟨h1, h2, (List.getElem?_eq_some_iff.mp (h1)).1⟩
theorem out_head {l : List (Nat × List Nat)} {q : Nat × List Nat} {r : List (Nat × List Nat)} (h : l.drop (l.length - (r.length + 1)) = q :: r) : (outD l)[(outD l).length - 1 - r.length]? = some (.tuple [.int q.1, .str ⟨q.2.toArray⟩]) ∧ l.drop (l.length - r.length) = r := by
 obtain ⟨h1, h2, h3⟩ := drop_get4 h
 have hl : (outD l).length = l.length := by delta outD; rw [List.length_map]
 have e : l.length - 1 - r.length = l.length - (r.length + 1) := by lia
 refine ⟨?_, ?_⟩
 ·rw [hl, e]; delta outD; rw [List.getElem?_map, h1]; rfl
 ·have : l.length - r.length = l.length - (r.length + 1) + 1 := by
   have := congrArg List.length h
   rw [List.length_drop, List.length_cons] at this
   exact sbH ‹_›
  exact this ▸ h2
noncomputable def EnAt (x : Str) (t : Tok) (e it : Addr) (i : Nat) (h : Heap) : Prop := (∃ old, IsEnum h e it i old) ∧ h.IsStrIter it (strIterType x) x t i
theorem en_draw {prog : Program} {w : World} {A : Around} (hh : A.handled = none) (x : Str) (t : Tok) (it : Addr) :
  Draws prog w A.in1 it [it] x.cps.size (fun i v => ∃ c u, x.cps[i]? = some c ∧ v = .str ⟨#[c]⟩ u) (fun i h => h.IsStrIter it (strIterType x) x t i) := by
 cases ha : x.cps.all (· < 128)
 ·have hS : (fun (i : Nat) (h : Heap) => h.IsStrIter it (strIterType x) x t i) = fun i h => h.IsStrIter it "str_iterator" x t i := by funext i h; unfold strIterType; exact ha ▸ rfl
  exact hS ▸ (Draws.strWide (A := A.in1) hh it x t)
 ·have hS : (fun (i : Nat) (h : Heap) => h.IsStrIter it (strIterType x) x t i) = fun i h => h.IsStrIter it "str_ascii_iterator" x t i := by funext i h; unfold strIterType; rw [ha]; rfl
  exact hS ▸ (Draws.strAscii (A := A.in1) hh it x t)
section
variable {prog : Program} {w : World} {A : Around} {E : Value → Shared → Prop} {s : Shared}
theorem raise_stop {α : Type} {M : Model} {Q : α → Shared → Prop} (hB : A.handled = none) (h : ∀ h' e, (∀ b o, s.heap.get? b = some o → h'.get? b = some o) → (∃ o, h'.get? e = some o ∧ o.cls = .type "StopIteration") → E (.ref e) { s with heap := h' }) :
  wpAny M A (newExc (.type "StopIteration") [] >>= fun e => (raiseNew e : Sem α)) Q E s := by
 refine wpAny_bind ?_
 simp only [newExc, newTuple]
 refine wpAny_bind (wpAny_newObj_type ?_ (by size_fits))
 refine wpAny_bind (m := firstArgMember _ _) (wpAny_of_eq (a := Value.none) (by first | rfl | (simp only [firstArgMember]; rfl)) ?_)
 refine wpAny_newObj_type ?_ (by size_fits)
 simp only [raiseNew]
 refine wpAny_bind (wpAny_handled ?_)
 rw [hB]
 refine wpAny_bind (wpAny_pure (wpAny_throw ?_))
 exact h _ _ (fun b o e => Heap.get?_push_of_some _ (Heap.get?_push_of_some _ e)) ⟨_, Heap.get?_push_size _ rfl, rfl⟩
theorem str_end {ty : String} {it : Addr} {x : Str} {t : Tok} {i : Nat} {Q : Value → Shared → Prop} (hty : ty = "str_ascii_iterator" ∨ ty = "str_iterator") (hh : A.handled = none)
  (hit : s.heap.IsStrIter it ty x t i) (hx : x.cps[i]? = none)
  (hE : ∀ h' e, (∀ b o, b ≠ it → s.heap.get? b = some o → h'.get? b = some o) → (∃ o, h'.get? it = some o) → (∃ o, h'.get? e = some o ∧ o.cls = .type "StopIteration") → E (.ref e) { s with heap := h' }) :
  wpAny (model prog w) A (Builtin.SmallTypes.nextOf (.ref it)) Q E s := by
 obtain ⟨o, ho, hc, hd⟩ := id hit
 rcases hty with rfl | rfl
 ·delta Builtin.SmallTypes.nextOf
  refine wpAny_bind (wpAny_callSpecial?_slot (name := Str.ofString "__next__") hit.typeIs F.slot_str_ascii_iterator_next
   (wpAny_call_entry F.slot_str_ascii_iterator_next hit.typeIs F.entry_str_ascii_iterator_next ?_ (F.args_str_ascii_iterator_next_1 _)))
  show wpAny _ _ (field (.ref it) 0 >>= _) _ _ s
  refine wpAny_bind (wpAny_field ho hd (x := .str x t) rfl ?_)
  show wpAny _ _ (field (.ref it) 1 >>= _) _ _ s
  refine wpAny_bind (wpAny_field ho hd (x := .int i 0) rfl ?_)
  simp only [Int.toNat_natCast, hx]
  refine wpAny_bind (wpAny_rule (wpAny_bind (wpAny_setField ho hd (by simp) (wpAny_bind (wpAny_letGo (raise_stop hh fun h' e k he => ?_))))))
  exact hE h' e (fun b o' hb q => k b o' ((Heap.SameBut.update ..).extBut b o' hb q)) ⟨_, k _ _ (Heap.get?_update_self _ ho (Obj.isFreed_of_fields (Obj.data_mapFields hd _)))⟩ he
 ·delta Builtin.SmallTypes.nextOf
  refine wpAny_bind (wpAny_callSpecial?_slot (name := Str.ofString "__next__") hit.typeIs F.slot_str_iterator_next
   (wpAny_call_entry F.slot_str_iterator_next hit.typeIs F.entry_str_iterator_next ?_ (F.args_str_iterator_next_1 _)))
  show wpAny _ _ (field (.ref it) 0 >>= _) _ _ s
  refine wpAny_bind (wpAny_field ho hd (x := .str x t) rfl ?_)
  show wpAny _ _ (field (.ref it) 1 >>= _) _ _ s
  refine wpAny_bind (wpAny_field ho hd (x := .int i 0) rfl ?_)
  simp only [Int.toNat_natCast, hx]
  refine wpAny_bind (wpAny_rule (wpAny_bind (wpAny_setField ho hd (by simp) (wpAny_bind (wpAny_letGo (raise_stop hh fun h' e k he => ?_))))))
  exact hE h' e (fun b o' hb q => k b o' ((Heap.SameBut.update ..).extBut b o' hb q)) ⟨_, k _ _ (Heap.get?_update_self _ ho (Obj.isFreed_of_fields (Obj.data_mapFields hd _)))⟩ he
theorem enum_end {e it : Addr} {x : Str} {t : Tok} {Q : Option Value → Shared → Prop} (hh : A.handled = none) (st : EnAt x t e it x.cps.size s.heap)
  (hQ : ∀ h', (∀ b o, b ≠ it → s.heap.get? b = some o → h'.get? b = some o) → (∃ o, h'.get? it = some o) → Q none { s with heap := h' }) : wpAny (model prog w) A (pyNext (.ref e)) Q E s := by
 obtain ⟨⟨old, he⟩, si⟩ := st
 have hT : s.TypeIs (.ref e) "enumerate" := ⟨_, he, rfl⟩
 delta pyNext
 refine wpAny_bind (wpAny_attempt (wpAny_callSpecial?_slot (name := Str.ofString "__next__") hT F.slot_enumerate_next
  (wpAny_call_entry F.slot_enumerate_next hT F.entry_enumerate_next ?_ (F.args_enumerate_next_1 _))))
 show wpAny _ _ (field (.ref e) 2 >>= _) _ _ _
 refine wpAny_bind (wpAny_field he rfl (x := .ref it) rfl ?_)
 refine wpAny_bind (str_end (by unfold strIterType; split; exact .inl rfl; exact .inr rfl) hh si (by simp) fun h' y hk hi hy => ?_)
 obtain ⟨o, ho, hc⟩ := hy
 refine wpAny_bind (wpAny_isInstance (T := "StopIteration") (b := true) ⟨o, ho, hc⟩ isSubtype_stop ?_)
 exact wpAny_pure (hQ _ hk hi)
end
theorem EnAt.keep {x : Str} {t : Tok} {e it : Addr} {i : Nat} {h h' : Heap} (y : EnAt x t e it i h) (k1 : ∀ o, h.get? e = some o → h'.get? e = some o) (k2 : ∀ o, h.get? it = some o → h'.get? it = some o) : EnAt x t e it i h' :=
 ⟨let ⟨old, a⟩ := y.1; ⟨old, k1 _ a⟩, let ⟨o, a, b⟩ := y.2; ⟨o, k2 _ a, b⟩⟩
theorem EnAt.ex {x : Str} {t : Tok} {e it : Addr} {i : Nat} {h : Heap} (y : EnAt x t e it i h) : (∃ o, h.get? e = some o) ∧ ∃ o, h.get? it = some o :=
 ⟨let ⟨old, a⟩ := y.1; ⟨_, a⟩, let ⟨o, a, b⟩ := y.2; ⟨o, a⟩⟩
structure GAd (G : Gl) (env : Env) (e it J : Addr) (g : Heap) : Prop where
 ei : e ≠ it
 le : env.locals ≠ e
 li : env.locals ≠ it
 be : ∀ b ∈ G.base, b ≠ e ∧ b ≠ it
 g : ∀ b o, g.get? b = some o → b ∈ G.base
theorem gen_turns {G : Gl} {T : Tab} {A : Around} {env : Env} {g : Heap} {x : Str} {t : Tok} {e it J : Addr} {kont : Result → Sem Fin} {pp : Pos} {outs : List (Nat × List Nat)}
  (TK : TabOk G T 0) (K : GenEnv env) (rm : Rm A) (D : GAd G env e it J g) (hok : ∀ c ∈ x.cps, c < 0x110000)
  (hk : kont (.ok .next) = (execs gTail env).wrap (fun f => .pure (.done (.ret (match f with | .ret v => v | _ => .none)))) (fun e => (leaving env e).wrap (fun _ => .raise e) .raise id id) id id) :
  ∀ (l : List Nat) (i : Nat) (esc : Bool) (σ : Sig) (s₀ s : Shared), x.cps.toList.drop i = l → i ≤ x.cps.size → (esc = true → 0 < i) → Sg σ x ((i - 1 : Nat) : Int) esc → Inv (gC G A env g) σ [] s → EnAt x t e it i s.heap → Mv [env.locals, e, it] [] s₀ s →
   outs.drop (outs.length - (outL esc i l).length) = outL esc i l →
   Seg (model G.prog G.w) A (Rp [env.locals, e, it]) (Yp (J :: ([env.locals, e, it] ++ G.base)) [env.locals, e, it] (outD outs)) (outL esc i l).length s₀ (.forLoop gTgt (.ref e) gLoop [] env) ((model G.prog G.w).den (.forLoop gTgt (.ref e) gLoop [] env))
    [.ret kont none false [] (.func genBody env) pp []] s := by
 have L : Lv (A.over (.forLoop gTgt (.ref e) gLoop [] env) [.ret kont none false [] (.func genBody env) pp []]) 0 := ⟨rm.hh, by have := rm.depth; show A.depth + 1 + 20 * 0 < 900; lia, by have := rm.units; show A.units + 3 + 200 * 0 + 200 < 9000; lia⟩
 have KF : FnOk (gF T) (gC G (A.over (.forLoop gTgt (.ref e) gLoop [] env) [.ret kont none false [] (.func genBody env) pp []]) env g) 0 := gF_ok TK K L
 have W := en_draw (prog := G.prog) (w := G.w) (A := (A.over (.forLoop gTgt (.ref e) gLoop [] env) [.ret kont none false [] (.func genBody env) pp []])) rm.hh x t it
 have hef : e ∉ [it] := fun q => D.ei (List.mem_singleton.mp q)
 have notw : ∀ b, b = env.locals ∨ b ∈ G.base → b ∉ [e, it] := fun b hb q => by
  rcases hb with rfl | hb
  ·rcases List.mem_cons.mp q with q | q
   ·exact D.le q
   ·exact D.li (List.mem_singleton.mp q)
  ·rcases List.mem_cons.mp q with q | q
   ·exact (D.be b hb).1 q
   ·exact (D.be b hb).2 (List.mem_singleton.mp q)
 have mvW : ∀ {s : Shared} {h' : Heap} {tk : Nat}, (∀ b o, b ∉ [e, it] → s.heap.get? b = some o → h'.get? b = some o) → Mv [env.locals, e, it] [] s { s with heap := h', toks := tk } := fun k => .heap fun b o hb => k b o fun q => hb (.tail _ q)
 have again : ∀ {σ : Sig} {s : Shared} {h' : Heap} {tk : Nat}, (∀ y v, σ y = some v → flatX v = true) → Inv (gC G A env g) σ [] s → (∀ b o, b ∉ [e, it] → s.heap.get? b = some o → h'.get? b = some o) → Inv (gC G A env g) σ [] { s with heap := h', toks := tk } := fun hf I k =>
  I.again hf rfl rfl K.cells D.g (fun b hb o e => k b o (notw b (by rcases List.mem_cons.mp hb with q | q; exact .inl q; exact .inr q)) e) I.bare
 have ext : ∀ {σ : Sig} {s : Shared} {i : Nat}, Inv (gC G A env g) σ [] s → EnAt x t e it i s.heap → ∀ b ∈ [env.locals, e, it], ∃ o, s.heap.get? b = some o := fun I st b hb => by
  rcases List.mem_cons.mp hb with q | hb
  ·rw [q]; obtain ⟨m, o, _, _, e, _⟩ := I.ns; exact ⟨o, e⟩
  ·rcases List.mem_cons.mp hb with q | hb
   ·exact q ▸ st.ex.1
   ·exact (List.mem_singleton.mp hb) ▸ st.ex.2
 have hfp : ∀ b ∈ env.locals :: G.base, b ∈ J :: ([env.locals, e, it] ++ G.base) := fun b hb => by
  rcases List.mem_cons.mp hb with q | q
  ·exact q ▸ (.tail _ (.head _))
  ·exact .tail _ (List.mem_append_right _ q)
 have hL : env.locals ∈ [env.locals, e, it] := .head _
 intro l
 induction l with
 | nil =>
  intro i esc σ s₀ s hd hi hp hs I st mv ho
  have hin : i = x.cps.size := by
   have := congrArg List.length hd
   rw [List.length_drop, Array.length_toList] at this
   have : x.cps.size - i = 0 := this
   exact eqS ‹_› ‹_›
  subst hin
  obtain ⟨⟨old, en⟩, si⟩ := id st
  refine seg_forLoop (enum_end rm.hh st fun h' x' hit' => ?_)
  have hk' : ∀ b o, b ∉ [e, it] → s.heap.get? b = some o → h'.get? b = some o := fun b o hb => x' b o fun q => hb (q ▸ (.tail _ (.head _)))
  refine seg_again rfl (seg_block_nil (seg_leaf (.ok .next) ?_))
  rw [hk]
  have I1 := again (tk := s.toks) hs.flat I hk'
  have mv1 := mv.trans (mvW (tk := s.toks) hk')
  refine gen_tail TK K rm (by cases esc with | false => rfl | true => rw [outL_t0 (hp rfl)]; rfl) hs I1 mv1 hL (fun b hb => ?_) D.g hfp fun he => ?_
  ·by_cases q : b = it
   ·exact q ▸ hit'
   ·obtain ⟨o, z⟩ := ext I st b hb; exact ⟨o, x' b o q z⟩
  ·subst he
   rw [outL_t0 (hp rfl)] at ho
   have := (out_head (r := []) ho).1
   exact this
 | cons c r ih =>
  intro i esc σ s₀ s hd hi hp hs I st mv ho
  obtain ⟨hc, hr, hlt⟩ := drop_get4 hd
  have hlt : i < x.cps.size := hlt
  obtain ⟨⟨old, en⟩, si⟩ := id st
  refine seg_forLoop (wpAny_pyNext_enum_itemD W en si hlt D.ei hef fun y h1 tk ⟨c', v, hc', hy⟩ en1 si1 tup hsz k1 => ?_)
  have hcc : c' = c := by
   have : x.cps.toList[i]? = some c' := by exact Array.getElem?_toList ▸ hc'
   rw [hc] at this; exact (Option.some.inj this).symm
  subst hcc
  subst hy
  have k1 : ∀ b o, b ∉ [e, it] → s.heap.get? b = some o → h1.get? b = some o := fun b o hb => k1 b o (fun q => hb (q ▸ (.head _))) (fun q => hb (q ▸ (.tail _ (.head _))))
  have I1 := again (tk := tk + 1) hs.flat I k1
  have mv1 := mv.trans (mvW (tk := tk + 1) k1)
  refine wpAny_letOwnedTupleGo_enum en1 fun h2 en2 sb => ?_
  have k2 : ∀ b o, b ≠ e → h1.get? b = some o → h2.get? b = some o := fun b o hb q => sb.extBut b o hb q
  have I2 := again (tk := tk + 1) hs.flat I1 (fun b o hb => k2 b o fun q => hb (q ▸ (.head _)))
  have mv2 := mv1.trans (mvW (tk := tk + 1) fun b o hb => k2 b o fun q => hb (q ▸ (.head _)))
  have ltN : ∀ b ∈ [env.locals, e, it], b < s.heap.objs.size := fun b hb => by obtain ⟨o, q⟩ := ext I st b hb; exact Heap.lt_size q
  have tup2 : h2.get? s.heap.objs.size = some { cls := .type "tuple", data := .seq #[.int i tk, .str ⟨#[c']⟩ v] } := k2 _ _ (fun q => Nat.lt_irrefl _ (q ▸ ltN e (.tail _ (.head _)))) tup
  have st2 : EnAt x t e it (i + 1) h2 := ⟨⟨_, en2⟩, by obtain ⟨o, a, b⟩ := si1; exact ⟨o, k2 _ _ (Ne.symm D.ei) a, b⟩⟩
  generalize hs2 : ({ s with heap := h2, toks := tk + 1 } : Shared) = s2 at I2 mv2
  have st2' : EnAt x t e it (i + 1) s2.heap := by exact hs2.symm ▸ st2
  have hTL : s.heap.objs.size ≠ env.locals := fun q => Nat.lt_irrefl _ (q ▸ ltN env.locals (.head _))
  have rT : Rd ((gC G (A.over (.forLoop gTgt (.ref e) gLoop [] env) [.ret kont none false [] (.func genBody env) pp []]) env g).hh [] s2) (.ref s.heap.objs.size) (.tuple [.int i, .str ⟨#[c']⟩]) :=
   Rd.tuple (vs := [.int i tk, .str ⟨#[c']⟩ v]) (n := 0) (hideAll_get _ (hs2.symm ▸ tup2) fun q => by
    rcases List.mem_cons.mp q with q | q
    ·exact hTL q
    ·cases q) (.cons (.int _ _) (.cons (.str _ _) .nil))
  refine bind_sound (C := gC G (A.over (.forLoop gTgt (.ref e) gLoop [] env) [.ret kont none false [] (.func genBody env) pp []]) env g) ((link_mk (G := gF T) (S := ⟨σ, []⟩) rfl rfl).st KF) rm.hh (σ' := put (put σ "pos" (.d (.int i))) "ch" (.d (.str ⟨#[c']⟩))) rfl I2.withA rT fun s3 I3 S3 => ?_
  have I3 : Inv (gC G A env g) _ [] s3 := I3.withA (A := A)
  have S3m : Mv [env.locals] [] s2 s3 := S3.mv rfl
  have mv3 : Mv [env.locals, e, it] [] s₀ s3 := mv2.trans (S3m.mono (fun b hb => by rw [List.mem_singleton] at hb; rw [hb]; exact hL) fun k hk => hk)
  have stk : ∀ {j : Nat} {a b : Shared}, EnAt x t e it j a.heap → (∀ b' o, b' ≠ env.locals → a.heap.get? b' = some o → b.heap.get? b' = some o) → EnAt x t e it j b.heap := fun z k => z.keep (k _ · (Ne.symm D.le)) (k _ · (Ne.symm D.li))
  have st3 : EnAt x t e it (i + 1) s3.heap := stk st2' fun b o hb => S3m.keep b o (fun q => hb (List.mem_singleton.mp q))
  have hf1 : ∀ y v, put (put σ "pos" (.d (.int i))) "ch" (.d (.str ⟨#[c']⟩)) y = some v → flatX v = true := flat_put (flat_put hs.flat rfl) rfl
  have hs1 : ∀ b, σ "escape" = some (.d (.bool b)) → Sg (put (put σ "pos" (.d (.int i))) "ch" (.d (.str ⟨#[c']⟩))) x ((i + 1 - 1 : Nat) : Int) b := fun b hb => ⟨hs.addr, rfl, hb, hf1⟩
  have hch : put (put σ "pos" (.d (.int i))) "ch" (.d (.str ⟨#[c']⟩)) "ch" = some (.d (.str ⟨#[c']⟩)) := rfl
  generalize put (put σ "pos" (.d (.int i))) "ch" (.d (.str ⟨#[c']⟩)) = σ1 at *
  have lk := (link_mk (G := gF T) (S := ⟨σ1, []⟩) rfl rfl).fx KF
  have hs1 := hs1 esc hs.esc
  refine seg_execs_cons (seg_If ?_)
  refine (se 5).et (C := gC G (A.over (.forLoop gTgt (.ref e) gLoop [] env) [.ret kont none false [] (.func genBody env) pp []]) env g) lk (et_name (b := esc) rfl rfl rfl rfl hs1.esc rfl) s3 _ _ I3.withA fun s4 X4 => ?_
  have I4 := I3.ext X4
  have mv4 : Mv [env.locals, e, it] [] s₀ s4 := mv3.trans (X4.mv.mono (fun b hb => by rw [List.mem_singleton] at hb; rw [hb]; exact hL) fun k hk => hk)
  have st4 : EnAt x t e it (i + 1) s4.heap := stk st3 fun b o hb => X4.keep b o hb
  have setE : ∀ (b : Bool) (st : Stmt) {s₀ s5 : Shared} {m : Nat} {K' : Flow → Sem Fin} {H' : Value → Sem Fin} {σ1 : Sig}, Sg σ1 x ((i + 1 - 1 : Nat) : Int) esc → Mine.es 8 (gF T) st ⟨σ1, []⟩ = some (.next, ⟨put σ1 "escape" (.d (.bool b)), []⟩) → Inv (gC G A env g) σ1 [] s5 → EnAt x t e it (i + 1) s5.heap → Mv [env.locals, e, it] [] s₀ s5 →
    (∀ s6, Sg (put σ1 "escape" (.d (.bool b))) x ((i + 1 - 1 : Nat) : Int) b → Inv (gC G A env g) (put σ1 "escape" (.d (.bool b))) [] s6 → EnAt x t e it (i + 1) s6.heap → Mv [env.locals, e, it] [] s₀ s6 →
     Seg (model G.prog G.w) A (Rp [env.locals, e, it]) (Yp (J :: ([env.locals, e, it] ++ G.base)) [env.locals, e, it] (outD outs)) m s₀ (.forLoop gTgt (.ref e) gLoop [] env) (K' .next) [.ret kont none false [] (.func genBody env) pp []] s6) →
    Seg (model G.prog G.w) A (Rp [env.locals, e, it]) (Yp (J :: ([env.locals, e, it] ++ G.base)) [env.locals, e, it] (outD outs)) m s₀ (.forLoop gTgt (.ref e) gLoop [] env) ((exec st env).wrap K' H' id id) [.ret kont none false [] (.func genBody env) pp []] s5 :=
   fun b st {s₀ s5 m K' H' σ1} h1 he I5 st5 mv5 h => seg_plain (C := gC G A env g) KF rfl he I5 fun s6 I6 S6 => h s6 ⟨h1.addr, h1.pos, rfl, flat_put h1.flat rfl⟩ I6 (stk st5 fun b o hb => (S6.mv rfl).keep b o (fun q => hb (List.mem_singleton.mp q)))
    (mv5.trans ((S6.mv rfl).mono (fun b hb => by rw [List.mem_singleton] at hb; rw [hb]; exact hL) fun k hk => hk))
  cases esc with
  | true =>
   rw [outL_t (hp rfl)] at ho ⊢
   obtain ⟨o1, o2⟩ := out_head ho
   refine seg_execs_cons (gen_yield (i := i) (y := ⟨#[92, c']⟩) TK K L I4 mv4 hL (ext I4 st4) D.g hfp hf1 ?_ o1 rfl rfl fun s5 s6 mv5 k6 e5 kk5 I6 => ?_)
   ·exact eCons (ee_name hs1.pos rfl rfl rfl rfl) (eCons (p := .str ⟨#[92, c']⟩) (nBin (a := .str "\\") (b := .str ⟨#[c']⟩) rfl (eo_name hch rfl rfl rfl rfl) rfl) rfl)
   have st6 : EnAt x t e it (i + 1) s6.heap := (stk (b := s5) st4 fun b o hb q => kk5 b o hb q).keep (k6 _ (.tail _ (.tail _ (.head _)))) (k6 _ (.tail _ (.tail _ (.tail _ (.head _)))))
   refine seg_execs_cons (setE false _ hs1 rfl I6 st6 .refl fun s7 h7 I7 st7 mv7 => ?_)
   refine seg_execs_nil (seg_execs_nil (seg_again rfl ?_))
   exact ih (i + 1) false _ s6 s7 hr hlt (fun q => (nomatch q)) h7 I7 st7 mv7 o2
  | false =>
   refine seg_execs_cons (seg_If ?_)
   by_cases h92 : c' = 92
   ·subst h92
    refine (se 6).et (C := gC G (A.over (.forLoop gTgt (.ref e) gLoop [] env) [.ret kont none false [] (.func genBody env) pp []]) env g) lk (tCmp (a := .str ⟨#[92]⟩) (b := .str "\\") (t := true) (eo_name hch rfl rfl rfl rfl) rfl (cmp_sign (by decide) (by decide))) s4 _ _ I4.withA fun s5 X5 => ?_
    have I5 := I4.ext X5
    have mv5 : Mv [env.locals, e, it] [] s₀ s5 := mv4.trans (X5.mv.mono (fun b hb => by rw [List.mem_singleton] at hb; rw [hb]; exact hL) fun k hk => hk)
    have st5 : EnAt x t e it (i + 1) s5.heap := stk st4 fun b o hb => X5.keep b o hb
    rw [outL_ft] at ho ⊢
    refine seg_execs_cons (setE true _ hs1 rfl I5 st5 mv5 fun s7 h7 I7 st7 mv7 => ?_)
    refine seg_execs_nil (seg_execs_nil (seg_execs_nil (seg_again rfl ?_)))
    exact ih (i + 1) true _ s₀ s7 hr hlt (fun _ => Nat.succ_pos i) h7 I7 st7 mv7 ho
   ·have hne : cmpD .Eq (.str ⟨#[c']⟩) (.str "\\") = some false := by
     rw [← decide_eq_false h92]; exact cmp_sign (hok c' (by rw [← Array.mem_toList_iff]; exact List.mem_of_getElem? hc)) (by decide)
    refine (se 6).et (C := gC G (A.over (.forLoop gTgt (.ref e) gLoop [] env) [.ret kont none false [] (.func genBody env) pp []]) env g) lk (tCmp (a := .str ⟨#[c']⟩) (b := .str "\\") (t := false) (eo_name hch rfl rfl rfl rfl) rfl hne) s4 _ _ I4.withA fun s5 X5 => ?_
    have I5 := I4.ext X5
    have mv5 : Mv [env.locals, e, it] [] s₀ s5 := mv4.trans (X5.mv.mono (fun b hb => by rw [List.mem_singleton] at hb; rw [hb]; exact hL) fun k hk => hk)
    have st5 : EnAt x t e it (i + 1) s5.heap := stk st4 fun b o hb => X5.keep b o hb
    rw [outL_ff h92] at ho ⊢
    obtain ⟨o1, o2⟩ := out_head ho
    refine seg_execs_cons (gen_yield (i := i) (y := ⟨#[c']⟩) TK K L I5 mv5 hL (ext I5 st5) D.g hfp hf1 ?_ o1 rfl rfl fun s6 s7 mv6 k7 e6 kk6 I7 => ?_)
    ·exact eCons (ee_name hs1.pos rfl rfl rfl rfl) (eCons (p := .str ⟨#[c']⟩) (ee_name hch rfl rfl rfl rfl) rfl)
    have st7 : EnAt x t e it (i + 1) s7.heap := (stk (b := s6) st5 fun b o hb q => kk6 b o hb q).keep (k7 _ (.tail _ (.tail _ (.head _)))) (k7 _ (.tail _ (.tail _ (.tail _ (.head _)))))
    refine seg_execs_nil (seg_execs_nil (seg_execs_nil (seg_again rfl ?_)))
    exact ih (i + 1) false _ s7 s7 hr hlt (fun q => (nomatch q)) hs1 I7 st7 .refl o2
end
section
open PySem.Calls
section
variable {prog : Program} {w : World} {A : Around} {R : Result → Shared → Prop} {s : Shared} {J : Addr} {fp wr H : List Addr} {gw : List Nat} {h0 : Heap} {ps : List PyData} {St : Nat → Shared → Prop}
theorem rdl_upd {h h' : Heap} {l : List Addr} {vs : List Value} {ds : List PyData} (r : RdL (hideAll h l) vs ds) (k : ∀ b o, b ∉ l → h.get? b = some o → h'.get? b = some o) : RdL (hideAll h' l) vs ds := r.keeps (keeps_hide k)
theorem extend_step {S : Addr} {acc : Array Value} {c : Nat} {v : Value} {res : Value} (hS : s.heap.get? S = some { cls := .type "list", dict := none, data := .seq acc c, slots := #[] }) (hz : acc.size ≤ 1048576)
  (h : codeAny (model prog w) A (.builtin "list.extend.loop" ⟨[.ref S, .ref J, res], []⟩) R { s with heap := s.heap.update S (Obj.mapSeq (·.push v)) }) :
  wpAny (model prog w) A.in1 (updateSeq S (·.push v) >>= fun _ => (again (.builtin "list.extend.loop" ⟨[.ref S, .ref J, res], []⟩) : Sem Fin))
   (fun fin s' => match fin with | .done f => R (.ok f) s' | .again c' => c'.quiet = true ∧ codeAny (model prog w) A c' R s') (fun e s' => R (.error e) s') s := by
 refine wpAny_bind ?_
 refine wpAny_updateSeq hS rfl (wpAny_pure ⟨plainId_quiet F.plain_extend_loop _, h⟩)
   (by have : sizeLine = 16777216 := sizeLine_is; exact wk ‹_› rfl) (by show (acc.push v).size ≤ sizeLine + 1; rw [Array.size_push]; have : sizeLine = 16777216 := sizeLine_is; exact Nat.lt_of_le_of_lt ‹_› (by decide))
theorem extend_loop (W : It (model prog w) A.in1 J fp wr gw h0 ps St) (h00 : ∀ b, h0.get? b = none) (hn : ps.length ≤ 1048576) (S : Addr) (hSf : S ∉ fp) (res : Value) :
  ∀ (k i : Nat) (s : Shared) (acc : Array Value) (c : Nat), ps.length - i = k → i ≤ ps.length → St i s → s.heap.get? S = some { cls := .type "list", dict := none, data := .seq acc c, slots := #[] } → acc.size = i →
   RdL (hideAll s.heap (S :: (wr ++ H))) acc.toList (ps.take i) → (∀ a ∈ S :: (wr ++ H), ∃ o, s.heap.get? a = some o) →
  (∀ s' acc' c', Mv (S :: wr) gw s s' → s'.heap.get? S = some { cls := .type "list", dict := none, data := .seq acc' c', slots := #[] } → RdL (hideAll s'.heap (S :: (wr ++ H))) acc'.toList ps → R (.ok (.ret res)) s') →
  codeAny (model prog w) A (.builtin "list.extend.loop" ⟨[.ref S, .ref J, res], []⟩) R s := by
 have hSw : S ∉ wr := fun h => hSf (W.sub _ h)
 have mono : ∀ {a b : Shared}, Mv wr gw a b → Mv (S :: wr) gw a b := fun x => x.mono (fun b hb => .tail _ hb) fun k hk => hk
 intro k
 induction k with
 | zero =>
  intro i s acc c hk hi hst hS hz hacc hex hR
  have hin : i = ps.length := by exact eqS ‹_› ‹_›
  subst hin
  refine codeAny_builtin F.entry_extend_loop ?_
  rw [Around.under_plainId F.plain_extend_loop _]
  show wpAny _ A.in1 (pyNext (.ref J) >>= _) _ _ s
  refine wpAny_bind (W.done s _ _ hst fun s' hm => ?_)
  rw [List.take_length] at hacc
  exact wpAny_pure (hR s' acc c (mono hm) (hm.keep S _ hSw hS) (rdl_upd hacc fun b o hb e => hm.keep b o (fun q => hb (.tail _ (List.mem_append_left _ q))) e))
 | succ k ih =>
  intro i s acc c hk hi hst hS hz hacc hex hR
  have hlt : i < ps.length := by exact ltS ‹_›
  obtain ⟨p, hp⟩ : ∃ p, ps[i]? = some p := ⟨_, List.getElem?_eq_getElem hlt⟩
  refine codeAny_builtin F.entry_extend_loop ?_
  rw [Around.under_plainId F.plain_extend_loop _]
  show wpAny _ A.in1 (pyNext (.ref J) >>= _) _ _ s
  refine wpAny_bind (W.item i p s _ _ hp hst fun v s' hst' hm hrd hgo => ?_)
  have hS' := hm.keep S _ hSw hS
  have hv := hrd (S :: (wr ++ H)) (fun b o e => by exact none_ ((h00 b).symm.trans e)) hex
  have hacc' : RdL (hideAll s'.heap (S :: (wr ++ H))) (acc.push v).toList (ps.take (i + 1)) := by
   rw [Array.toList_push, List.take_add_one, hp]
   exact (rdl_upd hacc fun b o hb e => hm.keep b o (fun q => hb (.tail _ (List.mem_append_left _ q))) e).append (.cons hv .nil)
  have exs : ∀ a ∈ S :: (wr ++ H), ∃ o, s'.heap.get? a = some o := fun a ha => by
   by_cases q : a ∈ wr
   ·exact W.there _ _ hst' a (W.sub a q)
   ·obtain ⟨o, e⟩ := hex a ha; exact ⟨o, hm.keep a o q e⟩
  have kS : ∀ b o, b ≠ S → s'.heap.get? b = some o → (s'.heap.update S (Obj.mapSeq (·.push v))).get? b = some o := fun b o hb e => (Heap.get?_update_other _ _ (Ne.symm hb)).trans e
  refine extend_step hS' (by lia) ?_
  refine ih (i + 1) _ (acc.push v) _ (by exact sbQ ‹_›) hlt (W.frame _ s' _ hst' (fun b hb o e => kS b o (fun q => hSf (q ▸ hb)) e) (fun _ _ e => e) id) (Heap.get?_update_self _ hS' rfl) (by rw [Array.size_push]; lia)
   (rdl_upd hacc' fun b o hb e => kS b o (fun q => hb (q ▸ (.head _))) e) (fun a ha => ?_) fun s'' acc'' c'' m2 hS'' r'' => ?_
  ·by_cases q : a = S
   ·rw [q]; exact ⟨_, Heap.get?_update_self _ hS' rfl⟩
   ·obtain ⟨o, e⟩ := exs a ha; exact ⟨o, kS a o q e⟩
  ·refine hR s'' acc'' c'' (Mv.trans (Mv.trans (mono hm) ?_) m2) hS'' r''
   exact ⟨fun b o hb e => kS b o (fun q => hb (q ▸ (.head _))) e, rfl, fun _ _ _ e => e, id⟩
theorem list_gen {E : Value → Shared → Prop} {Q : Value → Shared → Prop} {L : Addr} {gi : Nat} {base : List Addr} {G0 : Shared → Prop} (W : It0 (model prog w) A.in1.in1 J L gi base ps G0) (hn : ps.length ≤ 1048576) (st : G0 s) (hH : ∀ a ∈ H, ∃ o, s.heap.get? a = some o)
  (hQ : ∀ S s', s.heap.get? S = none → Mv [L] [gi] s s' → Rd (hideAll s'.heap H) (.ref S) (.list ps) → Q (.ref S) s') : wpAny (model prog w) A (call (.type "list") [.ref J]) Q E s := by
 have hJL : ∀ b ∈ J :: L :: base, b ≠ s.heap.objs.size := fun b hb q => by
  obtain ⟨o, e⟩ := W.there s st b hb
  exact Nat.lt_irrefl _ (q ▸ Heap.lt_size e)
 have hSJ : s.heap.objs.size ≠ J := Ne.symm (hJL J (.head _))
 have hSL : s.heap.objs.size ≠ L := Ne.symm (hJL L (.tail _ (.head _)))
 have hHS : ∀ a ∈ H, a ≠ s.heap.objs.size := fun a ha q => by obtain ⟨o, e⟩ := hH a ha; exact Nat.lt_irrefl _ (q ▸ Heap.lt_size e)
 refine callType_codes (Q₁ := fun obj s₁ => obj = .ref s.heap.objs.size ∧ s₁ = { s with heap := s.heap.push { cls := .type "list", data := .seq #[] } }) F.called_list (F.typeCall_list_1 _) F.entry_list_init
  (code_list_new _ ⟨rfl, rfl⟩) fun obj s₁ h₁ => ?_
 obtain ⟨rfl, rfl⟩ := h₁
 generalize hS0 : s.heap.objs.size = S at *
 have hS : (s.heap.push { cls := .type "list", data := .seq #[] }).get? S = some { cls := .type "list", data := .seq #[] } := by exact hS0.symm ▸ (Heap.get?_push_size _ rfl)
 have hnew : s.heap.get? S = none := by exact hS0.symm ▸ (get?_ge (Nat.le_refl _))
 have k0 : ∀ b o, b ≠ S → s.heap.get? b = some o → (s.heap.push { cls := .type "list", data := .seq #[] }).get? b = some o := fun b o _ e => Heap.get?_push_of_some _ e
 refine ⟨⟨_, hS, rfl⟩, F.args_list_init_2 _ _, ?_⟩
 show wpAny _ _ (do let old ← Builtin.List.listItems (.ref S); Builtin.List.listUpdate (.ref S) (fun _ => #[]); letGo old.toList.reverse; Builtin.List.listExtendWith (.ref S) (.ref J) .none) _ _ _
 refine wpAny_bind ?_
 delta Builtin.List.listItems
 refine wpAny_bind (wpAny_seqItems hS rfl (wpAny_pure ?_))
 show wpAny _ _ (updateSeq S (fun _ => #[]) >>= fun _ => letGo (#[] : Array Value).toList.reverse >>= fun _ => Builtin.List.listExtendWith (.ref S) (.ref J) .none) _ _ _
 refine wpAny_bind (wpAny_updateSeq hS rfl ?_)
 have hS₂ := Heap.get?_update_self (Obj.mapSeq (fun _ => (#[] : Array Value))) hS rfl
 have k1 : ∀ b o, b ≠ S → s.heap.get? b = some o → ((s.heap.push { cls := .type "list", data := .seq #[] }).update S (Obj.mapSeq (fun _ => (#[] : Array Value)))).get? b = some o :=
  fun b o hb e => (Heap.get?_update_other _ _ (Ne.symm hb)).trans (k0 b o hb e)
 refine wpAny_bind (wpAny_letGo ?_)
 generalize hh1 : (s.heap.push { cls := .type "list", data := .seq #[] }).update S (Obj.mapSeq (fun _ => (#[] : Array Value))) = h1 at hS₂ k1
 have st1 : G0 { s with heap := h1 } := W.frame s _ st (fun b hb o e => k1 b o (hJL b hb) e) (fun _ _ e => e) id
 delta Builtin.List.listExtendWith
 refine wpAny_bind (wpAny_typeOf (W.typ _ st1) ?_)
 have e1 : Builtin.List.listSameRef (.ref S) (.ref J) = false := by simp [Builtin.List.listSameRef, hSJ]
 have e2 : (Value.type "generator" == Value.type "list") = false := by decide
 have e3 : (Value.type "generator" == Value.type "tuple") = false := by decide
 simp only [e1, e2, e3, Bool.or_false, Bool.false_eq_true, if_false]
 refine wpAny_bind (W.self _ _ _ st1 ?_)
 refine wpAny_bind (wpAny_holding ?_)
 delta Builtin.List.listLengthHint
 refine wpAny_bind (wpAny_specialOf (W.typ _ st1) F.gen_no_len ?_)
 show wpAny _ _ (specialOf (Value.ref J) (Str.ofString "__length_hint__") >>= _) _ _ _
 refine wpAny_bind (wpAny_specialOf (W.typ _ st1) F.gen_no_hint ?_)
 refine wpAny_pure ?_
 show wpAny _ _ (rule "list.extend.makes-room" >>= fun _ => Builtin.List.listTouch (.ref S) >>= fun _ =>
  again (.builtin "list.extend.loop" ⟨[.ref S, .ref J, .none], []⟩)) _ _ _
 refine wpAny_bind (wpAny_rule ?_)
 refine wpAny_bind ?_
 show wpAny _ _ (updateSeq S (·.push .none) >>= fun _ => updateSeq S (·.pop)) _ _ _
 refine wpAny_bind (wpAny_updateSeq hS₂ rfl ?_)
 have hS₃ := Heap.get?_update_self (Obj.mapSeq (·.push Value.none)) hS₂ rfl
 refine wpAny_updateSeq (hz := by seq_fits) hS₃ rfl ?_
 have hS₄ := Heap.get?_update_self (Obj.mapSeq (·.pop)) hS₃ rfl
 have k2 : ∀ b o, b ≠ S → s.heap.get? b = some o → ((h1.update S (Obj.mapSeq (·.push Value.none))).update S (Obj.mapSeq (·.pop))).get? b = some o :=
  fun b o hb e => (Heap.get?_update_other _ _ (Ne.symm hb)).trans ((Heap.get?_update_other _ _ (Ne.symm hb)).trans (k1 b o hb e))
 generalize (h1.update S (Obj.mapSeq (·.push Value.none))).update S (Obj.mapSeq (·.pop)) = h2 at hS₄ k2
 have st2 : G0 { s with heap := h2 } := W.frame s _ st (fun b hb o e => k2 b o (hJL b hb) e) (fun _ _ e => e) id
 refine wpAny_pure ⟨plainId_quiet F.plain_extend_loop _, ?_⟩
 refine codeAny_builtin F.entry_extend_loop ?_
 rw [Around.under_plainId F.plain_extend_loop _]
 show wpAny _ _ (pyNext (.ref J) >>= _) _ _ _
 have m02 : Mv [L] [gi] s { s with heap := h2 } → True := fun _ => trivial
 have fin : ∀ (s' : Shared) (acc' : Array Value) (c' : Nat) (wr : List Addr), (∀ b ∈ wr, b = L ∨ s.heap.get? b = none) → Mv (S :: wr) [gi] { s with heap := h2 } s' → s'.heap.get? S = some { cls := .type "list", dict := none, data := .seq acc' c', slots := #[] } → RdL (hideAll s'.heap (S :: (wr ++ H))) acc'.toList ps → Q (.ref S) s' := fun s' acc' c' wr hwr m hS' r => by
  refine hQ S s' hnew ⟨fun b o hb e => m.keep b o (fun q => ?_) (k2 b o (fun q => by exact none_ (hnew.symm.trans (q ▸ e))) e), m.os, m.gens, m.bare⟩ ?_
  ·rcases List.mem_cons.mp q with q | q
   ·exact none_ (hnew.symm.trans (q ▸ e))
   ·rcases hwr b q with q | q
    ·exact hb (List.mem_singleton.mpr q)
    ·exact none_ (q.symm.trans e)
  ·refine Rd.list (vs := acc'.toList) (n := c') (hideAll_get _ (Array.toArray_toList ▸ hS') fun q => hHS S q rfl) (r.keeps (keeps_hide_sub fun b o m e => ⟨fun q => m (.tail _ (List.mem_append_right _ q)), e⟩))
 refine wpAny_bind (W.first (trunc s.heap 0) _ _ _ st2 (fun hp s3 m3 => ?_) fun p v s3 wr St hp W3 st3 m3 hwr hLw hrd hgo => ?_)
 ·subst hp
  have hS3 := m3.keep S _ (fun q => hSL (List.mem_singleton.mp q)) hS₄
  exact wpAny_pure ⟨rfl, fin s3 _ _ [L] (fun b hb => .inl (List.mem_singleton.mp hb)) (m3.mono (fun b hb => .tail _ hb) fun k hk => hk) hS3 .nil⟩
 ·have hSw : S ∉ wr := fun q => by
   rcases hwr S q with q | q
   ·exact hSL q
   ·have q : h2.get? S = none := q
    exact none_ (q.symm.trans hS₄)
  have hS3 := m3.keep S _ (fun q => hSL (List.mem_singleton.mp q)) hS₄
  have mono : ∀ {a b : Shared}, Mv [L] [gi] a b → Mv (S :: wr) [gi] a b := fun x => x.mono (fun b hb => by rw [List.mem_singleton] at hb; rw [hb]; exact .tail _ hLw) fun k hk => hk
  have ex2 : ∀ a ∈ S :: (wr ++ H), (∃ o, h2.get? a = some o) ∨ a ∈ wr := fun a ha => by
   rcases List.mem_cons.mp ha with q | q
   ·exact q ▸ (.inl ⟨_, hS₄⟩)
   ·rcases List.mem_append.mp q with q | q
    ·exact .inr q
    ·obtain ⟨o, e⟩ := hH a q; exact .inl ⟨o, k2 a o (hHS a q) e⟩
  have hv := hrd (S :: (wr ++ H)) ex2
  have ex3 : ∀ a ∈ S :: (wr ++ H), ∃ o, s3.heap.get? a = some o := fun a ha => by
   by_cases q : a ∈ wr
   ·exact W3.there _ _ st3 a (W3.sub a q)
   ·rcases ex2 a ha with ⟨o, e⟩ | z
    ·exact ⟨o, m3.keep a o (fun z => q ((List.mem_singleton.mp z) ▸ hLw)) e⟩
    ·exact absurd z q
  have kS : ∀ b o, b ≠ S → s3.heap.get? b = some o → (s3.heap.update S (Obj.mapSeq (·.push v))).get? b = some o := fun b o hb e => (Heap.get?_update_other _ _ (Ne.symm hb)).trans e
  have hlen : 1 ≤ ps.length := by have := (List.getElem?_eq_some_iff.mp hp).1; assumption
  have hfp : S ∉ J :: (wr ++ base) := fun q => by
   rcases List.mem_cons.mp q with q | q
   ·exact hSJ q
   ·rcases List.mem_append.mp q with q | q
    ·exact hSw q
    ·exact hJL S (.tail _ (.tail _ q)) rfl
  refine extend_step hS3 (by show 0 ≤ _; exact Nat.zero_le _) ?_
  refine extend_loop (H := H) W3 (fun b => by
    cases e : (trunc s.heap 0).get? b with
    | none => rfl
    | some o => exact absurd (trunc_get.mp e).1 (Nat.not_lt_zero _)) hn S hfp .none (ps.length - 1) 1 _ #[v] _ rfl hlen (W3.frame _ s3 _ st3 (fun b hb o e => kS b o (fun q => hfp (q ▸ hb)) e) (fun _ _ e => e) id) (Heap.get?_update_self _ hS3 rfl) rfl ?_ (fun a ha => ?_) fun s' acc' c' m hS' r => ?_
  ·have : ps.take 1 = [p] := by cases ps with
    | nil => exact none_ hp
    | cons a b => obtain rfl := sm_ hp; rfl
   rw [this]
   exact .cons (hv.keeps (keeps_hide fun b o hb e => kS b o (fun q => hb (q ▸ (.head _))) e)) .nil
  ·by_cases q : a = S
   ·rw [q]; exact ⟨_, Heap.get?_update_self _ hS3 rfl⟩
   ·obtain ⟨o, e⟩ := ex3 a ha; exact ⟨o, kS a o q e⟩
  ·have mS : Mv (S :: wr) [gi] s3 { s3 with heap := s3.heap.update S (Obj.mapSeq (·.push v)) } := ⟨fun b o hb e => kS b o (fun q => hb (q ▸ (.head _))) e, rfl, fun _ _ _ e => e, id⟩
   refine ⟨rfl, fin s' acc' c' wr (fun b hb => ?_) (((mono m3).trans mS).trans m) hS' r⟩
   rcases hwr b hb with q | q
   ·exact .inl q
   ·refine .inr ?_
    cases e : s.heap.get? b with
    | none => rfl
    | some o =>
     have q : h2.get? b = none := q
     exact none_ (q.symm.trans (k2 b o (fun z => by rw [z, hnew] at e; cases e) e))
end
end
section
open PySem.Calls
theorem flat_none : ∀ y v, (fun _ => none : Sig) y = some v → flatX v = true := fun y v q => by exact none_ q
theorem gen_seg {G : Gl} {T : Tab} {A : Around} {env : Env} {g : Heap} {x : Str} {N : Nat} {J : Addr} {s : Shared}
  (TK : TabOk G T 0) (K : GenEnv env) (rm : Rm A) (hok : ∀ c ∈ x.cps, c < 0x110000) (I : Inv (gC G A env g) (put (fun _ => none) "addr" (.d (.str x))) [] s) (hN : s.heap.objs.size = N) (D : GAd G env (N + 1) N J g) :
  Seg (model G.prog G.w) A (Rp [env.locals, N + 1, N]) (Yp (J :: ([env.locals, N + 1, N] ++ G.base)) [env.locals, N + 1, N] (outD (outL false 0 x.cps.toList))) (outL false 0 x.cps.toList).length s (.func genBody env) ((model G.prog G.w).den (.func genBody env)) [] s := by
 have L : Lv (A.over (.func genBody env) []) 0 := ⟨rm.hh, by have := rm.depth; show A.depth + 1 + 20 * 0 < 900; lia, by have := rm.units; show A.units + 3 + 200 * 0 + 200 < 9000; lia⟩
 have KF : FnOk (gF T) (gC G (A.over (.func genBody env) []) env g) 0 := gF_ok TK K L
 have hL : env.locals ∈ [env.locals, N + 1, N] := .head _
 refine seg_func (seg_execs_cons (seg_wrap (const_size (C := gC G (A.over (.func genBody env) []) env g) KF rfl rfl rfl rfl I.withA fun s1 I1 S1 z1 => ?_)))
 refine seg_execs_cons (seg_wrap (const_size (C := gC G (A.over (.func genBody env) []) env g) KF rfl rfl rfl rfl I1 fun s2 I2 S2 z2 => ?_))
 refine seg_execs_cons (seg_For (fun _ => rfl) ?_)
 have m2 : Mv [env.locals] [] s s2 := (S1.mv rfl).trans (S2.mv rfl)
 refine wpAny_Call_ofName (glob_load (C := gC G (A.over (.func genBody env) []) env g) KF.cx rfl ((KF.kd _).symm.trans rfl) I2 (.inr (TK.bi "enumerate" _ rfl)) ?_)
 refine args_type (C := gC G (A.over (.func genBody env) []) env g) (stars_one rfl) ?_
 rw [star_cons rfl, back_cons]
 obtain ⟨u, h1, h2⟩ := I2.vars "addr" (.d (.str x)) rfl
 obtain ⟨t, rfl⟩ := Rd.str_ h2
 refine spliced_cons (var_load (C := gC G (A.over (.func genBody env) []) env g) KF.cx rfl h1 (spliced_nil ?_))
 refine call_enumerate_str fun h' he hi hz hk => ?_
 have e0 : s2.heap.objs.size = N := by lia
 rw [e0] at he hi ⊢
 refine wpAny_pyIter_enum he fun p => ?_
 have I3 : Inv (gC G A env g) _ [] { s2 with heap := h' } := (I2.withA (A := A)).ext (.heap' hk)
 have m3 : Mv [env.locals, N + 1, N] [] s { s2 with heap := h' } := (m2.mono (fun b hb => by rw [List.mem_singleton] at hb; rw [hb]; exact hL) fun k hk => hk).trans ⟨fun b o _ e => hk b o e, rfl, fun _ _ _ e => e, id⟩
 refine gen_turns (J := J) (e := N + 1) (it := N) (t := t) TK K rm D hok rfl _ 0 false _ s _ rfl (Nat.zero_le _) (fun q => (nomatch q)) ⟨rfl, rfl, rfl, flat_put (flat_put (flat_put flat_none rfl) rfl) rfl⟩ I3 ⟨⟨_, he⟩, hi⟩ m3 ?_
 show List.drop ((outL false 0 x.cps.toList).length - (outL false 0 x.cps.toList).length) _ = _
 rw [Nat.sub_self]; rfl
structure Rw (A : Around) : Prop where
 hh : A.handled = none
 depth : A.depth + 20 < 900
 units : A.units + 100 + 200 < 9000
theorem Rw.in1 {A : Around} (h : Rw A) : Rm A.in1 := ⟨h.hh, by have := h.depth; show A.depth + 10 < 900; lia, by have := h.units; show A.units + 1 + 60 + 200 < 9000; lia⟩
structure G0At (G : Gl) (T : Tab) (env : Env) (g : Heap) (x : Str) (J : Addr) (gi : Nat) (s : Shared) : Prop where
 gen : s.heap.IsGen J gi
 gs : s.gens[gi]? = some (.fresh (.func genBody env))
 inv : ∀ A, Inv (gC G A env g) (put (fun _ => none) "addr" (.d (.str x))) [] s
theorem mv_set {wr : List Addr} {gi : Nat} {s s1 : Shared} {z : GenState} (hz : z.bare = true) (m : Mv wr [] (s.setGen gi .running) s1) : Mv wr [gi] s (s1.setGen gi z) := by
 refine ⟨fun b o hb e => m.keep b o hb e, m.os, fun k y hk e => ?_, fun h => AllBare.setGen (m.bare (AllBare.setGen h rfl)) hz⟩
 have hne : gi ≠ k := fun q => hk (q ▸ (.head _))
 have e1 : (s.setGen gi .running).gens[k]? = some y := by
  show (s.gens.setIfInBounds gi .running)[k]? = _
  exact (Array.getElem?_setIfInBounds_ne hne).trans e
 have e2 := m.gens k y (fun q => (nomatch q)) e1
 show (s1.gens.setIfInBounds gi z)[k]? = _
 exact (Array.getElem?_setIfInBounds_ne hne).trans e2
theorem set_get {wr : List Addr} {gi : Nat} {s s1 : Shared} {z y : GenState} (hg : s.gens[gi]? = some y) (m : Mv wr [] (s.setGen gi .running) s1) : (s1.setGen gi z).gens[gi]? = some z := by
 have hlt : gi < s.gens.size := (Array.getElem?_eq_some_iff.mp hg).1
 have e1 : (s.setGen gi .running).gens[gi]? = some .running := by
  show (s.gens.setIfInBounds gi .running)[gi]? = _
  rw [Array.getElem?_setIfInBounds_self_of_lt hlt]
 have e2 := m.gens gi _ (fun q => (nomatch q)) e1
 have h2 : gi < s1.gens.size := (Array.getElem?_eq_some_iff.mp e2).1
 show (s1.gens.setIfInBounds gi z)[gi]? = _
 rw [Array.getElem?_setIfInBounds_self_of_lt h2]
structure GSt (G : Gl) (A : Around) (J : Addr) (gi : Nat) (fp wr : List Addr) (outs : List PyData) (i : Nat) (s : Shared) : Prop where
 gen : s.heap.IsGen J gi
 gd : Gd G s.heap
 bare : AllBare s.gens
 there : ∀ b ∈ wr, ∃ o, s.heap.get? b = some o
 go : ∃ gs, s.gens[gi]? = some gs ∧ ∀ s'' : Shared, (∀ b ∈ fp, ∀ o, s.heap.get? b = some o → s''.heap.get? b = some o) → AllBare s''.gens → gs.Goes (model G.prog G.w) A.in1 (Rp wr) (Yp fp wr outs) (outs.length - i) (.send .none) s''
theorem yv_rd {wr : List Addr} {s0 s : Shared} {v : Value} {p : PyData} (y : YV wr s0 s v p) (l : List Addr) (hl : ∀ a ∈ l, (∃ o, s0.heap.get? a = some o) ∨ a ∈ wr) : Rd (hideAll s.heap l) v p := by
 obtain ⟨a, us, n, ps, rfl, h1, h2, h3, rfl, h4⟩ := y
 refine Rd.tuple (vs := us) (n := n) (hideAll_get _ h3 fun q => ?_) (h4 _)
 rcases hl a q with ⟨o, e⟩ | z
 ·rw [h1] at e; cases e
 ·exact h2 z
theorem gen_next {G : Gl} {A : Around} {J : Addr} {gi : Nat} {wr : List Addr} {outs : List PyData} {n : Nat} {s : Shared} {gs : GenState} {Q : Option Value → Shared → Prop} {E : Value → Shared → Prop} (rw_ : Rw A) (hJ : J ∉ wr) (hb : ∀ b ∈ G.base, b ∉ wr)
  (hg : s.heap.IsGen J gi) (gd : Gd G s.heap) (bare : AllBare s.gens) (hgs : s.gens[gi]? = some gs)
  (hgo : gs.Goes (model G.prog G.w) A.in1 (Rp wr) (Yp (J :: (wr ++ G.base)) wr outs) n (.send .none) (s.setGen gi .running))
  (hy : ∀ v s1 p, 0 < n → outs[outs.length - n]? = some p → YV wr s s1 v p → Mv wr [gi] s s1 → (∀ i, n = outs.length - i → GSt G A J gi (J :: (wr ++ G.base)) wr outs (i + 1) s1) → s1.heap.IsGen J gi → Q (some v) s1)
  (hd : ∀ s1, n = 0 → Mv wr [gi] s s1 → Q none s1) : wpAny (model G.prog G.w) A (pyNext (.ref J)) Q E s := by
 refine next_gen (P := fun n s₀ s₁ => n = 0 ∧ Mv wr [] s₀ s₁) (Y := Yp (J :: (wr ++ G.base)) wr outs) rw_.hh gd.lim (by have := rw_.depth; show A.depth < 1000; lia) hg hgs hgo (fun v s1 gs' hb' hY => ?_) (fun s1 hP h' hk => ?_)
 ·obtain ⟨⟨p, hp, hv⟩, hw, m, hc⟩ := hY
  have m2 := mv_set (z := gs') hb' m
  cases n with
  | zero => exact (hc s1 (fun _ _ _ e => e) (m.bare (AllBare.setGen bare rfl))).elim
  | succ n =>
   have e0 : outs.length - 1 - (n + 1 - 1) = outs.length - (n + 1) := by lia
   rw [e0] at hp
   have hg1 : (s1.setGen gi gs').heap.IsGen J gi := by
    obtain ⟨o, nm, qn, a, b⟩ := hg; exact ⟨o, nm, qn, m.keep J o hJ a, b⟩
   refine hy v _ p (Nat.succ_pos _) hp hv m2 (fun i hi => ⟨hg1, gd.of_base fun b hb1 o e => m.keep b o (hb b hb1) e, m2.bare bare, hw, gs', set_get hgs m, fun s'' k b => ?_⟩) hg1
   have := hc s'' k b
   have e1 : outs.length - (i + 1) = n := by exact sbP ‹_›
   exact e1 ▸ this
 ·obtain ⟨h0, m⟩ := hP
  have m2 := mv_set (z := .finished) rfl m
  exact hd _ h0 ⟨fun b o hb e => hk b o (m2.keep b o hb e), m2.os, m2.gens, m2.bare⟩
theorem gen_it {G : Gl} {A : Around} {J : Addr} {gi : Nat} {wr : List Addr} {outs : List PyData} {h0 : Heap} (rw_ : Rw A) (hJ : J ∉ wr) (hb : ∀ b ∈ G.base, b ∉ wr) :
  It (model G.prog G.w) A J (J :: (wr ++ G.base)) wr [gi] h0 outs (GSt G A J gi (J :: (wr ++ G.base)) wr outs) where
 sub := fun b hb => .tail _ (List.mem_append_left _ hb)
 there := fun i s st b hb => by
  rcases List.mem_cons.mp hb with q | q
  ·rw [q]; obtain ⟨o, nm, qn, a, _⟩ := st.gen; exact ⟨o, a⟩
  ·rcases List.mem_append.mp q with q | q
   ·exact st.there b q
   ·exact st.gd.base_ex b q
 frame := fun i s s' st k kg kb => by
  obtain ⟨gs, h1, h2⟩ := st.go
  refine ⟨?_, st.gd.of_base fun b hb o e => k b (.tail _ (List.mem_append_right _ hb)) o e, kb st.bare, fun b hb => ?_, gs, kg _ _ h1, fun s'' k2 b2 => ?_⟩
  ·obtain ⟨o, nm, qn, a, b⟩ := st.gen; exact ⟨o, nm, qn, k J (.head _) o a, b⟩
  ·obtain ⟨o, e⟩ := st.there b hb; exact ⟨o, k b (.tail _ (List.mem_append_left _ hb)) o e⟩
  ·exact h2 s'' (fun b hb o e => k2 b hb o (k b hb o e)) b2
 item := fun i p s Q E hp st h => by
  obtain ⟨gs, h1, h2⟩ := st.go
  have hi : i < outs.length := (List.getElem?_eq_some_iff.mp hp).1
  refine gen_next rw_ hJ hb st.gen st.gd st.bare h1 (h2 (s.setGen gi .running) (fun _ _ _ e => e) (AllBare.setGen st.bare rfl)) (fun v s1 p' hn hp' hv m hs hg1 => ?_) (fun s1 hn m => by lia)
  have : outs.length - (outs.length - i) = i := by exact sbb ‹_›
  rw [this, hp] at hp'
  obtain rfl := sm_ hp'
  refine h v s1 (hs i rfl) m (fun l kl hl => yv_rd hv l fun a ha => .inl (hl a ha)) fun t Q' E' q => ?_
  obtain ⟨o, nm, qn, a, c, _⟩ := hg1
  exact go_ref a c (by decide +kernel) q
 done := fun s Q E st h => by
  obtain ⟨gs, h1, h2⟩ := st.go
  refine gen_next rw_ hJ hb st.gen st.gd st.bare h1 (h2 (s.setGen gi .running) (fun _ _ _ e => e) (AllBare.setGen st.bare rfl)) (fun v s1 p' hn hp' hv m hs hg1 => by lia) (fun s1 hn m => h s1 m)
 self := fun i s Q E st h => wpAny_pyIter_gen st.gen h
end
section
open PySem.Calls
theorem gen_it0 {G : Gl} {T : Tab} {A : Around} {env : Env} {g : Heap} {x : Str} {J : Addr} {gi : Nat} (TK : TabOk G T 0) (K : GenEnv env) (rw_ : Rw A) (hok : ∀ c ∈ x.cps, c < 0x110000)
  (hJL : J ≠ env.locals) (hg : ∀ b o, g.get? b = some o → b ∈ G.base) (hJb : ∀ b ∈ G.base, b ≠ env.locals) :
  It0 (model G.prog G.w) A J env.locals gi G.base (outD (outL false 0 x.cps.toList)) (G0At G T env g x J gi) where
 typ := fun s st => st.gen.typeIs
 there := fun s st b hb => by
  rcases List.mem_cons.mp hb with q | q
  ·rw [q]; obtain ⟨o, nm, qn, a, _⟩ := st.gen; exact ⟨o, a⟩
  ·rcases List.mem_cons.mp q with q | q
   ·rw [q]; obtain ⟨m, o, _, _, e, _⟩ := (st.inv A).ns; exact ⟨o, e⟩
   ·exact (st.inv A).gdH.base_ex b q
 frame := fun s s' st k kg kb => by
  refine ⟨?_, kg _ _ st.gs, fun A' => (st.inv A').again (flat_put flat_none rfl) rfl rfl K.cells hg (fun b hb o e => k b (.tail _ hb) o e) (kb (st.inv A').bare)⟩
  obtain ⟨o, nm, qn, a, b⟩ := st.gen; exact ⟨o, nm, qn, k J (.head _) o a, b⟩
 self := fun s Q E st h => wpAny_pyIter_gen st.gen h
 first := fun h0 s Q E st hd hi => by
  have lt : ∀ b ∈ J :: env.locals :: G.base, b < s.heap.objs.size := fun b hb => by
   rcases List.mem_cons.mp hb with q | q
   ·rw [q]; obtain ⟨o, nm, qn, a, _⟩ := st.gen; exact Heap.lt_size a
   ·rcases List.mem_cons.mp q with q | q
    ·rw [q]; obtain ⟨m, o, _, _, e, _⟩ := (st.inv A).ns; exact Heap.lt_size e
    ·obtain ⟨o, e⟩ := (st.inv A).gdH.base_ex b q; exact Heap.lt_size e
  have ne0 : ∀ b ∈ J :: env.locals :: G.base, b ≠ s.heap.objs.size + 1 ∧ b ≠ s.heap.objs.size := fun b hb => by
   have h := lt b hb
   exact ⟨fun q => by rw [q] at h; exact absurd h (Nat.not_lt.mpr (Nat.le_succ _)), fun q => by rw [q] at h; exact Nat.lt_irrefl _ h⟩
  have D : GAd G env (s.heap.objs.size + 1) s.heap.objs.size J g := ⟨Nat.succ_ne_self _, (ne0 _ (.tail _ (.head _))).1, (ne0 _ (.tail _ (.head _))).2, fun b hb => ne0 b (.tail _ (.tail _ hb)), hg⟩
  have hJw : J ∉ [env.locals, s.heap.objs.size + 1, s.heap.objs.size] := fun q => by
   rcases List.mem_cons.mp q with q | q
   ·exact hJL q
   ·rcases List.mem_cons.mp q with q | q
    ·exact (ne0 J (.head _)).1 q
    ·exact (ne0 J (.head _)).2 (List.mem_singleton.mp q)
  have hbw : ∀ b ∈ G.base, b ∉ [env.locals, s.heap.objs.size + 1, s.heap.objs.size] := fun b hb q => by
   rcases List.mem_cons.mp q with q | q
   ·exact hJb b hb q
   ·rcases List.mem_cons.mp q with q | q
    ·exact (ne0 b (.tail _ (.tail _ hb))).1 q
    ·exact (ne0 b (.tail _ (.tail _ hb))).2 (List.mem_singleton.mp q)
  have fresh : ∀ b ∈ [env.locals, s.heap.objs.size + 1, s.heap.objs.size], b = env.locals ∨ s.heap.get? b = none := fun b hb => by
   rcases List.mem_cons.mp hb with q | q
   ·exact .inl q
   ·rcases List.mem_cons.mp q with q | q
    ·exact .inr (q ▸ (get?_ge (Nat.le_succ _)))
    ·exact .inr ((List.mem_singleton.mp q) ▸ (get?_ge (Nat.le_refl _)))
  have less : ∀ {s1 : Shared}, Mv [env.locals, s.heap.objs.size + 1, s.heap.objs.size] [gi] s s1 → Mv [env.locals] [gi] s s1 := fun m => ⟨fun b o hb e => m.keep b o (fun q => by
   rcases fresh b q with z | z
   ·exact hb (z ▸ (.head _))
   ·exact none_ (z.symm.trans e)) e, m.os, m.gens, m.bare⟩
  have I1 : Inv (gC G A.in1 env g) (put (fun _ => none) "addr" (.d (.str x))) [] (s.setGen gi .running) := (st.inv A.in1).again (flat_put flat_none rfl) rfl rfl K.cells hg (fun b hb o e => e) (AllBare.setGen (st.inv A).bare rfl)
  have hlen : (outD (outL false 0 x.cps.toList)).length = (outL false 0 x.cps.toList).length := by delta outD; rw [List.length_map]
  refine gen_next (wr := [env.locals, s.heap.objs.size + 1, s.heap.objs.size]) (outs := outD (outL false 0 x.cps.toList)) (n := (outL false 0 x.cps.toList).length) rw_ hJw hbw st.gen (st.inv A).gdH (st.inv A).bare st.gs
   ⟨rfl, gen_seg TK K rw_.in1 hok I1 rfl D⟩ (fun v s1 p hn hp hv m hs hg1 => ?_) (fun s1 hn m => hd (List.eq_nil_of_length_eq_zero (hlen.trans hn)) s1 (less m))
  rw [← hlen, Nat.sub_self] at hp
  refine hi p v s1 _ _ hp (gen_it rw_ hJw hbw) (hs 0 (hlen ▸ rfl)) (less m) fresh (.head _) (fun l hl => yv_rd hv l hl) fun t Q' E' q => ?_
  obtain ⟨o, nm, qn, a, c, _⟩ := hg1
  exact go_ref a c (by decide +kernel) q
structure GenOk (K : Frag) (f : Addr) (name qual : Str) (params : Arguments) : Prop where
 it : ∃ (oc : Value) (od : Option Addr) (dV kV doc pm cdv ct : Value) (an : Option Addr) (osl : Array (Option Value)), K.lookup f = some ⟨oc, od, .func (fnX name qual params genBody genScope [] dV kV doc pm an cdv ct), osl⟩ ∧ codeIn K cdv qual = true ∧
  ∀ u : Value, bindArgs (fnX name qual params genBody genScope [] dV kV doc pm an cdv ct) ⟨[u], []⟩ = pure [(("addr" : Str), u)]
noncomputable def baseHeap (G : Gl) (h : Heap) : Heap := hideAll h ((List.range h.objs.size).filter fun b => !(G.base.contains b))
theorem baseHeap_get {G : Gl} {h : Heap} {b : Addr} {o : Obj} (hb : b ∈ G.base) (e : h.get? b = some o) : (baseHeap G h).get? b = some o :=
 hideAll_get _ e fun q => by
  have := (List.mem_filter.mp q).2
  simp at this
  exact this hb
theorem baseHeap_of {G : Gl} {h : Heap} {b : Addr} {o : Obj} (e : (baseHeap G h).get? b = some o) : b ∈ G.base ∧ h.get? b = some o := by
 have e1 := of_hideAll _ e
 refine ⟨?_, e1⟩
 by_cases m : b ∈ G.base
 ·exact m
 ·have : b ∈ (List.range h.objs.size).filter fun b => !(G.base.contains b) := List.mem_filter.mpr ⟨List.mem_range.mpr (Heap.lt_size e1), by simpa using m⟩
  delta baseHeap at e
  exact none_ ((hideAll_none _ this).symm.trans e)
theorem gen_call {G : Gl} {T : Tab} {f : Addr} {name qual : Str} {params : Arguments} {x : Str} {t : Tok} {A : Around} {s : Shared} {Q E : Value → Shared → Prop} (TK : TabOk G T 0) (D : GenOk G.K f name qual params) (lv : Lv A 1) (hok : ∀ c ∈ x.cps, c < 0x110000) (gd : Gd G s.heap) (bare : AllBare s.gens)
  (h : ∀ J L gi s' G0, Full s s' → (∀ A', Rw A' → It0 (model G.prog G.w) A' J L gi G.base (outD (outL false 0 x.cps.toList)) G0) → G0 s' → s.heap.get? J = none → s.heap.get? L = none → s.gens[gi]? = none → Q (.ref J) s') :
  wpAny (model G.prog G.w) A (call (.ref f) [.str x t] []) Q E s := by
 obtain ⟨oc, od, dV, kV, doc, pm, cdv, ct, an, osl, hK, hcode, hbind⟩ := D.it
 refine wpAny_call (codeAny_call_generator (fd := fnX name qual params genBody genScope [] dV kV doc pm an cdv ct) (body := genBody) (by have := lv.depth; show _ < 1000; lia) (gd.kin _ _ hK) rfl rfl rfl rfl (codeRec_of gd.kin hcode) ?_)
 rw [hbind]
 refine wpAny_pure (wpAny_newFunctionEnv_cells rfl (fun y hy => ?_) fun env he s1 X => ?_)
 ·obtain rfl := List.mem_singleton.mp hy; exact .inl rfl
 ·have K : GenEnv env := ⟨he ▸ rfl, he ▸ rfl, he ▸ rfl, he ▸ rfl⟩
  have hL : env.locals = s.heap.objs.size := by exact he ▸ rfl
  have keep := X.toInCall.keep
  obtain ⟨h1, tk, hs1⟩ := X.toInCall.same
  have gd1 : Gd G s1.heap := gd.keeps keep
  have n1 := X.toInCall.ns
  have ltL : env.locals < s1.heap.objs.size := by obtain ⟨o, _, _, e, _⟩ := n1; exact Heap.lt_size e
  have hJL : s1.heap.objs.size ≠ env.locals := fun q => Nat.lt_irrefl _ (q ▸ ltL)
  have hb1 : ∀ b ∈ G.base, b ≠ env.locals := fun b hb q => by
   obtain ⟨o, e⟩ := gd.base_ex b hb
   exact Nat.lt_irrefl _ (hL ▸ q ▸ Heap.lt_size e)
  refine ⟨gd1.lim, ?_⟩
  refine h s1.heap.objs.size env.locals s1.gens.size _ (G0At G T env (baseHeap G s.heap) x s1.heap.objs.size s1.gens.size) ⟨fun b o e => Heap.get?_push_of_some _ (keep b o e), hs1 ▸ rfl, fun k z e => ?_, fun hb => ?_⟩ (fun A' rw_ => gen_it0 TK K rw_ hok hJL (fun b o e => (baseHeap_of e).1) hb1) ⟨⟨_, _, _, Heap.get?_push_size _ rfl, rfl, rfl, rfl⟩, ?_, fun A' => ?_⟩ ?_ ?_ ?_
  ·have e1 : s1.gens[k]? = some z := by exact hs1 ▸ e
   show (s1.gens.push _)[k]? = _
   obtain ⟨l1, l2⟩ := Array.getElem?_eq_some_iff.mp e1
   rw [Array.getElem?_push_lt l1, l2]
  ·exact AllBare.push (hs1 ▸ hb) rfl
  ·show (s1.gens.push _)[s1.gens.size]? = _
   rw [Array.getElem?_push_size]
  ·refine ⟨gd.of_base fun b hb o e => baseHeap_get hb e, ⟨_, n1.push _⟩, fun b o e => Heap.get?_push_of_some _ (keep b o (baseHeap_of e).2), fun y w hw => ?_, fun o ho => (nomatch ho), fun p hp => (nomatch hp), by simp [addrs], List.nodup_nil, fun a ha => ?_, fun a ha => (nomatch ha), fun a ha => (nomatch ha), AllBare.push (hs1 ▸ bare) rfl, fun y c hc => ?_⟩
   ·unfold put at hw
    split at hw
    ·rename_i hy
     obtain rfl := sm_ hw
     subst hy
     refine ⟨.str x t, ?_, Rd.str _ _⟩
     delta VarAt
     have hk : env.kindOf "addr" = some .local := by exact he ▸ rfl
     show match env.kindOf "addr" with | some .local => _ | some .cell => _ | some .free => _ | _ => _
     rw [hk]
     refine ⟨_, n1.push _, ?_⟩
     exact bindL_get hk (by simp) (.head _)
    ·exact none_ hw
   ·have ha : a ∈ env.locals :: [] := ha
    rw [List.mem_singleton] at ha
    subst ha
    cases e : (baseHeap G s.heap).get? env.locals with
    | none => rfl
    | some o => exact absurd (Heap.lt_size (baseHeap_of e).2) (hL ▸ (Nat.lt_irrefl _))
   ·have hc : env.cells.lookup y = some c := hc
    rw [K.cells] at hc; cases hc
  ·cases e : s.heap.get? s1.heap.objs.size with
   | none => rfl
   | some o => exact absurd (Heap.lt_size (keep _ _ e)) (Nat.lt_irrefl _)
  ·exact hL ▸ (get?_ge (Nat.le_refl _))
  ·rw [hs1]; show s.gens[s.gens.size]? = none; simp
end
section
noncomputable def clsOf (body : List Stmt) (n : Str) : Option (List Stmt) := body.findSome? fun st => if h : st.ctorIdx = 2 then Stmt.ClassDef.elim (motive_2 := fun _ => Option (List Stmt)) st h fun m _ _ b _ _ _ _ _ _ _ => if m = n then some b else none else none
noncomputable def initD : { d : Arguments × List Stmt × Scope // ((clsOf PW.main.body "Whitespace").bind fun b => defOf b "__init__") = some d } := ⟨(_, _, _), rfl⟩
noncomputable abbrev initScope : Scope := initD.1.2.2
noncomputable abbrev initBody : List Stmt := initD.1.2.1
noncomputable abbrev wTgt : Expr := (forParts initBody[4]?).1
noncomputable abbrev wIter : Expr := (forParts initBody[4]?).2.1
noncomputable abbrev wLoop : List Stmt := (forParts initBody[4]?).2.2
noncomputable abbrev wF (T : Tab) : Fn := ⟨T, fun y => initScope.names.lookup y, ["count"], []⟩
structure WS (σ : Sig) (cnt : List Int) (b n nt : Int) : Prop where
 S : σ "S" = some (.d (.str " "))
 T : σ "T" = some (.d (.str "\t"))
 count : σ "count" = some (.d (.list (intsD cnt)))
 b : σ "b" = some (.d (.int b))
 n : σ "n" = some (.d (.int n))
 nt : σ "nt" = some (.d (.int nt))
structure OwnC (own : List Str) : Prop where
 c : own.contains "count" = true
 o : ∀ x : Str, x ≠ "count" → own.contains x = false
theorem OwnC.cons {own : List Str} (h : OwnC own) : OwnC ("count" :: own) := ⟨by simp, fun (x : Str) hx => by
 rw [List.contains_cons, h.o x hx, Bool.or_false]
 exact beq_eq_false_iff_ne.mpr hx⟩
theorem plain_own {T : Tab} {kd : Kd} {own : List Str} {x : Str} (h : OwnC own) (hx : x ≠ "count") (h1 : (okName x && isVar (kd x)) = true) : (⟨T, kd, own, []⟩ : Fx).plain x = true := by
 unfold Fx.plain
 dsimp only
 rw [h.o x hx, h1]
 simp
theorem own_is {kd : Kd} {own : List Str} (h : OwnC own) (h1 : (okName "count" && isVar (kd "count")) = true) : (okName "count" && isVar (kd "count") && own.contains "count") = true := by rw [h1, h.c]; rfl
theorem set_is {own : List Str} (h : OwnC own) : ((["count"] : List Str).contains "count" && own.contains "count" && okName "count") = true := by rw [h.c]; rfl
theorem w_blank {T : Tab} {σ : Sig} {own : List Str} {cnt : List Int} {b n nt : Int} {c : Nat} (h : WS σ cnt b n nt) (ho : OwnC own) (hc : c = 32) :
  ∃ σ', Mine.esL 40 (wF T) wLoop ⟨put σ "ch" (.d (.str ⟨#[c]⟩)), own⟩ = some (.next, ⟨σ', own⟩) ∧ WS σ' cnt (b + 1) (n + 1) nt ∧ σ' "self" = σ "self" := by
 subst hc
 refine ⟨_, sCons (sIfT (tCmp (oName (plain_own ho (by decide) rfl) rfl) (oName (plain_own ho (by decide) rfl) h.S) (cmp_sign (by decide) (by decide)))
  (sCons (sAsg rfl rfl (nBin (oName (plain_own ho (by decide) rfl) h.n) (oE rfl (nConst rfl)) rfl))
   (sCons (sAsg rfl rfl (nBin (oName (plain_own ho (by decide) rfl) h.b) (oE rfl (nConst rfl)) rfl)) sNil))) sNil,
  ⟨h.S, h.T, h.count, rfl, rfl, h.nt⟩, rfl⟩
theorem w_other {T : Tab} {σ : Sig} {own : List Str} {cnt : List Int} {b n nt : Int} {c : Nat} (h : WS σ cnt b n nt) (ho : OwnC own) (hc : c ≠ 32) (hc2 : c ≠ 9) (hok : c < 0x110000) :
  ∃ σ', Mine.esL 40 (wF T) wLoop ⟨put σ "ch" (.d (.str ⟨#[c]⟩)), own⟩ = some (.brk, ⟨σ', own⟩) ∧ WS σ' cnt b n nt ∧ σ' "self" = σ "self" := by
 refine ⟨_, sStop (sIfF (tCmp (oName (plain_own ho (by decide) rfl) rfl) (oName (plain_own ho (by decide) rfl) h.S) ((cmp_sign hok (by decide)).trans (congrArg some (decide_eq_false hc))))
  (sStop (sIfF (tCmp (oName (plain_own ho (by decide) rfl) rfl) (oName (plain_own ho (by decide) rfl) h.T) ((cmp_sign hok (by decide)).trans (congrArg some (decide_eq_false hc2))))
   (sStop sBrk trivial)) trivial)) trivial, ⟨h.S, h.T, h.count, h.b, h.n, h.nt⟩, rfl⟩
theorem intsD_length (l : List Int) : (intsD l).length = l.length := by unfold intsD; rw [List.length_map]
theorem upd_intsD : ∀ (l : List Int) (i : Nat) (y : Int), upd (intsD l) i (.int y) = intsD (upd l i y)
 | [], _, _ => rfl
 | _ :: _, 0, _ => rfl
 | x :: r, i + 1, y => by
  show PyData.int x :: upd (intsD r) i (.int y) = PyData.int x :: intsD (upd r i y)
  rw [upd_intsD r i y]
theorem upd_grow (l : List Int) (k : Nat) : upd (l ++ List.replicate (k + 1) 0) (l.length + k) 1 = l ++ List.replicate k 0 ++ [1] := by
 induction l with
 | nil =>
  simp only [List.nil_append, List.length_nil, Nat.zero_add]
  induction k with
  | zero => rfl
  | succ k ih =>
   show (0 : Int) :: upd (List.replicate (k + 1) 0) k 1 = 0 :: (List.replicate k 0 ++ [1])
   rw [ih]
 | cons x r ih =>
  have e : (x :: r).length + k = (r.length + k) + 1 := by rw [List.length_cons]; exact Nat.add_right_comm _ _ _
  rw [e]
  show x :: upd (r ++ List.replicate (k + 1) 0) (r.length + k) 1 = x :: (r ++ List.replicate k 0 ++ [1])
  rw [ih]
theorem rep_int (k : Nat) : (List.replicate k [PyData.int 0]).flatten = intsD (List.replicate k 0) := by
 induction k with
 | zero => rfl
 | succ k ih => rw [List.replicate_succ, List.flatten_cons, ih]; rfl
theorem w_tab {T : Tab} {σ : Sig} {own : List Str} {cnt : List Int} {b : Nat} {n nt : Int} {c : Nat} (h : WS σ cnt b n nt) (ho : OwnC own) (hc : c = 9) (hl : cnt.length ≤ 900) (hb : b ≤ 900) :
  ∃ σ' own', Mine.esL 40 (wF T) wLoop ⟨put σ "ch" (.d (.str ⟨#[c]⟩)), own⟩ = some (.next, ⟨σ', own'⟩) ∧ OwnC own' ∧ WS σ' (bump cnt b) 0 (n + 1) (nt + 1) ∧ σ' "self" = σ "self" := by
 subst hc
 have sl : ∀ (l : List Int) (k : Nat), l.length ≤ k → k ≤ 2000 → short (intsD l).length = true := fun l k h1 h2 => by rw [intsD_length]; exact decide_eq_true (Nat.le_trans h1 (Nat.le_trans h2 (by decide)))
 by_cases hlt : b < cnt.length
 ·have get : subD (.list (intsD cnt)) (PyData.int b) = some (PyData.int (cnt.getD b 0)) := by
   show (if short (b : Int).natAbs then at? (intsD cnt) b else none) = _
   rw [if_pos (by rw [Int.natAbs_natCast]; exact decide_eq_true (Nat.le_trans hb (by decide)))]
   unfold at? intsD
   rw [if_pos (by exact Int.natCast_nonneg _), Int.toNat_natCast, List.getElem?_map, List.getElem?_eq_getElem hlt, List.getD_eq_getElem?_getD, List.getElem?_eq_getElem hlt]; rfl
  have hlen : builtD "len" [.list (intsD cnt)] = some (.int cnt.length) := by
   show (if short (intsD cnt).length then some (PyData.int (intsD cnt).length) else none) = _
   rw [if_pos (sl cnt 900 hl (by decide)), intsD_length]
  have bm : bump cnt b = upd cnt b (cnt.getD b 0 + 1) := if_pos hlt
  rw [bm]
  refine ⟨_, _, sCons (sIfF (tCmp (oName (plain_own ho (by decide) rfl) rfl) (oName (plain_own ho (by decide) rfl) h.S) (cmp_sign (by decide) (by decide)))
   (sCons (sIfT (tCmp (oName (plain_own ho (by decide) rfl) rfl) (oName (plain_own ho (by decide) rfl) h.T) (cmp_sign (by decide) (by decide)))
    (sCons (sAsg rfl rfl (nBin (oName (plain_own ho (by decide) rfl) h.n) (oE rfl (nConst rfl)) rfl))
    (sCons (sAsg rfl rfl (nBin (oName (plain_own ho (by decide) rfl) h.nt) (oE rfl (nConst rfl)) rfl))
    (sCons (sIfF (tCmp (oName (plain_own ho (by decide) rfl) h.b) (oE rfl (nBuilt rfl rfl (by decide) (oCons (oOwn (own_is ho rfl) h.count) oNil) hlen)) (by show some (decide ((b : Int) ≥ cnt.length)) = some false; rw [decide_eq_false (by lia)])) sNil)
    (sCons (sSet (set_is ho) (nBin (oSub rfl (nSub rfl (oOwn (own_is ho rfl) h.count) (nName (plain_own ho (by decide) rfl) h.b) get)) (oE rfl (nConst rfl)) rfl) h.count (nName (plain_own ho (by decide) rfl) h.b) ⟨by exact Int.natCast_nonneg _, by rw [intsD_length]; exact Int.ofNat_lt.mpr ‹_›, sl cnt 900 hl (by decide)⟩)
    (sCons (sAsg rfl rfl (nConst rfl)) sNil)))))) sNil)) sNil, ho, ⟨h.S, h.T, ?_, rfl, rfl, rfl⟩, rfl⟩
  rw [Int.toNat_natCast, upd_intsD]; rfl
 ·obtain ⟨k, hk⟩ : ∃ k, b = cnt.length + k := ⟨b - cnt.length, by exact adN ‹_›⟩
  have hlen : builtD "len" [.list (intsD cnt)] = some (.int cnt.length) := by
   show (if short (intsD cnt).length then some (PyData.int (intsD cnt).length) else none) = _
   rw [if_pos (sl cnt 900 hl (by decide)), intsD_length]
  have mul : binD .Mult (.list [.int 0]) (.int ((b : Int) - cnt.length + 1)) = some (.list (intsD (List.replicate (k + 1) 0))) := by
   have e : (b : Int) - cnt.length + 1 = ((k + 1 : Nat) : Int) := by lia
   rw [e]
   show (if short 1 && decide (((k + 1 : Nat) : Int) ≤ 1000) && decide (-1000 ≤ ((k + 1 : Nat) : Int)) && short (1 * (((k + 1 : Nat) : Int)).toNat) then some (PyData.list (List.replicate (((k + 1 : Nat) : Int)).toNat [PyData.int 0]).flatten) else none) = _
   rw [Int.toNat_natCast, decide_eq_true (by lia : ((k + 1 : Nat) : Int) ≤ 1000), decide_eq_true (by exact Int.natCast_nonneg _ : -1000 ≤ ((k + 1 : Nat) : Int)), show short (1 * (k + 1)) = true from decide_eq_true (by show 1 * (k + 1) ≤ 1048576; lia), rep_int]
   rfl
  have add : binD .Add (.list (intsD cnt)) (.list (intsD (List.replicate (k + 1) 0))) = some (.list (intsD (cnt ++ List.replicate (k + 1) 0))) := by
   show (if short (intsD cnt).length && short (intsD (List.replicate (k + 1) 0)).length then some (PyData.list (intsD cnt ++ intsD (List.replicate (k + 1) 0))) else none) = _
   rw [sl cnt 900 hl (by decide), sl _ 1000 (by rw [List.length_replicate]; lia) (by decide)]
   unfold intsD
   rw [List.map_append]; rfl
  have lg : (cnt ++ List.replicate (k + 1) (0 : Int)).length = b + 1 := by rw [List.length_append, List.length_replicate]; lia
  have get : subD (.list (intsD (cnt ++ List.replicate (k + 1) 0))) (PyData.int b) = some (PyData.int 0) := by
   show (if short (b : Int).natAbs then at? (intsD (cnt ++ List.replicate (k + 1) 0)) b else none) = _
   rw [if_pos (by rw [Int.natAbs_natCast]; exact decide_eq_true (Nat.le_trans hb (by decide)))]
   unfold at? intsD
   rw [if_pos (by exact Int.natCast_nonneg _), Int.toNat_natCast, List.getElem?_map, List.getElem?_append_right (by exact Nat.le_of_not_lt ‹_›), List.getElem?_replicate, if_pos (by omega)]; rfl
  have bm : bump cnt b = cnt ++ List.replicate (b - cnt.length) 0 ++ [1] := if_neg hlt
  have hkk : b - cnt.length = k := by exact adK ‹_›
  rw [bm, hkk]
  have ho' := ho.cons
  refine ⟨_, _, sCons (sIfF (tCmp (oName (plain_own ho (by decide) rfl) rfl) (oName (plain_own ho (by decide) rfl) h.S) (cmp_sign (by decide) (by decide)))
   (sCons (sIfT (tCmp (oName (plain_own ho (by decide) rfl) rfl) (oName (plain_own ho (by decide) rfl) h.T) (cmp_sign (by decide) (by decide)))
    (sCons (sAsg rfl rfl (nBin (oName (plain_own ho (by decide) rfl) h.n) (oE rfl (nConst rfl)) rfl))
    (sCons (sAsg rfl rfl (nBin (oName (plain_own ho (by decide) rfl) h.nt) (oE rfl (nConst rfl)) rfl))
    (sCons (sIfT (tCmp (oName (plain_own ho (by decide) rfl) h.b) (oE rfl (nBuilt rfl rfl (by decide) (oCons (oOwn (own_is ho rfl) h.count) oNil) hlen)) (by show some (decide ((b : Int) ≥ cnt.length)) = some true; rw [decide_eq_true (by lia)]))
      (sCons (sOwn rfl rfl rfl (nBin (oOwn (own_is ho rfl) h.count) (oE rfl (nBin (oE rfl (nList (eCons (nConst rfl) eNil) rfl)) (oE rfl (nBin (oE rfl (nBin (oName (plain_own ho (by decide) rfl) h.b) (oE rfl (nBuilt rfl rfl (by decide) (oCons (oOwn (own_is ho rfl) h.count) oNil) hlen)) rfl)) (oE rfl (nConst rfl)) rfl)) mul)) add)) sNil))
    (sCons (sSet (set_is ho') (nBin (oSub rfl (nSub rfl (oOwn (own_is ho' rfl) rfl) (nName (plain_own ho' (by decide) rfl) h.b) get)) (oE rfl (nConst rfl)) rfl) rfl (nName (plain_own ho' (by decide) rfl) h.b) ⟨by exact Int.natCast_nonneg _, by rw [intsD_length, lg]; lia, sl _ 901 (by lia) (by decide)⟩)
    (sCons (sAsg rfl rfl (nConst rfl)) sNil)))))) sNil)) sNil, ho', ⟨h.S, h.T, ?_, rfl, rfl, rfl⟩, rfl⟩
  show some (X.d (PyData.list (upd (intsD (cnt ++ List.replicate (k + 1) 0)) (b : Int).toNat (.int (0 + 1))))) = _
  rw [Int.toNat_natCast, upd_intsD, hk]
  rw [show (0 : Int) + 1 = 1 from rfl, upd_grow]
theorem bump_len {cnt : List Int} {b : Nat} : (bump cnt b).length ≤ max cnt.length (b + 1) := by
 unfold bump
 split
 ·have : ∀ (l : List Int) (i : Nat) (y : Int), (upd l i y).length = l.length := by
   intro l
   induction l with
   | nil => intro i y; rfl
   | cons x r ih => intro i y; cases i with
    | zero => rfl
    | succ i => show (upd r i y).length + 1 = _; rw [ih]; rfl
  rw [this]; exact bmA
 ·simp; exact bmB ‹_›
theorem w_run {T : Tab} : ∀ (cs : List Nat) (cnt : List Int) (b n nt : Nat) (σ : Sig) (own : List Str), WS σ cnt b n nt → OwnC own → (∀ c ∈ cs, c < 0x110000) → b + cs.length ≤ 900 → cnt.length ≤ 900 →
  ∃ σ' own', loopL (bndT (wF T) wTgt) (Mine.esL 40 (wF T) wLoop) (cs.map fun c => .str ⟨#[c]⟩) ⟨σ, own⟩ = some (.next, ⟨σ', own'⟩) ∧ OwnC own' ∧
   WS σ' (wsL cs cnt b n nt).1 (wsL cs cnt b n nt).2.1 (wsL cs cnt b n nt).2.2.1 (wsL cs cnt b n nt).2.2.2 ∧ σ' "self" = σ "self" ∧ (wsL cs cnt b n nt).1.length ≤ 900
 | [], cnt, b, n, nt, σ, own, h, ho, _, _, hl => ⟨σ, own, rfl, ho, h, rfl, hl⟩
 | c :: r, cnt, b, n, nt, σ, own, h, ho, hc, hb, hl => by
  have hb' : b + 1 + r.length ≤ 900 := by rw [List.length_cons] at hb; lia
  have hr : ∀ c ∈ r, c < 0x110000 := fun c' h' => hc c' (.tail _ h')
  have bnd : bindTD (wF T).ok wTgt σ (.str ⟨#[c]⟩) = some (put σ "ch" (.d (.str ⟨#[c]⟩))) := rfl
  by_cases h1 : c = 32
  ·have e : wsL (c :: r) cnt b n nt = wsL r cnt (b + 1) (n + 1) nt := by rw [wsL, if_pos h1]
   obtain ⟨σ1, q1, q2, q3⟩ := w_blank (T := T) h ho h1
   obtain ⟨σ2, own2, z1, z2, z3, z4, z5⟩ := w_run (T := T) r cnt (b + 1) (n + 1) nt σ1 own q2 ho hr (by assumption) hl
   rw [e]
   refine ⟨σ2, own2, ?_, z2, z3, z4.trans q3, z5⟩
   exact bnI (mpI bnd) (bnI q1 z1)
  ·by_cases h2 : c = 9
   ·have e : wsL (c :: r) cnt b n nt = wsL r (bump cnt b) 0 (n + 1) (nt + 1) := by rw [wsL, if_neg h1, if_pos h2]
    obtain ⟨σ1, own1, q1, q0, q2, q3⟩ := w_tab (T := T) h ho h2 hl (by lia)
    have bl := bump_len (cnt := cnt) (b := b)
    obtain ⟨σ2, own2, z1, z2, z3, z4, z5⟩ := w_run (T := T) r (bump cnt b) 0 (n + 1) (nt + 1) σ1 own1 q2 q0 hr (by lia) (by exact bmC ‹_› ‹_› ‹_›)
    rw [e]
    refine ⟨σ2, own2, ?_, z2, z3, z4.trans q3, z5⟩
    exact bnI (mpI bnd) (bnI q1 z1)
   ·have e : wsL (c :: r) cnt b n nt = (cnt, b, n, nt) := by rw [wsL, if_neg h1, if_neg h2]
    obtain ⟨σ1, q1, q2, q3⟩ := w_other (T := T) h ho h1 h2 (hc c (.head _))
    rw [e]
    refine ⟨σ1, own, ?_, ho, q2, q3, hl⟩
    exact bnI (mpI bnd) (bnI q1 rfl)
end
section
open PySem.Calls
noncomputable def wsNames : List Str := ["raw", "n", "nt", "norm", "is_simple"]
structure WsCls (G : Gl) : Prop where
 set : findIn G.K (.ref G.ws) "__setattr__" = some (some (.builtin "object.__setattr__"))
 over : plainOver G.K G.ws = true
 hasD : hasDictIn G.K G.ws = true
 get : ∀ y, plainGet G.K G.ws y = true
 no : ∀ y ∈ wsNames, findIn G.K (.ref G.ws) y = some none
noncomputable def cutNews (h : Heap) (D L : Addr) : List (Addr × Obj) := (List.range h.objs.size).filterMap fun b => if D < b ∧ b ≠ L then (h.get? b).map fun o => (b, o) else none
theorem mem_cutNews {h : Heap} {D L : Addr} {p : Addr × Obj} : p ∈ cutNews h D L ↔ (D < p.1 ∧ p.1 ≠ L) ∧ h.get? p.1 = some p.2 := by
 unfold cutNews
 rw [List.mem_filterMap]
 constructor
 ·rintro ⟨b, hb, e⟩
  split at e
  ·rename_i hl
   cases q : h.get? b with
   | none => rw [q] at e; cases e
   | some o => rw [q] at e; obtain rfl := sm_ e; exact ⟨hl, q⟩
  ·cases e
 ·rintro ⟨hl, e⟩
  refine ⟨p.1, List.mem_range.mpr (Heap.lt_size e), ?_⟩
  rw [if_pos hl, e]; rfl
theorem inst_set {G : Gl} (W : WsCls G) {A : Around} {E : Value → Shared → Prop} {s : Shared} {x dx L : Addr} {m : Str → Option Value} {es : List DictEntry} {n : Nat} {name : Str} {v : Value} {Q : Unit → Shared → Prop} (gd : Gd G s.heap)
  (hx : s.heap.get? x = some (instObj G.ws dx)) (hd : s.heap.get? dx = some (dictOf es n)) (ns : s.heap.Ns L m) (hL : dx < L) (hK : ∀ b ∈ G.K.map (·.1), b < dx) (hn : name ∈ wsNames) (hl : (getL name es).isSome = true) (hz : es.length ≤ 900)
  (h : ∀ h' k, (∀ b o, b ≠ L → b ≠ dx → s.heap.get? b = some o → h'.get? b = some o) → h'.Ns L m → h'.get? dx = some (dictOf (putL name (PyData.keyHash G.w.params name) (.str name (s.toks + 1)) v es) (putN name es n)) → Q () { s with heap := h', toks := k }) :
  wpAny (model G.prog G.w) A (setAttr (.ref x) name v) Q E s := by
 have F : Fr (trunc s.heap dx) L s.heap m := ⟨ns, fun b o e => (trunc_get.mp e).2, by
  unfold trunc; simp only [Array.size_extract]; exact Nat.le_trans (Nat.sub_le _ _) (Nat.le_trans (Nat.min_le_left _ _) (Nat.le_of_lt hL))⟩
 have X0 : G.K.In (trunc s.heap dx) := fun b o e => trunc_get.mpr ⟨hK b (mem_of_lookup' e), gd.kin b o e⟩
 have none0 : ∀ b, dx ≤ b → (trunc s.heap dx).get? b = none := fun b hb => by
  cases q : (trunc s.heap dx).get? b with
  | none => rfl
  | some o => exact absurd (trunc_get.mp q).1 (Nat.not_lt.mpr hb)
 have N : News (trunc s.heap dx) L s.heap ((dx, dictOf es n) :: cutNews s.heap dx L) := fun p hp => by
  rcases List.mem_cons.mp hp with q | q
  ·rw [q]; exact ⟨hd, Nat.ne_of_lt hL, none0 dx (Nat.le_refl _)⟩
  ·obtain ⟨⟨a, b⟩, c⟩ := mem_cutNews.mp q
   exact ⟨c, b, none0 _ (Nat.le_of_lt a)⟩
 have ap : ∀ p ∈ cutNews s.heap dx L, p.1 ≠ dx := fun p hp => Nat.ne_of_gt (mem_cutNews.mp hp).1.1
 have len : (putL name (PyData.keyHash G.w.params name) (.str name (s.toks + 1)) v es).length ≤ 1000 := by
  have : ∀ l : List DictEntry, (putL name (PyData.keyHash G.w.params name) (.str name (s.toks + 1)) v l).length ≤ l.length + 1 := by
   intro l
   induction l with
   | nil => exact Nat.le_refl _
   | cons a r ih =>
    unfold putL
    split
    ·simp
    ·simp only [List.length_cons]; exact Nat.lt_succ_of_le ‹_›
  have := this es
  lia
 refine set_dict (news' := (dx, dictOf (putL name (PyData.keyHash G.w.params name) (.str name (s.toks + 1)) v es) (putN name es n)) :: cutNews s.heap dx L) F X0 N ⟨hx, rfl, rfl, hd⟩ rfl W.set W.over (by unfold takerIn; rw [W.no name hn]; rfl) W.hasD hl rfl (.head ap) len fun h' F' N' => h h' (s.toks + 2) (fun b o h1 h2 e => ?_) F'.ns ?_
 ·rcases Nat.lt_or_ge b dx with q | q
  ·exact F'.keep b o (trunc_get.mpr ⟨q, e⟩)
  ·exact (N' (b, o) (.tail _ (mem_cutNews.mpr ⟨⟨Nat.lt_of_le_of_ne q (Ne.symm h2), h1⟩, e⟩))).1
 ·exact (N' _ (.head _)).1
structure DAt (h : Heap) (dx : Addr) (f : Str → Option Value) (k : Nat) : Prop where
 it : ∃ es n, h.get? dx = some (dictOf es n) ∧ (∀ y, getL y es = some (f y)) ∧ (∀ e ∈ es, e.refKey = false) ∧ es.length ≤ k
theorem isStr_ne {t : Tok} {x y : Str} (h : x ≠ y) : (Value.str x t).isStr y = false := beq_eq_false_iff_ne.mpr h
theorem putL_get {name : Str} {hs : Int} {t : Tok} {v : Value} : ∀ {es : List DictEntry} {f : Str → Option Value}, (∀ e ∈ es, e.refKey = false) → (∀ y, getL y es = some (f y)) →
  (∀ y, getL y (putL name hs (.str name t) v es) = some (if y = name then some v else f y)) ∧ (∀ e ∈ putL name hs (.str name t) v es, e.refKey = false) ∧ (putL name hs (.str name t) v es).length ≤ es.length + 1
 | [], f, hr, hf => by
  refine ⟨fun y => ?_, fun e he => ?_, Nat.le_refl _⟩
  ·unfold putL getL
   rw [List.find?_cons]
   by_cases q : y = name
   ·subst q
    rw [show (Value.str y t).isStr y = true from beq_self_eq_true y, if_pos rfl]
   ·rw [isStr_ne (Ne.symm q), if_neg q]
    exact hf y
  ·unfold putL at he
   rw [List.mem_singleton] at he
   rw [he]; rfl
 | e :: r, f, hr, hf => by
  have hr' : ∀ e ∈ r, e.refKey = false := fun e' h' => hr e' (.tail _ h')
  have he := hr e (.head _)
  have g1 : ∀ (y : Str) (k : DictEntry), k.refKey = false → getL y (k :: r) = if k.key.isStr y then some (some k.val) else getL y r := fun y k hk => by
   unfold getL
   rw [List.find?_cons, List.any_cons, hk, Bool.false_or]
   cases k.key.isStr y <;> rfl
  unfold putL
  by_cases q : e.key.isStr name
  ·rw [if_pos q]
   refine ⟨fun y => ?_, fun e' h' => ?_, by simp⟩
   ·have k1 : (⟨e.hash, e.key, v⟩ : DictEntry).refKey = false := he
    rw [g1 y _ k1]
    have hk : e.key.isStr y = decide (y = name) := by
     cases hke : e.key with
     | str z tt =>
      rw [hke] at q
      have : z = name := by have q : (z == name) = true := q; exact eq_of_beq q
      subst this
      show (z == y) = _
      by_cases w : y = z
      ·subst w; simp
      ·rw [decide_eq_false w]; exact beq_eq_false_iff_ne.mpr (Ne.symm w)
     | _ => rw [hke] at q; cases q
    show (if e.key.isStr y then _ else _) = _
    rw [hk]
    by_cases w : y = name
    ·rw [decide_eq_true w, if_pos rfl, if_pos w]
    ·rw [decide_eq_false w, if_neg (by simp), if_neg w]
     have := hf y
     rw [g1 y e he, hk, decide_eq_false w, if_neg (by simp)] at this
     exact this
   ·rcases List.mem_cons.mp h' with w | w
    ·rw [w]; exact he
    ·exact hr' e' w
  ·rw [if_neg q]
   have hq : e.key.isStr name = false := by simpa using q
   have ih := putL_get (name := name) (hs := hs) (t := t) (v := v) (es := r) (f := fun y => if e.key.isStr y then (getL y r).getD none else f y) hr' fun y => by
    have := hf y
    rw [g1 y e he] at this
    split at this
    ·rename_i w
     rw [if_pos w]
     have : ∃ z, getL y r = some z := by
      unfold getL
      split
      ·exact ⟨_, rfl⟩
      ·rw [if_neg (by
        intro c
        obtain ⟨e', h', c⟩ := List.any_eq_true.mp c
        rw [hr' e' h'] at c; cases c)]; exact ⟨_, rfl⟩
     obtain ⟨z, hz⟩ := this
     rw [hz]; rfl
    ·rename_i w; rw [if_neg w]; exact this
   refine ⟨fun y => ?_, fun e' h' => ?_, by have := ih.2.2; simp only [List.length_cons]; exact Nat.lt_succ_of_le ‹_›⟩
   ·have g2 : getL y (e :: putL name hs (.str name t) v r) = if e.key.isStr y then some (some e.val) else getL y (putL name hs (.str name t) v r) := by
     unfold getL
     rw [List.find?_cons, List.any_cons, he, Bool.false_or]
     cases e.key.isStr y <;> rfl
    rw [g2]
    have := hf y
    rw [g1 y e he] at this
    by_cases w : e.key.isStr y
    ·rw [if_pos w] at this ⊢
     rw [if_neg (fun c => by rw [c] at w; exact q w)]
     exact this
    ·rw [if_neg w, ih.1 y, if_neg w]
   ·rcases List.mem_cons.mp h' with w | w
    ·rw [w]; exact he
    ·exact ih.2.1 e' w
end
section
open PySem.Calls
structure Tr (s s' : Shared) : Prop where
 os : s'.os = s.os
 gens : ∀ (k : Nat) (x : GenState), s.gens[k]? = some x → s'.gens[k]? = some x
 bare : AllBare s.gens → AllBare s'.gens
theorem Tr.trans {a b c : Shared} (x : Tr a b) (y : Tr b c) : Tr a c := ⟨y.os.trans x.os, fun k z e => y.gens k z (x.gens k z e), fun h => y.bare (x.bare h)⟩
theorem Tr.refl {a : Shared} : Tr a a := ⟨rfl, fun _ _ e => e, id⟩
theorem Ext.tr {L : Addr} {a b : Shared} (x : Ext L a b) : Tr a b := ⟨x.os, x.gens, x.bare⟩
theorem Step.tr {C : Cx} {ρ ρ' : List Own} {a b : Shared} (x : Step C ρ ρ' a b) : Tr a b := ⟨x.os, x.gens, x.bare⟩
theorem DAt.keep {h h' : Heap} {dx : Addr} {f : Str → Option Value} {j : Nat} (D : DAt h dx f j) (k : ∀ o, h.get? dx = some o → h'.get? dx = some o) : DAt h' dx f j :=
 let ⟨es, n, e, r⟩ := D.it; ⟨es, n, k _ e, r⟩
structure IxOk (C : Cx) (x dx : Addr) : Prop where
 hd : dx ∈ C.H
 gd : C.g.get? dx = none
 gx : C.g.get? x = some (instObj C.G.ws dx)
 cells : C.env.cells = []
 cs : C.cs = []
 lt : dx < C.env.locals
 K : ∀ b ∈ C.G.K.map (·.1), b < dx
section
variable {C : Cx} {T : Tab} {σ : Sig} {ρ : List Own} {s s' : Shared} {E : Value → Shared → Prop} {n : Nat} {x dx : Addr}
theorem Inv.setd (I : Inv C σ ρ s) (X : IxOk C x dx) {h' : Heap} {k : Nat} {o' : Obj} (keep : ∀ b o, b ≠ C.env.locals → b ≠ dx → s.heap.get? b = some o → h'.get? b = some o) (hns : ∀ m, s.heap.Ns C.env.locals m → h'.Ns C.env.locals m) (hf : o'.isFreed = false) (hd : h'.get? dx = some o') :
  Inv C σ ρ { s with heap := h', toks := k } ∧ Keeps (C.hh ρ s) (C.hh ρ { s with heap := h', toks := k }) := by
 obtain ⟨⟨o, ho⟩, hn⟩ := I.old dx X.hd
 have hL : dx ≠ C.env.locals := Nat.ne_of_lt X.lt
 have u1 : (s.heap.update dx (fun _ => o')).get? dx = some o' := Heap.get?_update_self _ ho hf
 have u2 : ∀ b, b ≠ dx → (s.heap.update dx (fun _ => o')).get? b = s.heap.get? b := fun b hb => Heap.get?_update_other _ _ (Ne.symm hb)
 obtain ⟨I1, k1⟩ := I.mv (s' := { s with heap := s.heap.update dx (fun _ => o') }) (wr := [dx]) (gw := []) ⟨fun b o hb e => by
  show (s.heap.update dx (fun _ => o')).get? b = some o
  rw [u2 b (fun q => hb (List.mem_singleton.mpr q))]; exact e, rfl, fun _ _ _ e => e, id⟩ (fun b hb => by rw [List.mem_singleton.mp hb]; exact X.hd) (fun b hb => by rw [List.mem_singleton.mp hb]; exact ⟨_, u1⟩)
  (fun b hb => by rw [List.mem_singleton.mp hb]; exact X.gd) (fun y c e => by rw [X.cells] at e; cases e)
 have X2 : Ext C.env.locals ({ s with heap := s.heap.update dx (fun _ => o') } : Shared) { s with heap := h', toks := k } := by
  refine ⟨fun b o hb e => ?_, fun m hm => hns m (hm.at' fun o e => ?_), rfl, fun _ _ e => e, id⟩
  ·by_cases q : b = dx
   ·subst q
    have e : (s.heap.update b (fun _ => o')).get? b = some o := e
    rw [u1] at e; obtain rfl := sm_ e; exact hd
   ·have e : (s.heap.update dx (fun _ => o')).get? b = some o := e
    rw [u2 b q] at e; exact keep b o hb q e
  ·have e : (s.heap.update dx (fun _ => o')).get? C.env.locals = some o := e
   rw [u2 _ (Ne.symm hL)] at e; exact e
 exact ⟨I1.ext X2, fun b o e => hh_keeps X2 b o (k1 b o e)⟩
theorem set_stmt {attr : Str} {v : X} {e : Expr} {p1 p2 pos : Pos} {f : Str → Option Value} {Q : Flow → Shared → Prop} (W : WsCls C.G) (K : FnOk (wF T) C n) (X : IxOk C x dx) (hσ : σ "self" = some (.r x)) (hρ : ρ.find? (·.name == ("self" : Str)) = none) (I : Inv C σ ρ s) {j : Nat} (D : DAt s.heap dx f j) (hj : j ≤ 90) (he : Evs C σ ρ e v) (hn : attr ∈ wsNames)
  (hs : swapsWith e (some (.Attribute (.Name "self" p1) attr p2)) pos.line C.env = pure false)
  (h : ∀ u s', Inv C σ ρ s' → RdX C.G (C.hh ρ s') u v → DAt s'.heap dx (fun y => if y = attr then some u else f y) (j + 1) → Tr s s' → Keeps (C.hh ρ s) (C.hh ρ s') → Q .next s') :
  wpAny C.M C.A (exec (.Assign [.Attribute (.Name "self" p1) attr p2] e pos) C.env) Q E s := by
 have hL : dx ≠ C.env.locals := Nat.ne_of_lt X.lt
 refine plainObj_wpAny_Assign_Attribute (he s _ _ I fun u s1 X1 r1 _ => ?_) hs
 have I1 := I.ext X1
 obtain ⟨w, h1, h2⟩ := I1.vars "self" (.r x) hσ
 rw [hρ] at h2
 have h2 : w = .ref x := h2
 subst h2
 refine var_load K.cx rfl h1 ?_
 obtain ⟨m, ns⟩ := I1.ns
 obtain ⟨es, nn, d1, d2, d3, d4⟩ := D.it
 have d1' : s1.heap.get? dx = some (dictOf es nn) := X1.keep dx _ hL d1
 refine inst_set W I1.gdH (I1.keep _ _ X.gx) d1' ns X.lt X.K hn (by rw [d2]; rfl) (by exact le2 ‹_› ‹_› rfl) fun h' k kk nk dk => ?_
 obtain ⟨I2, k2⟩ := I1.setd X kk (fun m' hm' => by
  have : m' = m := by
   obtain ⟨o, es, ep, e, d, _, f⟩ := ns
   obtain ⟨o', es', ep', e', d', _, f'⟩ := hm'
   rw [e] at e'; cases e'; rw [d] at d'; cases d'
   funext y; rw [← f, ← f']
  rw [this]; exact nk) rfl dk
 obtain ⟨g1, g2, g3⟩ := putL_get (name := attr) (hs := PyData.keyHash C.G.w.params attr) (t := s1.toks + 1) (v := u) d3 d2
 exact h u _ I2 (r1.keeps k2) ⟨_, _, dk, g1, g2, by lia⟩ (X1.tr.trans ⟨rfl, fun _ _ e => e, id⟩) (fun b o e => k2 b o (hh_keeps X1 b o e))
end
end
section
open PySem.Calls
structure WsMk (G : Gl) (fI : Addr) (name qual : Str) : Prop where
 makes : makesIn G.K G.ws = true
 init : findIn G.K (.ref G.ws) "__init__" = some (some (.ref fI))
 fn : typeIn G.K (.ref fI) = some (.type "function")
 D : DefOk G.K fI name qual initD.1.1 initBody initScope
noncomputable def mkWs (l : List X) : Option X := (one l).bind fun v => v.data.bind fun p => (strV p).bind fun x => if decide (x.length ≤ 900) && PyData.strOk x then some (wsOf x) else none
theorem data_ {v : X} {p : PyData} (h : v.data = some p) : v = .d p := by
 cases v with
 | d q => exact congrArg X.d (sm_ h)
 | w => cases h
 | r => cases h
theorem inst_get {G : Gl} (W : WsCls G) {A : Around} {E : Value → Shared → Prop} {s : Shared} {x dx : Addr} {es : List DictEntry} {n : Nat} {name : Str} {v : Value} {b : Bool} {Q : Value → Shared → Prop} (gd : Gd G s.heap)
  (hx : s.heap.get? x = some (instObj G.ws dx)) (hd : s.heap.get? dx = some (dictOf es n)) (hn : name ∈ wsNames) (hl : getL name es = some (some v)) (hv : handedIn v = true) (h : Q v { s with toks := s.toks + 1 }) :
  wpAny (model G.prog G.w) A (getAttr (.ref x) name b) Q E s :=
 get_value (od := some (dictOf es n)) gd.kin ⟨hx, rfl, rfl, hd⟩ (plainGet_of (W.get name)).1 (findObj_own (attr := none) W.hasD (W.no name hn) rfl hl) hv h
theorem Inv.lessg {C : Cx} {σ : Sig} {ρ : List Own} {s : Shared} {g : Heap} (I : Inv C σ ρ s) (k : Keeps g C.g) (gd : Gd C.G g) : Inv { C with g := g } σ ρ s := by
 refine ⟨gd, I.ns, fun b o e => I.keep b o (k b o e), I.vars, I.owns, I.cells, I.nodup, I.names, fun a ha => ?_, I.old, I.there, I.bare, I.cl⟩
 cases e : g.get? a with
 | none => rfl
 | some o => have := I.new a ha; exact none_ (this.symm.trans (k a o e))
theorem FnOk.lessg {G : Fn} {C : Cx} {n : Nat} {g : Heap} (K : FnOk G C n) : FnOk G { C with g := g } n := ⟨K.T, K.kd, ⟨K.cx.fn, K.cx.gl, K.cx.bl, K.cx.lv⟩, K.cell, K.cl⟩
theorem init_walk {C : Cx} {T : Tab} {σ : Sig} {s0 s : Shared} {E : Value → Shared → Prop} {n : Nat} {x dx : Addr} {raw : Str} {Q : Flow → Shared → Prop} (W : WsCls C.G) (K : FnOk (wF T) C n) (X : IxOk C x dx)
  (cS : T.cat "Whitespace" "S" = some (.str " ")) (cT : T.cat "Whitespace" "T" = some (.str "\t")) (hr : raw.length ≤ 900) (hok : ∀ c ∈ raw.cps, c < 0x110000)
  (h1 : σ "self" = some (.r x)) (h2 : σ "ws" = some (.d (.str raw))) (I : Inv C σ [] s) (D : DAt s.heap dx (fun _ => none) 0) (t0 : Tr s0 s)
  (h : ∀ s' f, Keeps C.g s'.heap → DAt s'.heap dx f 5 → (∃ t, f "raw" = some (.str raw t)) → (∃ t, f "n" = some (.int (wsL raw.cps.toList [] 0 0 0).2.2.1 t)) → (∃ t, f "nt" = some (.int (wsL raw.cps.toList [] 0 0 0).2.2.2 t)) →
   (∃ vn ρ', f "norm" = some vn ∧ Rd (C.hh ρ' s') vn (.tuple [.tuple (intsD (wsL raw.cps.toList [] 0 0 0).1), .int (wsL raw.cps.toList [] 0 0 0).2.1])) → f "is_simple" = some (.bool (decide ((wsL raw.cps.toList [] 0 0 0).1.length ≤ 1))) →
   (∀ y, y ∉ wsNames → f y = none) → Tr s0 s' → Q .next s') : wpAny C.M C.A (execs initBody C.env) Q E s := by
 have L0 : LinkOk (wF T) ⟨σ, []⟩ [] := link_mk rfl rfl
 have hL : dx ≠ C.env.locals := Nat.ne_of_lt X.lt
 refine wpAny_execs_cons (set_stmt (v := .d (.str raw)) W K X h1 rfl I D (by decide) ((se 6).ee (L0.fx K) (nName rfl h2)) (by decide) rfl fun u0 s1 I1 r0 D1 t1 _ => ?_)
 obtain ⟨tr, rfl⟩ := Rd.str_ r0
 have notown : ∀ {σ : Sig} {ρ : List Own} {s : Shared}, Inv C σ ρ s → dx ∉ C.own' ρ := fun I => (I.old dx X.hd).2
 have D1k : ∀ {σ : Sig} {ρ ρ' : List Own} {s s' : Shared} {f : Str → Option Value} {j : Nat}, Inv C σ ρ s → Step C ρ ρ' s s' → DAt s.heap dx f j → DAt s'.heap dx f j := fun I S D => D.keep fun o e => S.keep dx o (notown I) e
 refine wpAny_execs_cons ((ss 40).es K (sTup (nCat rfl rfl cS) (nCat rfl rfl cT) rfl) [] s1 _ _ L0 I1 fun ρ2 s2 L2 I2 S2 _ _ => ?_)
 have D2 := D1k I1 S2 D1
 refine wpAny_execs_cons ((ss 40).es K (sOwn rfl rfl rfl (nList eNil rfl)) ρ2 s2 _ _ L2 I2 fun ρ3 s3 L3 I3 S3 _ _ => ?_)
 have D3 := D1k I2 S3 D2
 refine wpAny_execs_cons ((ss 40).es K (sMulti (nConst rfl) rfl) ρ3 s3 _ _ L3 I3 fun ρ4 s4 L4 I4 S4 _ _ => ?_)
 have D4 := D1k I3 S4 D3
 have t4 := t0.trans (t1.trans (S2.tr.trans (S3.tr.trans S4.tr)))
 refine wpAny_execs_cons (wpAny_For ?_ fun _ => rfl)
 rw [arm_eval_Attribute]
 rw [base_ok (o := .Name "self" _) rfl]
 obtain ⟨w, q1, q2⟩ := I4.vars "self" (.r x) h1
 rw [L4.none (.inl rfl) rfl] at q2
 have q2 : w = .ref x := q2
 subst q2
 refine wpAny_bind (var_load K.cx rfl q1 (wpAny_bind (wpAny_standAt (wpAny_bind (wpAny_holding ?_)))))
 obtain ⟨es, nn, d1, d2, d3, d4⟩ := D4.it
 refine inst_get W I4.gdH (I4.keep _ _ X.gx) d1 (by decide) (d2 "raw") rfl ?_
 refine wpAny_bind (wpAny_letTemporaryGo (wpAny_pure ?_))
 have X5 : Ext C.env.locals s4 { s4 with toks := s4.toks + 1 } := .toks
 have I5 := I4.ext X5
 have D5 : DAt ({ s4 with toks := s4.toks + 1 } : Shared).heap dx _ _ := D4
 have t5 := t4.trans X5.tr
 generalize ({ s4 with toks := s4.toks + 1 } : Shared) = s5 at *
 refine iter_str K.cx.lv.hh I5 fun J s6 St hJ WI st X6 => ?_
 have J1 : ∀ b ∈ [J], s5.heap.get? b = none := fun b hb => by rw [List.mem_singleton.mp hb, hJ]; exact get?_ge (Nat.le_refl _)
 obtain ⟨I6, k6⟩ := I5.into (wr := [J]) X6 J1 (fun b hb => WI.there _ _ st b (WI.sub b hb))
 have hw := (fun {σ : Sig} (_ : Inv C σ ρ4 s5) (h : WS σ [] ((0 : Nat) : Int) ((0 : Nat) : Int) ((0 : Nat) : Int)) => h) I5 ⟨rfl, rfl, rfl, rfl, rfl, rfl⟩
 obtain ⟨σ7, own7, run7, ho7, ws7, self7, len7⟩ := w_run (T := T) raw.cps.toList [] 0 0 0 _ ["count"] hw ⟨rfl, fun y hy => by rw [List.contains_cons]; simp [hy]⟩ (fun c hc => hok c (Array.mem_toList_iff.mp hc)) (by show 0 + raw.cps.toList.length ≤ 900; rw [Array.length_toList]; have : raw.cps.size ≤ 900 := hr; exact adc' ‹_› rfl) (by decide)
 refine for_loop (wr := [J]) (ρ0 := ρ4) (s0 := s5) WI K (fun S f S' hb' => (ss 40).esL (K.with _) hb') (fun b hb => gnone I5 (J1 b hb)) (fun y c e q => by rw [X.cells] at e; cases e) (fun a ha q => ?_) J1 (fun k hk => (nomatch hk)) run7 L4 I6 st k6 (fun b hb q => ?_) (Step.ext I5 X6) fun ρ7 s7 L7 I7 S7 u7 hu7 => ?_
 ·obtain ⟨⟨o, e⟩, _⟩ := I5.old a ha; exact none_ ((J1 a q).symm.trans e)
 ·obtain ⟨o, e⟩ := I5.own' b q; exact none_ ((J1 b hb).symm.trans e)
 have D7 := D1k I5 S7 D5
 have t7 := t5.trans S7.tr
 have s7e : σ7 "self" = some (.r x) := self7.trans h1
 have fs : ρ7.find? (·.name == ("self" : Str)) = none := L7.none (.inl rfl) rfl
 have pl : ∀ {y : Str}, y ≠ "count" → (okName y && isVar (initScope.names.lookup y)) = true → ((wF T).fx ⟨σ7, own7⟩).plain y = true := fun hy h1 => plain_own ho7 hy h1
 generalize hcnt : (wsL raw.cps.toList [] 0 0 0) = R at *
 obtain ⟨cnt, b, nn', nt⟩ := R
 refine wpAny_execs_cons (set_stmt (v := .d (.int nn')) W K X s7e fs I7 D7 (by decide) ((se 6).ee (L7.fx K) (nName (pl (by decide) rfl) ws7.n)) (by decide) rfl fun u8 s8 I8 r8 D8 t8 _ => ?_)
 obtain ⟨k8, rfl⟩ := Rd.int_ r8
 refine wpAny_execs_cons (set_stmt (v := .d (.int nt)) W K X s7e fs I8 D8 (by decide) ((se 6).ee (L7.fx K) (nName (pl (by decide) rfl) ws7.nt)) (by decide) rfl fun u9 s9 I9 r9 D9 t9 _ => ?_)
 obtain ⟨k9, rfl⟩ := Rd.int_ r9
 have hlen : builtD "len" [.list (intsD cnt)] = some (.int cnt.length) := by
  show (if short (intsD cnt).length then some (PyData.int (intsD cnt).length) else none) = _
  rw [if_pos (by rw [intsD_length]; exact decide_eq_true (Nat.le_trans len7 (by decide))), intsD_length]
 have htup : builtD "tuple" [.list (intsD cnt)] = some (.tuple (intsD cnt)) := by
  show (if decide ((intsD cnt).length ≤ 16384) then some (PyData.tuple (intsD cnt)) else none) = _
  rw [if_pos (by rw [intsD_length]; exact decide_eq_true (Nat.le_trans len7 (by decide)))]
 refine wpAny_execs_cons (set_stmt (v := .d (.tuple [.tuple (intsD cnt), .int b])) W K X s7e fs I9 D9 (by decide) ((se 8).ee (L7.fx K) (nTuple (eCons (nBuilt rfl rfl (by decide) (oCons (oOwn (own_is ho7 rfl) ws7.count) oNil) htup) (eCons (nName (pl (by decide) rfl) ws7.b) eNil)) rfl)) (by decide) rfl fun ua sa Ia ra Da ta _ => ?_)
 refine wpAny_execs_cons (set_stmt (v := .d (.bool (decide (cnt.length ≤ 1)))) W K X s7e fs Ia Da (by decide) ((se 8).ee (L7.fx K) (nCmp (oE rfl (nBuilt rfl rfl (by decide) (oCons (oOwn (own_is ho7 rfl) ws7.count) oNil) hlen)) (oE rfl (nConst rfl)) (by
  show some (decide ((cnt.length : Int) ≤ 1)) = _
  congr 1; exact decide_eq_decide.mpr (by exact c1I)))) (by decide) rfl fun ub sb Ib rb Db tb kb => ?_)
 obtain rfl := Rd.bool_ rb
 refine wpAny_execs_nil (h sb _ Ib.keep Db ⟨tr, rfl⟩ ⟨k8, rfl⟩ ⟨k9, rfl⟩ ⟨ua, ρ7, rfl, ?_⟩ rfl (fun y hy => ?_) (t7.trans (t8.trans (t9.trans (ta.trans tb)))))
 ·exact Rd.keeps kb ra
 ·have n1 : ∀ z ∈ wsNames, y ≠ z := fun z hz q => hy (q ▸ hz)
  show (if y = "is_simple" then _ else if y = "norm" then _ else if y = "nt" then _ else if y = "n" then _ else if y = "raw" then _ else _) = _
  rw [if_neg (n1 _ (by decide)), if_neg (n1 _ (by decide)), if_neg (n1 _ (by decide)), if_neg (n1 _ (by decide)), if_neg (n1 _ (by decide))]
end
section
open PySem.Calls
theorem ws_spec {G : Gl} {T : Tab} {n : Nat} {fI : Addr} {name qual : Str} (TK : TabOk G T n) (cS : T.cat "Whitespace" "S" = some (.str " ")) (cT : T.cat "Whitespace" "T" = some (.str "\t")) (W : WsCls G) (M : WsMk G fI name qual) :
  FnSpec G (n + 1) (.ref G.ws) mkWs := fun A H s us l v Q E e lv gd bare hH ra h => by
 refine bndE e fun v0 h1 e => bndE e fun p h2 e => bndE e fun x h3 e => ifE e fun hc e => ?_
 rw [one_ h1, data_ h2, strV_ h3] at ra
 obtain rfl := sm_ e
 clear h1 h2 h3
 refine ra.oneE fun u r0 => ?_
 obtain ⟨t, rfl⟩ := Rd.str_ r0
 have hlen : x.length ≤ 900 := of_decide_eq_true (and2 hc).1
 have hok : ∀ c ∈ x.cps, c < 0x110000 := fun c hc' => of_decide_eq_true (Array.all_eq_true_iff_forall_mem.mp (and2 hc).2 c hc')
 obtain ⟨hp, g, d, tk, os⟩ := s
 refine wpAny_call (make_core (makes_of gd.kin M.makes) (looks_findIn gd.kin M.init) (fun self => bind_fn gd.kin self M.fn) (.inl rfl) ?_)
 have gets : ∀ b o, hp.get? b = some o → ((hp.push emptyDict).push (instObj G.ws hp.objs.size)).get? b = some o := fun b o e => Heap.get?_push_of_some _ (Heap.get?_push_of_some _ e)
 have hz : (hp.push emptyDict).objs.size = hp.objs.size + 1 := Heap.size_push ..
 have gx : ((hp.push emptyDict).push (instObj G.ws hp.objs.size)).get? (hp.objs.size + 1) = some (instObj G.ws hp.objs.size) := by rw [← hz]; exact Heap.get?_push_size _ rfl
 have gdx : ((hp.push emptyDict).push (instObj G.ws hp.objs.size)).get? hp.objs.size = some emptyDict := Heap.get?_push_of_some _ (Heap.get?_push_size _ rfl)
 have old : ∀ b o, hp.get? b = some o → b ≠ hp.objs.size ∧ b ≠ hp.objs.size + 1 := fun b o e => by
  have := Heap.lt_size e
  exact ⟨fun q => by rw [q] at this; exact Nat.lt_irrefl _ this, fun q => by rw [q] at this; exact absurd this (Nat.not_lt.mpr (Nat.le_succ _))⟩
 have h2z : ((hp.push emptyDict).push (instObj G.ws hp.objs.size)).objs.size = hp.objs.size + 2 := by rw [Heap.size_push, hz]
 clear hz
 generalize (hp.push emptyDict).push (instObj G.ws hp.objs.size) = h2 at *
 have gd0 : Gd G h2 := gd.keeps gets
 have ra0 : RdXs G (hideAll h2 ((hp.objs.size + 1) :: hp.objs.size :: H)) [.ref (hp.objs.size + 1), .str x t] [.r (hp.objs.size + 1), .d (.str x)] := .cons rfl (.cons (Rd.str _ _) .nil)
 have hH0 : ∀ a ∈ (hp.objs.size + 1) :: hp.objs.size :: H, ∃ o, h2.get? a = some o := fun a ha => by
  rcases List.mem_cons.mp ha with q | ha
  ·rw [q]; exact ⟨_, gx⟩
  ·rcases List.mem_cons.mp ha with q | ha
   ·rw [q]; exact ⟨_, gdx⟩
   ·obtain ⟨o, e⟩ := hH a ha; exact ⟨o, gets a o e⟩
 refine def_enter (n := n) (s := ⟨h2, g, d, tk, os⟩) M.D (by have := lv.depth; show A.depth + 1 < 1000; lia) (fun env => ⟨lv.hh, by have := lv.depth; show A.depth + 1 + 1 + 20 * n < 900; lia, by have := lv.units; show A.units + 1 + 3 + 200 * n + 200 < 9000; lia⟩) gd0 bare hH0 ra0 rfl fun env s1 K I fresh keep same hL hcells E' => ?_
 have hLe : env.locals = hp.objs.size + 2 := by rw [hL]; exact h2z
 have cells : env.cells = [] := hcells
 have gno : (hideAll h2 [hp.objs.size]).get? hp.objs.size = none := hideAll_none _ (.head _)
 have gof : ∀ b o, hp.get? b = some o → (hideAll h2 [hp.objs.size]).get? b = some o := fun b o e => hideAll_get _ (gets b o e) fun q => (old b o e).1 (List.mem_singleton.mp q)
 have gd2 : Gd G (hideAll h2 [hp.objs.size]) := gd.keeps gof
 have I2 := I.lessg (g := hideAll h2 [hp.objs.size]) (fun b o e => of_hideAll _ e) gd2
 have K2 := (K T ["count"] [] TK).lessg (g := hideAll h2 [hp.objs.size])
 have X2 : IxOk ⟨G, (A.under (.builtin "type.__call__" ⟨[.ref G.ws, .str x t], []⟩)).deeper env, env, env.cells, (hp.objs.size + 1) :: hp.objs.size :: H, hideAll h2 [hp.objs.size]⟩ (hp.objs.size + 1) hp.objs.size := by
  refine ⟨.tail _ (.head _), gno, hideAll_get _ gx fun q => Nat.succ_ne_self _ (List.mem_singleton.mp q), cells, cells, ?_, fun b hb => ?_⟩
  ·show hp.objs.size < env.locals
   rw [hLe]; exact Nat.lt_succ_of_lt (Nat.lt_succ_self _)
  ·obtain ⟨o, e⟩ := lookup_of_mem hb
   exact Heap.lt_size (gd.kin _ _ e)
 refine init_walk (s0 := s1) W K2 X2 cS cT hlen hok rfl rfl I2 ⟨[], 0, keep _ _ gdx, fun y => rfl, fun e he => (nomatch he), Nat.le_refl _⟩ .refl fun s' f kf D1 f1 f2 f3 f4 f5 f6 tr => ?_
 have fx : s'.heap.get? (hp.objs.size + 1) = some (instObj G.ws hp.objs.size) := kf _ _ X2.gx
 obtain ⟨es, m, d1, d2, d3, d4⟩ := D1.it
 obtain ⟨vn, ρ', f4, r4⟩ := f4
 have nH : ∀ a ∈ H, a ≠ hp.objs.size ∧ a ≠ hp.objs.size + 1 := fun a ha => by obtain ⟨o, e⟩ := hH a ha; exact old a o e
 show Value.none = .none ∧ Q (.ref (hp.objs.size + 1)) s'
 refine ⟨rfl, h (.ref (hp.objs.size + 1)) s' ⟨fun b o e => kf b o (gof b o e), tr.os.trans same.1, fun k z e => tr.gens k z (same.2 ▸ e), fun hb => tr.bare (same.2 ▸ hb)⟩ ?_⟩
 show WsAt G _ _ x (wsL x.cps.toList [] 0 0 0).2.2.1 (wsL x.cps.toList [] 0 0 0).2.2.2 (wsL x.cps.toList [] 0 0 0).1 (wsL x.cps.toList [] 0 0 0).2.1 (decide ((wsL x.cps.toList [] 0 0 0).1.length ≤ 1))
 refine ⟨⟨_, _, es, m, vn, rfl, hideAll_get _ fx fun q => (nH _ q).2 rfl, hideAll_get _ d1 fun q => (nH _ q).1 rfl, ?_, ?_, ?_, by rw [d2, f4], r4.keeps (keeps_hide_sub fun b o m e => ⟨fun q => m (List.mem_append_right _ (.tail _ (List.mem_append_right _ (.tail _ (.tail _ q))))), e⟩), by rw [d2, f5], fun y hy => by rw [d2, f6 y hy]⟩⟩
 ·obtain ⟨t, q⟩ := f1; exact ⟨t, by rw [d2, q]⟩
 ·obtain ⟨t, q⟩ := f2; exact ⟨t, by rw [d2, q]⟩
 ·obtain ⟨t, q⟩ := f3; exact ⟨t, by rw [d2, q]⟩
end
section
open PySem.Calls
theorem ws_attr {G : Gl} (W : WsCls G) {A : Around} {E : Value → Shared → Prop} {s : Shared} {ov : Value} {h : Heap} {raw : Str} {i nt : Int} {cnt : List Int} {tr : Int} {sm : Bool} {a : Str} {p : PyData} {Q : Value → Shared → Prop} (gd : Gd G s.heap) (k : Keeps h s.heap)
  (x : WsAt G h ov raw i nt cnt tr sm) (e : attrX (.w raw i nt cnt tr sm) a = some p) (hQ : ∀ u k, Rd h u p → Q u { s with toks := k }) : wpAny (model G.prog G.w) A (getAttr ov a true) Q E s := by
 obtain ⟨y, dx, es, m, vn, rfl, h1, h2, ⟨t1, r1⟩, ⟨t2, r2⟩, ⟨t3, r3⟩, r4, r5, r6, r7⟩ := x.it
 have go : ∀ {v : Value}, a ∈ wsNames → getL a es = some (some v) → handedIn v = true → Rd h v p → wpAny (model G.prog G.w) A (getAttr (.ref y) a true) Q E s := fun hn hl hv rd =>
  inst_get W gd (k _ _ h1) (k _ _ h2) hn hl hv (hQ _ _ rd)
 unfold attrX at e
 dsimp only at e
 split at e
 ·rename_i q; subst q; obtain rfl := sm_ e; exact go (by decide) r1 rfl (.str _ _)
 split at e
 ·rename_i q; subst q; obtain rfl := sm_ e; exact go (by decide) r2 rfl (.int _ _)
 split at e
 ·rename_i q; subst q; obtain rfl := sm_ e; exact go (by decide) r3 rfl (.int _ _)
 split at e
 ·rename_i q; subst q; obtain rfl := sm_ e; exact go (by decide) r4 (by obtain ⟨b, _, _, rfl, _⟩ := r5.tuple_; rfl) r5
 split at e
 ·rename_i q; subst q; obtain rfl := sm_ e; exact go (by decide) r6 rfl (.bool _)
 ·exact none_ e
theorem ws_method {G : Gl} (W : WsCls G) {A : Around} {E : Value → Shared → Prop} {s : Shared} {pl : Sem Bool} {ov : Value} {h : Heap} {raw : Str} {i nt : Int} {cnt : List Int} {tr : Int} {sm : Bool} {m : Str} {f : Addr} {Q : Value × List Value → Shared → Prop} (gd : Gd G s.heap) (k : Keeps h s.heap)
  (x : WsAt G h ov raw i nt cnt tr sm) (hm : m ∉ wsNames) (hf : findIn G.K (.ref G.ws) m = some (some (.ref f))) (ht : isFn G.K (.ref f) = true) (hQ : Q (.ref f, [ov]) s) : wpAny (model G.prog G.w) A (getMethod ov m pl) Q E s := by
 obtain ⟨y, dx, es, n, vn, rfl, h1, h2, _, _, _, _, _, _, r7⟩ := x.it
 exact method_fn (od := some (dictOf es n)) gd.kin ⟨k _ _ h1, rfl, rfl, k _ _ h2⟩ (plainGet_of (W.get m)).1 (plainGet_of (W.get m)).2 hf (beq_iff_eq.mp ht) (by show (lookIn m (dictOf es n)).map _ = _; rw [lookIn_dict, r7 m hm]; rfl) hQ
end
section
open PySem.Sre
theorem runFor_done {m : M} (h : m.outcome.isSome = true) : ∀ k, M.runFor k m = m
 | 0 => rfl
 | k + 1 => by unfold M.runFor; rw [if_pos h]
theorem runFor_succ {m : M} (h : m.outcome = none) (k : Nat) : M.runFor (k + 1) m = M.runFor k m.step := by
 rw [M.runFor, h]; rfl
theorem runFor_add (a b : Nat) (m : M) : M.runFor (a + b) m = M.runFor b (M.runFor a m) := by
 induction a generalizing m with
 | zero => rw [Nat.zero_add]; rfl
 | succ a ih =>
  by_cases h : m.outcome.isSome = true
  ·rw [runFor_done h, runFor_done h, runFor_done h]
  ·have h : m.outcome = none := by simpa using h
   rw [Nat.succ_add, runFor_succ h, runFor_succ h, ih]
noncomputable def Reach (b : Nat) (m m' : M) : Prop := ∃ k, k ≤ b ∧ M.runFor k m = m'
theorem Reach.refl {m : M} {b : Nat} : Reach b m m := ⟨0, Nat.zero_le _, rfl⟩
theorem Reach.trans {a b : Nat} {m m' m'' : M} (x : Reach a m m') (y : Reach b m' m'') : Reach (a + b) m m'' := by
 obtain ⟨k, hk, e⟩ := x
 obtain ⟨l, hl, e'⟩ := y
 exact ⟨k + l, by lia, by rw [runFor_add, e, e']⟩
theorem Reach.step {b : Nat} {m m' m'' : M} (h : m.outcome = none) (e : m.step = m') (x : Reach b m' m'') : Reach (b + 1) m m'' := by
 obtain ⟨k, hk, e'⟩ := x
 exact ⟨k + 1, by exact Nat.lt_succ_of_le ‹_›, by rw [runFor_succ h, e, e']⟩
theorem Reach.mono {a b : Nat} {m m' : M} (h : a ≤ b) (x : Reach a m m') : Reach b m m' := let ⟨k, hk, e⟩ := x; ⟨k, by exact Nat.le_trans ‹_› ‹_›, e⟩
noncomputable def c1 : Array Nat := #[14, 4, 0, 1, 1, 6, 1, 16, 46, 1]
noncomputable def c2 : Array Nat := #[14, 9, 4, 1, 2, 16, 10, 16, 13, 0, 7, 7, 16, 13, 16, 10, 15, 18, 5, 16, 10, 15, 13, 11, 16, 13, 5, 5, 0, 16, 10, 1, 15, 2, 0, 1]
noncomputable def at1 (text : Array Nat) (s : Nat) (out : Bool) (seen : Sre.Seen) : M :=
 { code := c1, text, lim := text.size, start := s, lastStart := text.size, pc := 5, pos := s, handed := s, outermost := out, marks := #[], frames := [{ wait := .nextStart, pc := 5, pos := s, outermost := out }], weight := 1, seen }
noncomputable def hit1 (text : Array Nat) (s : Nat) : Bool := (s == 0 || text.getD (s - 1) 0 == 10) && decide (s < text.size) && text.getD s 0 == 46
noncomputable def at1b (text : Array Nat) (s : Nat) (out : Bool) (seen : Sre.Seen) : M := { at1 text s out seen with pc := 7 }
noncomputable def say1 (m : M) (b : Bool) : M := { m with answer := some b }
theorem at1_step {text : Array Nat} {s : Nat} {out : Bool} {seen : Sre.Seen} : (at1 text s out seen).step = if (s == 0 || text.getD (s - 1) 0 == 10) = true then at1b text s out ((seen.add 6).add 44) else say1 (at1 text s out ((seen.add 6).add 44)) false := rfl
theorem at1b_step {text : Array Nat} {s : Nat} {out : Bool} {seen : Sre.Seen} (hs : s < text.size) : (at1b text s out seen).step = if (text.getD s 0 == 46) = true then { at1 text s out (seen.add 16) with pc := 9, pos := s + 1 } else say1 (at1b text s out (seen.add 16)) false := by
 have e : (at1b text s out seen).step = if s ≥ text.size then say1 (at1b text s out (seen.add 16)) false else (match accepts c1 7 (text.getD s 0) (seen.add 16) with
  | .error why => ({ at1b text s out (seen.add 16) with outcome := some (.stuck why) } : M)
  | .ok (false, seen) => say1 (at1b text s out seen) false
  | .ok (true, seen) => { at1b text s out seen with pc := 9, pos := s + 1 }) := rfl
 rw [e, if_neg (by exact Nat.not_le.mpr ‹_›)]
 have e2 : accepts c1 7 (text.getD s 0) (seen.add 16) = .ok (text.getD s 0 == 46, seen.add 16) := rfl
 rw [e2]
 cases text.getD s 0 == 46 <;> rfl
theorem at1b_end {text : Array Nat} {s : Nat} {out : Bool} {seen : Sre.Seen} (hs : text.size ≤ s) : (at1b text s out seen).step = say1 (at1b text s out (seen.add 16)) false := by
 have e : (at1b text s out seen).step = if s ≥ text.size then say1 (at1b text s out (seen.add 16)) false else (match accepts c1 7 (text.getD s 0) (seen.add 16) with
  | .error why => ({ at1b text s out (seen.add 16) with outcome := some (.stuck why) } : M)
  | .ok (false, seen) => say1 (at1b text s out seen) false
  | .ok (true, seen) => { at1b text s out seen with pc := 9, pos := s + 1 }) := rfl
 rw [e, if_pos hs]
theorem next1 {text : Array Nat} {s : Nat} {out : Bool} {seen : Sre.Seen} {pc : Nat} (hs : s < text.size) : ({ at1 text s out seen with pc := pc, answer := some false } : M).step = at1 text (s + 1) false seen := by
 have e : ({ at1 text s out seen with pc := pc, answer := some false } : M).step = if s < text.size then at1 text (s + 1) false seen else { at1 text s out seen with frames := [], weight := 0, answer := some false } := rfl
 rw [e, if_pos hs]
theorem last1 {text : Array Nat} {s : Nat} {out : Bool} {seen : Sre.Seen} {pc : Nat} (hs : text.size ≤ s) : ({ at1 text s out seen with pc := pc, answer := some false } : M).step = { at1 text s out seen with frames := [], weight := 0, answer := some false } := by
 have e : ({ at1 text s out seen with pc := pc, answer := some false } : M).step = if s < text.size then at1 text (s + 1) false seen else { at1 text s out seen with frames := [], weight := 0, answer := some false } := rfl
 rw [e, if_neg (by exact Nat.not_lt.mpr ‹_›)]
structure Ends (b : Nat) (m : M) (r : Option (Nat × Nat)) : Prop where
 it : ∃ m', Reach b m m' ∧ match r with
  | none => m'.outcome = some .failed
  | some (i, j) => m'.outcome = some .matched ∧ m'.start = i ∧ m'.handed = j
theorem Ends.of {a b : Nat} {m m' : M} {r : Option (Nat × Nat)} (x : Reach a m m') (y : Ends b m' r) : Ends (a + b) m r := by
 obtain ⟨m'', z, e⟩ := y.it
 exact ⟨m'', x.trans z, e⟩
theorem miss1 {text : Array Nat} {s : Nat} {out : Bool} {seen : Sre.Seen} (h : hit1 text s = false) (hs : s < text.size) : ∃ seen', Reach 3 (at1 text s out seen) (at1 text (s + 1) false seen') := by
 by_cases h1 : (s == 0 || text.getD (s - 1) 0 == 10) = true
 ·have h2 : ¬(text.getD s 0 == 46) = true := fun q => by
   delta hit1 at h
   rw [h1, q] at h
   simp [hs] at h
  exact ⟨_, Reach.step rfl (at1_step.trans (if_pos h1)) (Reach.step rfl ((at1b_step hs).trans (if_neg h2)) (Reach.step (b := 0) rfl (next1 hs) .refl))⟩
 ·exact ⟨_, Reach.mono (a := 2) (by exact Nat.le_succ _) (Reach.step rfl (at1_step.trans (if_neg h1)) (Reach.step (b := 0) rfl (next1 hs) .refl))⟩
theorem found1 {text : Array Nat} {s : Nat} {out : Bool} {seen : Sre.Seen} (h : hit1 text s = true) : Ends 5 (at1 text s out seen) (some (s, s + 1)) := by
 unfold hit1 at h
 rw [Bool.and_eq_true, Bool.and_eq_true] at h
 obtain ⟨⟨h1, hs⟩, h2⟩ := h
 have hs := of_decide_eq_true hs
 refine ⟨_, Reach.step rfl (at1_step.trans (if_pos h1)) (Reach.step rfl ((at1b_step hs).trans (if_pos h2)) (Reach.step (b := 2) (m' := { at1 text s out ((((seen.add 6).add 44).add 16).add 1) with pc := 9, pos := s + 1, handed := s + 1, answer := some true }) rfl ?_ (Reach.step (b := 1) (m' := { at1 text s out ((((seen.add 6).add 44).add 16).add 1) with handed := s + 1, frames := [], weight := 0, answer := some true }) rfl rfl (Reach.step (b := 0) rfl rfl .refl)))), rfl, rfl, rfl⟩
 cases out <;> rfl
theorem none1 {text : Array Nat} {s : Nat} {out : Bool} {seen : Sre.Seen} (hs : text.size ≤ s) : Ends 4 (at1 text s out seen) none := by
 by_cases h1 : (s == 0 || text.getD (s - 1) 0 == 10) = true
 ·exact ⟨_, Reach.step rfl (at1_step.trans (if_pos h1)) (Reach.step rfl (at1b_end hs) (Reach.step rfl (last1 hs) (Reach.step (b := 0) rfl rfl .refl))), rfl⟩
 ·exact ⟨_, Reach.mono (a := 3) (by exact Nat.le_succ _) (Reach.step rfl (at1_step.trans (if_neg h1)) (Reach.step rfl (last1 hs) (Reach.step (b := 0) rfl rfl .refl))), rfl⟩
noncomputable def first1 (text : Array Nat) : Nat → Nat → Option (Nat × Nat)
 | 0, _ => none
 | k + 1, s => if hit1 text s then some (s, s + 1) else first1 text k (s + 1)
theorem ends1 {text : Array Nat} : ∀ (k s : Nat) {out : Bool} {seen : Sre.Seen}, s + k = text.size → Ends (3 * k + 5) (at1 text s out seen) (first1 text k s)
 | 0, s, out, seen, h => by
  obtain ⟨m, a, b⟩ := (none1 (out := out) (seen := seen) (show text.size ≤ s by exact Nat.le_of_eq (Eq.symm ‹_›))).it
  exact ⟨m, a.mono (by exact Nat.le_succ _), b⟩
 | k + 1, s, out, seen, h => by
  unfold first1
  by_cases q : hit1 text s = true
  ·rw [if_pos q]
   obtain ⟨m, a, b⟩ := (found1 (out := out) (seen := seen) q).it
   exact ⟨m, a.mono (by exact Nat.le_add_left _ _), b⟩
  ·rw [if_neg q]
   obtain ⟨seen', r⟩ := miss1 (out := out) (seen := seen) (by simpa using q) (show s < text.size by lia)
   obtain ⟨m, a, b⟩ := (Ends.of r (ends1 k (s + 1) (out := false) (seen := seen') (by lia))).it
   exact ⟨m, a.mono (by lia), b⟩
theorem search1 {text : Array Nat} {s : Nat} (hs : s ≤ text.size) : Ends (3 * text.size + 6) (forSearch c1 text 0 s text.size false) (first1 text (text.size - s) s) := by
 by_cases h : text.size - s < 1
 ·have e : text.size - s = 0 := by lia
  have : forSearch c1 text 0 s text.size false = say1 { at1 text s true (({} : Sre.Seen).add 14) with lastStart := 0, frames := [], weight := 0 } false := by
   have e : forSearch c1 text 0 s text.size false = if (s > text.size || text.size - s < 1) = true then say1 { at1 text s true (({} : Sre.Seen).add 14) with lastStart := 0, frames := [], weight := 0 } false else at1 text s true (({} : Sre.Seen).add 14) := rfl
   rw [e, if_pos (by simp [h])]
  rw [this, e]
  exact ⟨_, Reach.step (b := 3 * text.size + 5) rfl rfl .refl, rfl⟩
 ·have : forSearch c1 text 0 s text.size false = at1 text s true (({} : Sre.Seen).add 14) := by
   have e : forSearch c1 text 0 s text.size false = if (s > text.size || text.size - s < 1) = true then say1 { at1 text s true (({} : Sre.Seen).add 14) with lastStart := 0, frames := [], weight := 0 } false else at1 text s true (({} : Sre.Seen).add 14) := rfl
   rw [e, if_neg (by simp; lia)]
  rw [this]
  obtain ⟨m, a, b⟩ := (ends1 (text := text) (text.size - s) s (out := true) (seen := ({} : Sre.Seen).add 14) (by exact adS ‹_›)).it
  exact ⟨m, a.mono (by exact m3), b⟩
noncomputable def isEnd (c : Nat) : Bool := c == 10 || c == 13
theorem set2 (c : Nat) (seen : Sre.Seen) : ∃ seen', inSet c2 c c2.size 5 true seen = .ok (isEnd c, seen') := by
 have e : inSet c2 c c2.size 5 true seen = if (c == 10) = true then .ok (true, seen.add 16) else if (c == 13) = true then .ok (true, (seen.add 16).add 16) else .ok (false, ((seen.add 16).add 16).add 0) := rfl
 rw [e]
 delta isEnd
 by_cases h : (c == 10) = true
 ·rw [if_pos h, h]; exact ⟨_, rfl⟩
 ·rw [if_neg h]
  have h : (c == 10) = false := by simpa using h
  by_cases g : (c == 13) = true
  ·rw [if_pos g, h, g]; exact ⟨_, rfl⟩
  ·rw [if_neg g]
   have g : (c == 13) = false := by simpa using g
   rw [h, g]; exact ⟨_, rfl⟩
noncomputable def place2 (text : Array Nat) : Nat → Nat → Option Nat
 | 0, _ => none
 | k + 1, s => if s ≥ text.size then none else if isEnd (text.getD s 0) then some s else place2 text k (s + 1)
theorem admitted2 {m : M} (hc : m.code = c2) (hl : m.lim = m.text.size) : ∀ (k s : Nat) (seen : Sre.Seen), ∃ seen', M.admitted m k s seen = .ok (place2 m.text k s, seen')
 | 0, s, seen => ⟨_, rfl⟩
 | k + 1, s, seen => by
  unfold M.admitted place2
  rw [hl]
  by_cases h : s ≥ m.text.size
  ·rw [if_pos h, if_pos h]; exact ⟨_, rfl⟩
  ·rw [if_neg h, if_neg h, hc]
   obtain ⟨seen', e⟩ := set2 (m.text.getD s 0) seen
   rw [e]
   by_cases q : isEnd (m.text.getD s 0) = true
   ·rw [q, if_pos rfl]; exact ⟨_, rfl⟩
   ·have q : isEnd (m.text.getD s 0) = false := by simpa using q
    rw [q, if_neg (by decide)]
    exact admitted2 hc hl k (s + 1) seen'
noncomputable def f0 (s : Nat) (out : Bool) : Sre.Frame := { wait := .nextStart, pc := 10, pos := s, outermost := out }
noncomputable def at2 (text : Array Nat) (s : Nat) (seen : Sre.Seen) : M :=
 { code := c2, text, lim := text.size, start := s, lastStart := text.size, pc := 10, pos := s, handed := s, outermost := true, marks := #[], frames := [f0 s true], weight := 1, seen }
noncomputable def in2 (text : Array Nat) (s pc pos alt : Nat) (seen : Sre.Seen) : M :=
 { at2 text s seen with pc := pc, pos := pos, frames := [{ wait := .nextBranch, pc := alt, pos := s, outermost := true }, f0 s true], weight := 2 }
theorem br_step {text : Array Nat} {s : Nat} {seen : Sre.Seen} : (at2 text s seen).step = in2 text s 12 s 11 (seen.add 7) := rfl
theorem lit2 {text : Array Nat} {s pc pos alt c : Nat} {seen : Sre.Seen} (hp : pc = 12 ∧ c = 13 ∨ pc = 14 ∧ c = 10 ∨ pc = 19 ∧ c = 10 ∨ pc = 24 ∧ c = 13) : (in2 text s pc pos alt seen).step =
  if (decide (pos < text.size) && text.getD pos 0 == c) = true then in2 text s (pc + 2) (pos + 1) alt (seen.add 16) else say1 (in2 text s pc pos alt (seen.add 16)) false := by
 have main : ∀ r : Except String (Bool × Sre.Seen), r = .ok (text.getD pos 0 == c, seen.add 16) → (if pos ≥ text.size then say1 (in2 text s pc pos alt (seen.add 16)) false else (match r with
  | .error why => ({ in2 text s pc pos alt (seen.add 16) with outcome := some (.stuck why) } : M)
  | .ok (false, seen) => say1 (in2 text s pc pos alt seen) false
  | .ok (true, seen) => in2 text s (pc + 2) (pos + 1) alt seen)) = if (decide (pos < text.size) && text.getD pos 0 == c) = true then in2 text s (pc + 2) (pos + 1) alt (seen.add 16) else say1 (in2 text s pc pos alt (seen.add 16)) false := by
  intro r hr
  subst hr
  by_cases h : pos < text.size
  ·rw [if_neg (by exact Nat.not_le.mpr ‹_›)]
   cases q : text.getD pos 0 == c <;> simp [h, q]
  ·rw [if_pos (by exact Nat.le_of_not_lt ‹_›), if_neg (by simp [h])]
 rcases hp with ⟨rfl, rfl⟩ | ⟨rfl, rfl⟩ | ⟨rfl, rfl⟩ | ⟨rfl, rfl⟩
 ·exact Eq.trans (b := if pos ≥ text.size then say1 (in2 text s 12 pos alt (seen.add 16)) false else (match accepts c2 12 (text.getD pos 0) (seen.add 16) with
  | .error why => ({ in2 text s 12 pos alt (seen.add 16) with outcome := some (.stuck why) } : M)
  | .ok (false, seen) => say1 (in2 text s 12 pos alt seen) false
  | .ok (true, seen) => in2 text s (12 + 2) (pos + 1) alt seen)) rfl (main _ rfl)
 ·exact Eq.trans (b := if pos ≥ text.size then say1 (in2 text s 14 pos alt (seen.add 16)) false else (match accepts c2 14 (text.getD pos 0) (seen.add 16) with
  | .error why => ({ in2 text s 14 pos alt (seen.add 16) with outcome := some (.stuck why) } : M)
  | .ok (false, seen) => say1 (in2 text s 14 pos alt seen) false
  | .ok (true, seen) => in2 text s (14 + 2) (pos + 1) alt seen)) rfl (main _ rfl)
 ·exact Eq.trans (b := if pos ≥ text.size then say1 (in2 text s 19 pos alt (seen.add 16)) false else (match accepts c2 19 (text.getD pos 0) (seen.add 16) with
  | .error why => ({ in2 text s 19 pos alt (seen.add 16) with outcome := some (.stuck why) } : M)
  | .ok (false, seen) => say1 (in2 text s 19 pos alt seen) false
  | .ok (true, seen) => in2 text s (19 + 2) (pos + 1) alt seen)) rfl (main _ rfl)
 ·exact Eq.trans (b := if pos ≥ text.size then say1 (in2 text s 24 pos alt (seen.add 16)) false else (match accepts c2 24 (text.getD pos 0) (seen.add 16) with
  | .error why => ({ in2 text s 24 pos alt (seen.add 16) with outcome := some (.stuck why) } : M)
  | .ok (false, seen) => say1 (in2 text s 24 pos alt seen) false
  | .ok (true, seen) => in2 text s (24 + 2) (pos + 1) alt seen)) rfl (main _ rfl)
theorem fail2a {text : Array Nat} {s pc pos : Nat} {seen : Sre.Seen} : (say1 (in2 text s pc pos 11 seen) false).step = in2 text s 19 s 18 seen := rfl
theorem fail2b {text : Array Nat} {s pc pos : Nat} {seen : Sre.Seen} : (say1 (in2 text s pc pos 18 seen) false).step = in2 text s 24 s 23 seen := rfl
theorem win2 {text : Array Nat} {s pos alt : Nat} {seen : Sre.Seen} : Ends 5 (in2 text s 35 pos alt seen) (some (s, pos)) :=
 ⟨_, Reach.step (m' := say1 { in2 text s 35 pos alt (seen.add 1) with handed := pos } true) rfl rfl (Reach.step (m' := say1 { at2 text s (seen.add 1) with handed := pos, pc := alt } true) rfl rfl (Reach.step (m' := say1 { at2 text s (seen.add 1) with handed := pos, frames := [], weight := 0 } true) rfl rfl (Reach.step (b := 1) rfl rfl .refl))), rfl, rfl, rfl⟩
theorem jump2 {text : Array Nat} {s pc pos alt : Nat} {seen : Sre.Seen} (h : pc = 16 ∨ pc = 21 ∨ pc = 32) : (in2 text s pc pos alt seen).step = in2 text s 35 pos alt (seen.add 15) := by
 rcases h with rfl | rfl | rfl <;> rfl
noncomputable def end2 (text : Array Nat) (s : Nat) : Nat := if (text.getD s 0 == 13 && decide (s + 1 < text.size) && text.getD (s + 1) 0 == 10) = true then s + 2 else s + 1
noncomputable def look2 (text : Array Nat) (s pos : Nat) (seen : Sre.Seen) : M :=
 { in2 text s 29 pos 23 seen with handed := pos, outermost := false, frames := [{ wait := .lookNot, pc := 26, pos := pos, outermost := true }, { wait := .nextBranch, pc := 23, pos := s, outermost := true }, f0 s true], weight := 3 }
theorem to_look {text : Array Nat} {s pos : Nat} {seen : Sre.Seen} : (in2 text s 26 pos 23 seen).step = look2 text s pos (seen.add 5) := rfl
theorem look_step {text : Array Nat} {s pos : Nat} {seen : Sre.Seen} (h : ¬(decide (pos < text.size) && text.getD pos 0 == 10) = true) : (look2 text s pos seen).step = say1 (look2 text s pos (seen.add 16)) false := by
 have main : ∀ r : Except String (Bool × Sre.Seen), r = .ok (text.getD pos 0 == 10, seen.add 16) → (if pos ≥ text.size then say1 (look2 text s pos (seen.add 16)) false else (match r with
  | .error why => ({ look2 text s pos (seen.add 16) with outcome := some (.stuck why) } : M)
  | .ok (false, seen) => say1 (look2 text s pos seen) false
  | .ok (true, seen) => { look2 text s pos seen with pc := 31, pos := pos + 1 })) = say1 (look2 text s pos (seen.add 16)) false := by
  intro r hr
  subst hr
  by_cases g : pos < text.size
  ·rw [if_neg (by exact Nat.not_le.mpr ‹_›)]
   have q : (text.getD pos 0 == 10) = false := by
    cases q : text.getD pos 0 == 10 with
    | false => rfl
    | true => exact absurd (by rw [q]; simp [g]) h
   rw [q]
  ·rw [if_pos (by exact Nat.le_of_not_lt ‹_›)]
 exact Eq.trans (b := if pos ≥ text.size then say1 (look2 text s pos (seen.add 16)) false else (match accepts c2 29 (text.getD pos 0) (seen.add 16) with
  | .error why => ({ look2 text s pos (seen.add 16) with outcome := some (.stuck why) } : M)
  | .ok (false, seen) => say1 (look2 text s pos seen) false
  | .ok (true, seen) => { look2 text s pos seen with pc := 31, pos := pos + 1 })) rfl (main _ rfl)
theorem look_back {text : Array Nat} {s pos : Nat} {seen : Sre.Seen} : ∃ m', (say1 (look2 text s pos seen) false).step = m' ∧ Ends 6 m' (some (s, pos)) := by
 refine ⟨_, rfl, ?_⟩
 exact ⟨_, Reach.step (m' := { in2 text s 35 pos 23 (seen.add 15) with handed := pos }) rfl rfl (Reach.step (m' := say1 { in2 text s 35 pos 23 ((seen.add 15).add 1) with handed := pos } true) rfl rfl (Reach.step (m' := say1 { at2 text s ((seen.add 15).add 1) with handed := pos, pc := 23 } true) rfl rfl (Reach.step (m' := say1 { at2 text s ((seen.add 15).add 1) with handed := pos, frames := [], weight := 0 } true) rfl rfl (Reach.step (b := 1) rfl rfl .refl)))), rfl, rfl, rfl⟩
theorem found2 {text : Array Nat} {s : Nat} {seen : Sre.Seen} (hs : s < text.size) (h : isEnd (text.getD s 0) = true) : Ends 20 (at2 text s seen) (some (s, end2 text s)) := by
 have one : ∀ {r : Option (Nat × Nat)} {b : Nat}, (∃ m', Reach b (at2 text s seen) m' ∧ Ends (20 - b) m' r) → b ≤ 20 → Ends 20 (at2 text s seen) r := fun {r b} ⟨m', a, e⟩ hb => by
  obtain ⟨m, x, y⟩ := (Ends.of a e).it
  exact ⟨m, x.mono (by exact adL ‹_›), y⟩
 have more : ∀ {a b : Nat} {m : M} {r : Option (Nat × Nat)}, a ≤ b → Ends a m r → Ends b m r := fun {a b m r} hab e => let ⟨m', x, y⟩ := e.it; ⟨m', x.mono hab, y⟩
 by_cases h13 : (text.getD s 0 == 13) = true
 ·have c13 : (decide (s < text.size) && text.getD s 0 == 13) = true := by rw [h13]; simp [hs]
  by_cases h2 : (decide (s + 1 < text.size) && text.getD (s + 1) 0 == 10) = true
  ·have he : end2 text s = s + 2 := by delta end2; rw [if_pos]; rw [h13, Bool.true_and]; exact h2
   rw [he]
   refine one (b := 4) ⟨_, Reach.step rfl br_step (Reach.step rfl ((lit2 (by decide)).trans (if_pos c13)) (Reach.step rfl ((lit2 (by decide)).trans (if_pos h2)) (Reach.step (b := 0) rfl (jump2 (by decide)) .refl))), more (by exact Nat.le_add_left _ _) win2⟩ (by exact Nat.le_add_left _ _)
  ·have he : end2 text s = s + 1 := by delta end2; rw [if_neg]; rw [h13, Bool.true_and]; exact h2
   rw [he]
   have n10 : ¬(decide (s < text.size) && text.getD s 0 == 10) = true := by
    have : text.getD s 0 = 13 := eq_of_beq h13
    rw [this]; simp
   obtain ⟨m', e1, e2⟩ := look_back (text := text) (s := s) (pos := s + 1) (seen := ((((((seen.add 7).add 16).add 16).add 16).add 16).add 5).add 16)
   refine one (b := 10) ⟨_, Reach.step rfl br_step (Reach.step rfl ((lit2 (by decide)).trans (if_pos c13)) (Reach.step rfl ((lit2 (by decide)).trans (if_neg h2)) (Reach.step rfl fail2a (Reach.step rfl ((lit2 (by decide)).trans (if_neg n10)) (Reach.step rfl fail2b (Reach.step rfl ((lit2 (by decide)).trans (if_pos c13)) (Reach.step rfl to_look (Reach.step rfl (look_step h2) (Reach.step (b := 0) rfl e1 .refl))))))))), more (by exact Nat.le_add_left _ _) e2⟩ (by exact Nat.le_add_left _ _)
 ·have h10 : (text.getD s 0 == 10) = true := by
   delta isEnd at h
   rcases Bool.or_eq_true_iff.mp h with q | q
   ·exact q
   ·exact absurd q h13
  have n13 : ¬(decide (s < text.size) && text.getD s 0 == 13) = true := fun q => h13 (Bool.and_eq_true_iff.mp q).2
  have c10 : (decide (s < text.size) && text.getD s 0 == 10) = true := by rw [h10]; simp [hs]
  have he : end2 text s = s + 1 := by
   delta end2; rw [if_neg]; intro q
   exact h13 (Bool.and_eq_true_iff.mp (Bool.and_eq_true_iff.mp q).1).1
  rw [he]
  refine one (b := 5) ⟨_, Reach.step rfl br_step (Reach.step rfl ((lit2 (by decide)).trans (if_neg n13)) (Reach.step rfl fail2a (Reach.step rfl ((lit2 (by decide)).trans (if_pos c10)) (Reach.step (b := 0) rfl (jump2 (by decide)) .refl)))), more (by exact Nat.le_add_left _ _) win2⟩ (by exact Nat.le_add_left _ _)
theorem place_lt {text : Array Nat} : ∀ {k s i : Nat}, place2 text k s = some i → i < text.size ∧ isEnd (text.getD i 0) = true
 | 0, s, i, h => by cases h
 | k + 1, s, i, h => by
  unfold place2 at h
  split at h
  ·cases h
  ·rename_i hs
   split at h
   ·rename_i q; cases h; exact ⟨by exact Nat.lt_of_not_le ‹_›, q⟩
   ·exact place_lt h
theorem search2 {text : Array Nat} {s : Nat} (hs : s ≤ text.size) : Ends 20 (forSearch c2 text 0 s text.size false) ((place2 text (text.size + 1 - s) s).map fun i => (i, end2 text i)) := by
 let m0 : M := { at2 text s (({} : Sre.Seen).add 14) with frames := [], weight := 0 }
 have e : forSearch c2 text 0 s text.size false = if (s > text.size || text.size - s < 1) = true then say1 { m0 with lastStart := 0 } false else m0.attemptFrom s true := rfl
 by_cases h : text.size - s < 1
 ·rw [e, if_pos (by simp [h])]
  have : place2 text (text.size + 1 - s) s = none := by
   have : text.size + 1 - s = 1 := by exact sbO ‹_› ‹_›
   rw [this]
   unfold place2
   rw [if_pos (by exact sbO' ‹_›)]
  rw [this]
  exact ⟨_, Reach.step (b := 19) rfl rfl .refl, rfl⟩
 ·rw [e, if_neg (by simp; lia)]
  obtain ⟨seen', ea⟩ := admitted2 (m := m0) rfl rfl (text.size + 1 - s) s m0.seen
  have e2 : m0.attemptFrom s true = (match M.admitted m0 (text.size + 1 - s) s m0.seen with
   | .ok (some i, seen) => at2 text i seen
   | .ok (none, seen) => say1 { m0 with seen } false
   | .error why => { m0 with outcome := some (.stuck why) }) := rfl
  rw [e2, ea]
  cases q : place2 text (text.size + 1 - s) s with
  | none =>
   have : place2 m0.text (text.size + 1 - s) s = none := q
   rw [this]
   exact ⟨_, Reach.step (b := 19) rfl rfl .refl, rfl⟩
  | some i =>
   have : place2 m0.text (text.size + 1 - s) s = some i := q
   rw [this]
   obtain ⟨h1, h2⟩ := place_lt q
   exact found2 h1 h2
end
section
open PySem.Calls PySem.Builtin PySem.Builtin.Re
namespace RF
theorem plain_loop : plainId "re.Pattern.sub.loop" = true := by decide +kernel
theorem entry_loop : entryFor table "re.Pattern.sub.loop" = some Builtin.«re.Pattern.sub.loop» := entryFor_of_fast (by kernel_rfl)
theorem entry_sub : entryFor table "re.Pattern.sub" = some Builtin.«re.Pattern.sub» := entryFor_of_tree (by kernel_rfl)
theorem plain_sub : plainId "re.Pattern.sub" = true := by decide +kernel
theorem slot_sub : Slot "re.Pattern" "sub" "re.Pattern.sub" :=
 .of (owner := "re.Pattern") (n := "sub") (by rw [typeLookup_type, builtinLookup_eq_fast]; kernel_rfl) (by decide +kernel) (by decide +kernel) (by decide +kernel)
  (by first | exact .inl (by decide +kernel) | exact .inr (by decide +kernel)) (by rw [isSubtype_type]; kernel_rfl)
theorem type_sub : typeOf (.builtin "re.Pattern.sub") = pure (.type "method_descriptor") := by show builtinType _ = _; rw [builtinType_eq_fast]; kernel_rfl
end RF
section
variable {M : Model} {A : Around} {E : Value → Shared → Prop} {s : Shared}
theorem drive {m' : Sre.M} {Q : Sre.M → Shared → Prop} (ho : m'.outcome.isSome = true) (hq : Q m' s) : ∀ (t k : Nat) (m : Sre.M), m.outcome = none → k ≤ 4 * t → Sre.M.runFor k m = m' → wpAny M A (reDrive t m) Q E s
 | 0, k, m, h, hk, e => by
  have : k = 0 := by exact Nat.eq_zero_of_le_zero ‹_›
  subst this
  have e : m = m' := e
  subst e
  rw [h] at ho; cases ho
 | t + 1, k, m, h, hk, e => by
  unfold reDrive
  show wpAny M A (if (m.runFor 4).outcome.isSome then pure (m.runFor 4) else do rule "sre.turn"; reDrive t (m.runFor 4)) Q E s
  by_cases q : (m.runFor 4).outcome.isSome = true
  ·rw [if_pos q]
   have : m.runFor 4 = m' := by
    rcases Nat.le_total k 4 with z | z
    ·have : (4 : Nat) = k + (4 - k) := by exact adS' ‹_›
     rw [this, runFor_add, e, runFor_done ho]
    ·have : k = 4 + (k - 4) := by exact adS' ‹_›
     rw [this, runFor_add, runFor_done q] at e
     exact e
   exact this ▸ (wpAny_pure hq)
  ·rw [if_neg q]
   have q : (m.runFor 4).outcome = none := by simpa using q
   have hk4 : 4 ≤ k := by
    rcases Nat.le_total k 4 with z | z
    ·have e4 : m.runFor 4 = m' := by
      have : (4 : Nat) = k + (4 - k) := by exact adS' ‹_›
      rw [this, runFor_add, e, runFor_done ho]
     rw [e4] at q; rw [q] at ho; cases ho
    ·exact z
   refine wpAny_bind (wpAny_rule (drive ho hq t (k - 4) _ q (by exact Nat.sub_le_of_le_add ‹_›) ?_))
   have : k = 4 + (k - 4) := by exact adS' ‹_›
   rw [this, runFor_add] at e
   exact e
theorem wpAny_rules {c : Nat → Bool} {r : Nat → String} {f : Nat → PUnit → Sem (ForInStep PUnit)} (hf : ∀ i u, f i u = if c i = true then (do rule (r i); pure (ForInStep.yield PUnit.unit)) else pure (ForInStep.yield PUnit.unit)) {Q : PUnit → Shared → Prop} (h : Q ⟨⟩ s) : ∀ l : List Nat, wpAny M A (forIn l PUnit.unit f : Sem PUnit) Q E s
 | [] => wpAny_pure h
 | i :: l => by
  rw [List.forIn_cons, hf]
  refine wpAny_bind ?_
  by_cases q : c i = true
  ·exact (if_pos q) ▸ (wpAny_bind (wpAny_rule (wpAny_pure (wpAny_rules hf h l))))
  ·exact (if_neg q) ▸ (wpAny_pure (wpAny_rules hf h l))
theorem run_end {b : Nat} {m : Sre.M} {r : Option (Nat × Nat)} {Q : Option Sre.M → Shared → Prop} (h : Ends b m r) (hm : m.outcome = none) (hb : b ≤ 2 ^ 60) (hq : match r with
  | none => Q none s
  | some (i, j) => ∀ m', m'.start = i → m'.handed = j → Q (some m') s) : wpAny M A (reRunToEnd m) Q E s := by
 obtain ⟨m', ⟨k, hk, e⟩, hr⟩ := h.it
 delta reRunToEnd
 have ho : m'.outcome.isSome = true := by
  cases r with
  | none => exact hr ▸ rfl
  | some ij => exact hr.1 ▸ rfl
 refine wpAny_bind (drive ho ?_ (2 ^ 64) k m hm (by exact le2 ‹_› ‹_› rfl) e)
 refine wpAny_bind (wpAny_rules (c := fun i => m'.seen.has i) (r := fun i => Sre.names.getD i "") (fun i u => rfl) ?_ _)
 cases r with
 | none => exact hr ▸ (wpAny_pure hq)
 | some ij =>
  obtain ⟨i, j⟩ := ij
  obtain ⟨h1, h2, h3⟩ := hr
  exact h1 ▸ (wpAny_pure (hq m' h2 h3))
end
end
section
open PySem.Calls PySem.Builtin PySem.Builtin.Re
structure PatAt (h : Heap) (P : Addr) (code : Array Nat) : Prop where
 it : ∃ (o : Obj) (vs : Array Value) (T : Addr) (oT : Obj) (items : Array Value) (n : Nat), h.get? P = some o ∧ o.cls = .type "re.Pattern" ∧ o.dict = none ∧ o.data = .fields vs ∧ vs.getD 5 .none = .ref T ∧ h.get? T = some oT ∧ oT.data = .seq items n ∧
  (items.map reRawOf).map (·.toNat) = code ∧ reRawNat (vs.getD 2 .none) = 0 ∧ reRawNat (vs.getD 6 .none) = 0
theorem PatAt.at' {h h' : Heap} {P : Addr} {code : Array Nat} (x : PatAt h P code) (k : Keeps h h') : PatAt h' P code := by
 obtain ⟨o, vs, T, oT, items, n, h1, c1, d1, h2, h3, h4, h5, h6⟩ := x.it
 exact ⟨o, vs, T, oT, items, n, k _ _ h1, c1, d1, h2, h3, k _ _ h4, h5, h6⟩
noncomputable def tgt (P : Addr) (x : Str) (t : Tok) (code : Array Nat) : ReTarget := { pattern := .ref P, string := .str x t, code, text := x.cps, kind := 0, groups := 0, pos := 0, lim := x.cps.size }
section
variable {M : Model} {A : Around} {E : Value → Shared → Prop} {s : Shared}
theorem target_wp {P : Addr} {code : Array Nat} {x : Str} {t : Tok} {Q : ReTarget → Shared → Prop} (p : PatAt s.heap P code) (h : Q (tgt P x t code) s) : wpAny M A (reWholeTarget (.ref P) (.str x t)) Q E s := by
 obtain ⟨o, vs, T, oT, items, n, h1, c1, d1, h2, h3, h4, h5, h6, h7, h8⟩ := p.it
 delta reWholeTarget
 refine wpAny_bind (wpAny_fieldsOf h1 h2 ?_)
 refine wpAny_bind (m := reTextOf (.str x t)) (wpAny_pure ?_)
 dsimp only
 rw [h8]
 refine wpAny_bind (m := pure PUnit.unit) (wpAny_pure ?_)
 rw [h3, h7]
 delta reRawItems
 refine wpAny_bind (wpAny_bind (wpAny_seqItems h4 h5 (wpAny_pure (wpAny_pure ?_))))
 have e : ({ pattern := .ref P, string := .str x t, code := (items.map reRawOf).map (·.toNat), text := x.cps, kind := 0, groups := 0, pos := 0, lim := x.cps.size } : ReTarget) = tgt P x t code := by exact h6 ▸ rfl
 have : Q ({ pattern := .ref P, string := .str x t, code := (items.map reRawOf).map (·.toNat), text := x.cps, kind := 0, groups := 0, pos := 0, lim := x.cps.size } : ReTarget) s := by rw [e]; exact h
 exact this
end
noncomputable def cuts (nx : Nat → Option (Nat × Nat)) (text : Array Nat) (repl : Str) : Nat → Nat → List Str
 | 0, d => if d < text.size then [⟨text.extract d text.size⟩] else []
 | k + 1, d => match nx d with
  | none => if d < text.size then [⟨text.extract d text.size⟩] else []
  | some (i, j) => (if d < i then [⟨text.extract d i⟩] else []) ++ repl :: cuts nx text repl k j
structure NextOk (code : Array Nat) (text : Array Nat) (nx : Nat → Option (Nat × Nat)) : Prop where
 ends : ∀ s, s ≤ text.size → ∃ b, b ≤ 2 ^ 60 ∧ Ends b (Sre.forSearch code text 0 s text.size false) (nx s) ∧ (Sre.forSearch code text 0 s text.size false).outcome = none
 go : ∀ s i j, nx s = some (i, j) → s ≤ i ∧ i < j ∧ j ≤ text.size
theorem strsAre_app {vs us : List Value} {xs ys : List Str} (a : StrsAre vs xs) (b : StrsAre us ys) : StrsAre (vs ++ us) (xs ++ ys) := by
 induction a with
 | nil => exact b
 | cons x t _ ih => exact .cons x t ih
theorem cuts_fuel {nx : Nat → Option (Nat × Nat)} {code : Array Nat} {text : Array Nat} {repl : Str} (N : NextOk code text nx) : ∀ (k d : Nat), text.size - d ≤ k → cuts nx text repl k d = cuts nx text repl (text.size - d) d := by
 intro k
 induction k using Nat.strongRecOn with
 | ind k ih =>
  intro d hd
  cases k with
  | zero => rw [Nat.le_zero.mp hd]
  | succ k =>
   cases q : text.size - d with
   | zero =>
    unfold cuts
    cases hn : nx d with
    | none => rfl
    | some ij => obtain ⟨i, j⟩ := ij; have := N.go d i j hn; exact noSc ‹_› ‹_›
   | succ k' =>
    unfold cuts
    cases hn : nx d with
    | none => rfl
    | some ij =>
     obtain ⟨i, j⟩ := ij
     have := N.go d i j hn
     dsimp only
     rw [ih k (by exact Nat.le_refl _) j (by exact sbLc ‹_› ‹_›), ih k' (by lia) j (by exact sbEc ‹_› ‹_›)]
theorem sum_app (a b : List Nat) : (a ++ b).sum = a.sum + b.sum := by rw [List.sum_append]
section
variable {prog : Program} {w : World} {A : Around} {s : Shared}
theorem mkcut {text : Array Nat} {b e : Nat} {E : Value → Shared → Prop} {Q : Value → Shared → Prop} (hs : text.size ≤ 1048576) (h : ∀ k, Q (.str ⟨text.extract b e⟩ s.toks) { s with toks := k }) : wpAny (model prog w) A (reSlice text 0 b e) Q E s := by
 delta reSlice
 refine wpAny_mkStr (h _) ?_
 show (text.extract b e).size ≤ _
 rw [Array.size_extract, sizeLine_is]
 exact wkM ‹_› rfl
theorem lay {D : Addr} {items : Array Value} {v : Value} {E : Value → Shared → Prop} {Q : Unit → Shared → Prop} (pl : s.heap.PlainList D items) (hsz : items.size ≤ 4194304) (h : ∀ h', h'.PlainList D (items.push v) → Heap.SameBut D s.heap h' → Q () { s with heap := h' }) :
  wpAny (model prog w) A (updateSeq D (·.push v)) Q E s := by
 obtain ⟨n, e⟩ := pl
 refine wpAny_updateSeq e rfl (h _ ⟨_, IsL.update e (·.push v)⟩ (Heap.SameBut.update ..)) ?_ ?_
 ·exact sizeLine_is ▸ (Nat.le_trans ‹_› (by decide))
 ·show (items.push v).size ≤ _
  rw [Array.size_push, sizeLine_is]; exact Nat.lt_of_le_of_lt ‹_› (by decide)
theorem sub_fin {x : Str} {D : Addr} {c : Int} {Q : PySem.Fin → Shared → Prop} {E : Value → Shared → Prop} {items : Array Value} {ss : List Str} (hx : x.cps.size ≤ 1048576) (pl : s.heap.PlainList D items) (sa : StrsAre items.toList ss) (hs : (ss.map (·.length)).sum ≤ 4194304)
  (h : ∀ t' k, Q (.done (.ret (.str (Txt.join ⟨#[]⟩ ss) t'))) { s with toks := k }) : wpAny (model prog w) A (do
      let joiner ← reSlice x.cps 0 0 0
      let text ← if ((← seqItems? (.ref D)).getD #[]).isEmpty then pure joiner else call (.builtin "str.join") [joiner, .ref D]
      if false = true then ret (← holding [text] do newTuple [text, ← mkInt c]) else ret text) Q E s := by
 refine wpAny_bind (mkcut hx fun tk => ?_)
 have he : (⟨x.cps.extract 0 0⟩ : Str) = ⟨#[]⟩ := by simp
 rw [he]
 obtain ⟨n1, e1⟩ := id pl
 refine wpAny_bind (wpAny_seqItems (s := { s with toks := tk }) e1 rfl ?_)
 dsimp only [Option.getD_some]
 by_cases hem : items.isEmpty = true
 ·have h0 : ss = [] := by
   have h1 : items = #[] := by simpa using hem
   subst h1
   cases sa; rfl
  subst h0
  rw [if_pos hem]
  exact wpAny_bind (wpAny_pure (wpAny_pure (h _ _)))
 ·rw [if_neg hem]
  refine wpAny_bind (PyProof.Rows.join_list (s := { s with toks := tk }) ⟨_, e1, rfl, n1, rfl⟩ sa ?_ fun t' k' => wpAny_pure (h _ _))
  show _ + _ * 0 ≤ _
  exact wk ‹_› rfl
theorem sub_loop {P D : Addr} {code : Array Nat} {x repl : Str} {t u : Tok} {nx : Nat → Option (Nat × Nat)} {R : Result → Shared → Prop} {ways : Value} (hx : x.cps.size ≤ 1048576) (hr : repl.length ≤ 2) (N : NextOk code x.cps nx) :
  ∀ (k d : Nat) (s : Shared) (items : Array Value) (ss : List Str) (c : Int), x.cps.size - d = k → d ≤ x.cps.size → PatAt (hideAll s.heap [D]) P code → s.heap.PlainList D items → StrsAre items.toList ss → ss.length ≤ 2 * d → ((ss.map (·.length)).sum ≤ 3 * d) →
   (∀ (s' : Shared) (t' : Tok), Mv [D] [] s s' → R (.ok (.ret (.str (Txt.join ⟨#[]⟩ (ss ++ cuts nx x.cps repl k d)) t'))) s') →
   codeAny (model prog w) A (.builtin "re.Pattern.sub.loop" ⟨[.ref P, .str x t, .str repl u, rawInt 0, rawInt 0, rawInt c, rawInt d, rawInt d, .bool false, .ref D, .bool false], []⟩) R s := by
 intro k
 induction k using Nat.strongRecOn with
 | ind k ih =>
  intro d s items ss c hk hd hp pl sa hlen hsum hR
  have hsz : items.size ≤ 2097152 := by
   have := sa.length
   rw [Array.length_toList] at this
   lia
  refine codeAny_builtin RF.entry_loop ?_
  rw [Around.under_plainId RF.plain_loop _]
  unfold Builtin.«re.Pattern.sub.loop»
  refine wpAny_bind (target_wp (hp.at' keeps_hide_of) ?_)
  obtain ⟨b, hb, hE, ho⟩ := N.ends d hd
  refine wpAny_bind (m := reLiteralCannotBeTurned (.str repl u)) (wpAny_bind (m := asStr? (.str repl u)) (wpAny_pure (wpAny_pure ?_)))
  show wpAny (model prog w) A.in1 (reNextFound (tgt P x t code) d false >>= _) _ _ s
  cases hnx : nx d with
  | none =>
   rw [hnx] at hE
   have hc : cuts nx x.cps repl k d = if d < x.cps.size then [⟨x.cps.extract d x.cps.size⟩] else [] := by
    cases k with
    | zero => rfl
    | succ k => unfold cuts; rw [hnx]
   rw [hc] at hR
   refine wpAny_bind (run_end hE ho hb ?_)
   dsimp only
   by_cases hds : d < x.cps.size
   ·rw [if_pos hds] at hR
    have hg : wpAny (model prog w) A.in1 (reSlice x.cps 0 d x.cps.size >>= fun v => updateSeq D (fun xs => xs.push v) >>= fun _ => (do
      let joiner ← reSlice x.cps 0 0 0
      let text ← if ((← seqItems? (.ref D)).getD #[]).isEmpty then pure joiner else call (.builtin "str.join") [joiner, .ref D]
      if false = true then ret (← holding [text] do newTuple [text, ← mkInt c]) else ret text)) (fun fin s' => match fin with | .done f => R (.ok f) s' | .again c' => c'.quiet = true ∧ codeAny (model prog w) A c' R s') (fun e s' => R (.error e) s') s := by
     refine wpAny_bind (mkcut hx fun tk => ?_)
     have plt : ({ s with toks := tk } : Shared).heap.PlainList D items := pl
     refine wpAny_bind (lay plt (by exact wk ‹_› rfl) fun h1 pl1 hs1 => ?_)
     refine sub_fin (ss := ss ++ [⟨x.cps.extract d x.cps.size⟩]) hx pl1 (by rw [Array.toList_push]; exact strsAre_app sa (.cons _ _ .nil)) ?_ fun t' k' => hR { s with heap := h1, toks := k' } t' ⟨fun b o hb e => hs1.extBut b o (fun q => hb (q ▸ (.head _))) e, rfl, fun _ _ _ e => e, id⟩
     simp only [List.map_append, sum_app, List.map_cons, List.map_nil, List.sum_cons, List.sum_nil]
     have : (⟨x.cps.extract d x.cps.size⟩ : Str).length ≤ x.cps.size := by simp [Str.length, Array.size_extract]
     lia
    refine Eq.mp (congrArg (fun m => wpAny (model prog w) A.in1 m _ _ s) ?_) hg
    exact (if_pos (show ((d : Int).toNat < (tgt P x t code).lim) from hds)).symm
   ·rw [if_neg hds, List.append_nil] at hR
    refine Eq.mp (congrArg (fun m => wpAny (model prog w) A.in1 m _ _ s) ?_) (sub_fin (c := c) hx pl sa (by lia) fun t' k' => hR { s with toks := k' } t' ⟨fun _ _ _ e => e, rfl, fun _ _ _ e => e, id⟩)
    exact (if_neg (show ¬((d : Int).toNat < (tgt P x t code).lim) from hds)).symm
  | some ij =>
   obtain ⟨i, j⟩ := ij
   rw [hnx] at hE
   obtain ⟨g1, g2, g3⟩ := N.go d i j hnx
   have hcut : cuts nx x.cps repl k d = (if d < i then [⟨x.cps.extract d i⟩] else []) ++ repl :: cuts nx x.cps repl (x.cps.size - j) j := by
    cases k with
    | zero => exact noS ‹_› ‹_› ‹_› ‹_›
    | succ k =>
     rw [cuts, hnx]
     dsimp only
     rw [cuts_fuel N k j (by exact sbE ‹_› ‹_› ‹_›)]
   refine wpAny_bind (run_end hE ho hb fun m hm1 hm2 => ?_)
   dsimp only
   have tail : ∀ (s1 : Shared) (items1 : Array Value), s1.heap.PlainList D items1 → StrsAre items1.toList (ss ++ (if d < i then [⟨x.cps.extract d i⟩] else [])) → Mv [D] [] s s1 →
     wpAny (model prog w) A.in1 (updateSeq D (fun xs => xs.push (.str repl u)) >>= fun _ => again (.builtin "re.Pattern.sub.loop" ⟨[.ref P, .str x t, .str repl u, rawInt 0, rawInt 0, rawInt (c + 1), rawInt m.handed, rawInt m.handed, .bool (m.handed == m.start), .ref D, .bool false], []⟩)) (fun fin s' => match fin with | .done f => R (.ok f) s' | .again c' => c'.quiet = true ∧ codeAny (model prog w) A c' R s') (fun e s' => R (.error e) s') s1 := fun s1 items1 pl1 sa1 mv1 => by
    have hl1 : items1.size ≤ 2097154 := by
     have h1 := sa1.length
     rw [Array.length_toList, List.length_append] at h1
     have : (if d < i then [(⟨x.cps.extract d i⟩ : Str)] else []).length ≤ 1 := by split <;> simp
     lia
    refine wpAny_bind (lay pl1 (by exact wk ‹_› rfl) fun h2 pl2 hs2 => wpAny_pure ⟨plainId_quiet RF.plain_loop _, ?_⟩)
    rw [hm1, hm2]
    have hji : (j == i) = false := by simpa using Nat.ne_of_gt g2
    rw [hji]
    have mv2 : Mv [D] [] s { s1 with heap := h2 } := mv1.trans (.heap fun b o hb e => hs2.extBut b o (fun q => hb (q ▸ (.head _))) e)
    refine ih (x.cps.size - j) (by exact sbT ‹_› ‹_› ‹_› ‹_›) j _ (items1.push (.str repl u)) (ss ++ (if d < i then [⟨x.cps.extract d i⟩] else []) ++ [repl]) (c + 1) rfl g3 (hp.at' (keeps_hide fun b o hb e => mv2.keep b o hb e)) pl2 ?_ ?_ ?_ fun s' t' mv' => ?_
    ·rw [Array.toList_push]; exact strsAre_app sa1 (.cons _ _ .nil)
    ·simp only [List.length_append, List.length_singleton]
     have : (if d < i then [(⟨x.cps.extract d i⟩ : Str)] else []).length ≤ 1 := by split <;> simp
     lia
    ·simp only [List.map_append, sum_app, List.map_cons, List.map_nil, List.sum_cons, List.sum_nil]
     have : ((if d < i then [(⟨x.cps.extract d i⟩ : Str)] else []).map (·.length)).sum ≤ i - d := by
      split
      ·simp [Str.length, Array.size_extract]; exact leM
      ·simp
     lia
    ·have := hR s' t' (mv2.trans mv')
     rw [hcut] at this
     simpa [List.append_assoc] using this
   by_cases hdi : d < i
   ·rw [if_pos (hm1 ▸ hdi)]
    refine wpAny_bind (mkcut hx fun tk => ?_)
    have plt : ({ s with toks := tk } : Shared).heap.PlainList D items := pl
    refine wpAny_bind (lay plt (by exact wk ‹_› rfl) fun h1 pl1 hs1 => ?_)
    refine tail _ _ pl1 ?_ ⟨fun b o hb e => hs1.extBut b o (fun q => hb (q ▸ (.head _))) e, rfl, fun _ _ _ e => e, id⟩
    rw [if_pos hdi, Array.toList_push, hm1]
    exact strsAre_app sa (.cons _ _ .nil)
   ·rw [if_neg (hm1 ▸ hdi)]
    refine tail _ _ pl ?_ .refl
    rw [if_neg hdi, List.append_nil]; exact sa
end
end
section
open PySem.Calls PySem.Builtin PySem.Builtin.Re
namespace RF
theorem args_sub (a b c : Value) : argsOk "re.Pattern.sub" ⟨[a, b, c], []⟩ := by delta argsOk; kernel_rfl
theorem attrs_pat : PlainAttrs "re.Pattern" :=
 ⟨⟨"object.__getattribute__", by rw [typeLookup_type, builtinLookup_eq_fast]; kernel_rfl, by decide +kernel⟩, by rw [typeLookup_type, builtinLookup_eq_fast]; kernel_rfl⟩
theorem str_no_call : typeLookup (.type "str") "__call__" = pure none := by rw [typeLookup_type, builtinLookup_eq_fast]; kernel_rfl
end RF
theorem named2 (a b : Value) : reNamed "re.Pattern.sub" "sub" ["repl", "string", "count"] 2 [a, b] [] = pure [some a, some b, none] := by
 delta reNamed
 rfl
section
variable {prog : Program} {w : World} {A : Around} {E : Value → Shared → Prop} {s : Shared}
theorem sub_call {P : Addr} {code : Array Nat} {x repl : Str} {t u : Tok} {nx : Nat → Option (Nat × Nat)} {Q : Value → Shared → Prop} (hp : PatAt s.heap P code) (hx : x.cps.size ≤ 1048576) (hr : repl.length ≤ 2) (h92 : repl.cps.contains 92 = false) (N : NextOk code x.cps nx)
  (h : ∀ (s' : Shared) (t' : Tok), Full s s' → Q (.str (Txt.join ⟨#[]⟩ (cuts nx x.cps repl x.cps.size 0)) t') s') : wpAny (model prog w) A (call (.builtin "re.Pattern.sub") [.ref P, .str repl u, .str x t] []) Q E s := by
 obtain ⟨o, vs, T, oT, items, n, h1, c1, d1, h2⟩ := hp.it
 have hT : s.TypeIs (.ref P) "re.Pattern" := ⟨o, h1, c1⟩
 refine wpAny_call (codeAny_call_builtin RF.slot_sub.plain RF.entry_sub (RF.slot_sub.check _ _ _ _ _ _ _ _ hT (RF.args_sub _ _ _) ?_))
 show wpAny (model prog w) A.in1 (reSubstitute "re.Pattern.sub" "sub" false ⟨[.ref P, .str repl u, .str x t], []⟩) _ _ s
 delta reSubstitute
 dsimp only
 rw [named2]
 refine wpAny_bind (wpAny_pure ?_)
 dsimp only
 refine wpAny_bind (m := pure (0 : Int)) (wpAny_pure ?_)
 refine wpAny_bind (wpAny_specialOf (typeIs_str s repl u) RF.str_no_call ?_)
 refine wpAny_bind (m := asStr? (.str repl u)) (wpAny_pure ?_)
 dsimp only
 refine wpAny_bind (wpAny_pure ?_)
 rw [h92, if_neg (by decide), if_pos (by decide)]
 refine wpAny_bind (wpAny_pure ?_)
 refine wpAny_bind (wpAny_holding (target_wp hp ?_))
 rw [if_neg (show ¬(((0 : Int) == 1) = true) by decide)]
 refine wpAny_bind (wpAny_newList ?_ (by rw [sizeLine_is]; simp))
 refine wpAny_pure ⟨plainId_quiet RF.plain_loop _, ?_⟩
 have hD : s.heap.get? s.heap.objs.size = none := get?_ge (Nat.le_refl _)
 refine sub_loop (ways := .none) (nx := nx) (code := code) hx hr N x.cps.size 0 _ #[] [] 0 (by rfl) (Nat.zero_le _) (hp.at' fun b o e => hideAll_get _ (Heap.get?_push_of_some _ e) fun q => ?_) ⟨0, Heap.get?_push_size _ rfl⟩ .nil (by decide) (by decide) fun s' t' mv => ?_
 ·rw [List.mem_singleton] at q; exact none_ (hD.symm.trans (q ▸ e))
 ·rw [List.nil_append]
  refine h s' t' ⟨fun b o e => mv.keep b o (fun q => ?_) (Heap.get?_push_of_some _ e), mv.os, fun k z e => mv.gens k z (fun q => (nomatch q)) e, mv.bare⟩
  rw [List.mem_singleton] at q; exact none_ (hD.symm.trans (q ▸ e))
end
end
section
open PySem.Calls PySem.Builtin PySem.Builtin.Re
theorem join_nil (ss : List Str) : (Txt.join ⟨#[]⟩ ss).cps.toList = ss.flatMap fun x => x.cps.toList := by
 have gen : ∀ (r : List Str) (acc : Array Nat), (r.foldl (fun acc p => acc ++ (⟨#[]⟩ : Str).cps ++ p.cps) acc).toList = acc.toList ++ r.flatMap fun x => x.cps.toList := by
  intro r
  induction r with
  | nil => intro acc; simp
  | cons x r ih => intro acc; rw [List.foldl_cons, ih]; simp
 cases ss with
 | nil => rfl
 | cons x r =>
  show (r.foldl (fun acc p => acc ++ (⟨#[]⟩ : Str).cps ++ p.cps) x.cps).toList = _
  rw [gen, List.flatMap_cons]
theorem drop_get {text : Array Nat} {s : Nat} (h : s < text.size) : text.toList.drop s = text.getD s 0 :: text.toList.drop (s + 1) := by
 rw [List.drop_eq_getElem_cons (h)]
 congr 1
 simp [Array.getD, h]
theorem fix_other {c : Nat} {r : List Nat} (h : isEnd c = false) : fixB false (c :: r) = c :: fixB false r := by
 exact fixB_c (fun q => by subst q; cases h) fun q => by subst q; cases h
theorem place_spec {text : Array Nat} : ∀ (k s : Nat), text.size + 1 ≤ s + k → match place2 text k s with
  | none => fixB false (text.toList.drop s) = text.toList.drop s
  | some i => s ≤ i ∧ i < text.size ∧ fixB false (text.toList.drop s) = (text.toList.drop s).take (i - s) ++ fixB false (text.toList.drop i)
 | 0, s, h => by
  show fixB false _ = _
  rw [List.drop_of_length_le (by simp; exact Nat.le_of_lt ‹_›)]; rfl
 | k + 1, s, h => by
  unfold place2
  by_cases hs : s ≥ text.size
  ·rw [if_pos hs]
   show fixB false _ = _
   rw [List.drop_of_length_le (by simpa using hs)]; rfl
  ·rw [if_neg hs]
   by_cases q : isEnd (text.getD s 0) = true
   ·rw [if_pos q]
    exact ⟨Nat.le_refl _, by exact Nat.lt_of_not_le ‹_›, by simp⟩
   ·rw [if_neg q]
    have ih := place_spec (text := text) k (s + 1) (by lia)
    have hd := drop_get (text := text) (s := s) (by exact Nat.lt_of_not_le ‹_›)
    cases hp : place2 text k (s + 1) with
    | none =>
     rw [hp] at ih
     show fixB false _ = _
     rw [hd, fix_other (by simpa using q)]
     rw [show fixB false (text.toList.drop (s + 1)) = _ from ih]
    | some i =>
     rw [hp] at ih
     obtain ⟨h1, h2, h3⟩ := ih
     refine ⟨by exact Nat.le_of_lt ‹_›, h2, ?_⟩
     rw [hd, fix_other (by simpa using q), h3]
     have : i - s = (i - (s + 1)) + 1 := by exact sb1 ‹_›
     rw [this, List.take_succ_cons, List.cons_append]
noncomputable def nx2 (text : Array Nat) (d : Nat) : Option (Nat × Nat) := (place2 text (text.size + 1 - d) d).map fun i => (i, end2 text i)
theorem end_spec {text : Array Nat} {i : Nat} (h : i < text.size) (he : isEnd (text.getD i 0) = true) : i < end2 text i ∧ end2 text i ≤ text.size ∧ fixB false (text.toList.drop i) = 13 :: 10 :: fixB false (text.toList.drop (end2 text i)) := by
 have hd := drop_get h
 delta end2
 by_cases q : (text.getD i 0 == 13 && decide (i + 1 < text.size) && text.getD (i + 1) 0 == 10) = true
 ·rw [if_pos q]
  rw [Bool.and_eq_true, Bool.and_eq_true] at q
  obtain ⟨⟨q1, q2⟩, q3⟩ := q
  have q2 := of_decide_eq_true q2
  refine ⟨by exact Nat.le_succ _, by assumption, ?_⟩
  rw [hd, drop_get q2, eq_of_beq q1, eq_of_beq q3]
  rfl
 ·rw [if_neg q]
  refine ⟨by exact Nat.le_refl _, by assumption, ?_⟩
  rw [hd]
  delta isEnd at he
  rcases Bool.or_eq_true_iff.mp he with e | e
  ·rw [eq_of_beq e]; rfl
  ·rw [eq_of_beq e]
   by_cases z : i + 1 < text.size
   ·rw [drop_get z]
    have : text.getD (i + 1) 0 ≠ 10 := fun w => q (by rw [e, w]; simp [z])
    exact congrArg (fun z => 13 :: 10 :: z) (fixB_t this)
   ·rw [List.drop_of_length_le (by simp; exact Nat.le_of_not_lt ‹_›)]; rfl
theorem out1 {text : Array Nat} {s : Nat} : (Sre.forSearch c1 text 0 s text.size false).outcome = none := by
 have e : Sre.forSearch c1 text 0 s text.size false = if (s > text.size || text.size - s < 1) = true then say1 { at1 text s true (({} : Sre.Seen).add 14) with lastStart := 0, frames := [], weight := 0 } false else at1 text s true (({} : Sre.Seen).add 14) := rfl
 rw [e]; split <;> rfl
theorem out2 {text : Array Nat} {s : Nat} : (Sre.forSearch c2 text 0 s text.size false).outcome = none := by
 let m0 : Sre.M := { at2 text s (({} : Sre.Seen).add 14) with frames := [], weight := 0 }
 have e : Sre.forSearch c2 text 0 s text.size false = if (s > text.size || text.size - s < 1) = true then say1 { m0 with lastStart := 0 } false else m0.attemptFrom s true := rfl
 rw [e]
 split
 ·rfl
 ·obtain ⟨seen', ea⟩ := admitted2 (m := m0) rfl rfl (text.size + 1 - s) s m0.seen
  have e2 : m0.attemptFrom s true = (match Sre.M.admitted m0 (text.size + 1 - s) s m0.seen with
   | .ok (some i, seen) => at2 text i seen
   | .ok (none, seen) => say1 { m0 with seen } false
   | .error why => { m0 with outcome := some (.stuck why) }) := rfl
  rw [e2, ea]
  cases place2 m0.text (text.size + 1 - s) s <;> rfl
theorem next2 {text : Array Nat} (hs : text.size ≤ 1048576) : NextOk c2 text (nx2 text) where
 ends := fun s h => ⟨20, by exact Nat.le_add_left _ _, search2 h, out2⟩
 go := fun s i j h => by
  delta nx2 at h
  cases q : place2 text (text.size + 1 - s) s with
  | none => rw [q] at h; cases h
  | some i' =>
   rw [q] at h; cases h
   have := place_spec (text := text) (text.size + 1 - s) s (by exact leS)
   rw [q] at this
   obtain ⟨h1, h2⟩ := place_lt q
   have := end_spec h1 h2
   exact ⟨by lia, by lia, by lia⟩
theorem cuts2 {text : Array Nat} (hs : text.size ≤ 1048576) {crlf : Str} (hc : crlf.cps = #[13, 10]) : ∀ (k d : Nat), text.size - d = k → d ≤ text.size → (cuts (nx2 text) text crlf k d).flatMap (fun x => x.cps.toList) = fixB false (text.toList.drop d) := by
 intro k
 induction k using Nat.strongRecOn with
 | ind k ih =>
  intro d hk hd
  have ps := place_spec (text := text) (text.size + 1 - d) d (by exact leS)
  cases k with
  | zero =>
   unfold cuts
   rw [if_neg (by lia), List.drop_of_length_le (by simp; lia)]; rfl
  | succ k =>
   unfold cuts
   cases q : place2 text (text.size + 1 - d) d with
   | none =>
    rw [q] at ps
    have : nx2 text d = none := by unfold nx2; rw [q]; rfl
    rw [this]
    dsimp only
    rw [if_pos (by exact ltS ‹_›), show fixB false (text.toList.drop d) = _ from ps]
    have ht : List.take (text.size - d) (text.toList.drop d) = text.toList.drop d := List.take_of_length_le (by simp)
    simpa using ht
   | some i =>
    rw [q] at ps
    obtain ⟨p1, p2, p3⟩ := ps
    obtain ⟨h1, h2⟩ := place_lt q
    obtain ⟨g1, g2, g3⟩ := end_spec h1 h2
    have : nx2 text d = some (i, end2 text i) := by unfold nx2; rw [q]; rfl
    rw [this]
    dsimp only
    rw [List.flatMap_append, List.flatMap_cons, hc, cuts_fuel (next2 hs) k _ (by exact sbE ‹_› ‹_› ‹_›), ih (text.size - end2 text i) (by exact sbT ‹_› ‹_› ‹_› ‹_›) _ rfl g2, p3, g3]
    congr 1
    split
    ·simp
    ·have : i - d = 0 := by exact zS0 ‹_› ‹_›
     exact this ▸ rfl
theorem first_spec {text : Array Nat} : ∀ (k s : Nat), s + k = text.size → match first1 text k s with
  | none => dotL (s == 0 || text.getD (s - 1) 0 == 10) (text.toList.drop s) = text.toList.drop s
  | some (i, j) => s ≤ i ∧ i < text.size ∧ j = i + 1 ∧ dotL (s == 0 || text.getD (s - 1) 0 == 10) (text.toList.drop s) = (text.toList.drop s).take (i - s) ++ 46 :: 46 :: dotL (j == 0 || text.getD (j - 1) 0 == 10) (text.toList.drop j)
 | 0, s, h => by
  show dotL _ _ = _
  rw [List.drop_of_length_le (by simp; exact Nat.le_of_eq (Eq.symm ‹_›))]; cases (s == 0 || text.getD (s - 1) 0 == 10) <;> rfl
 | k + 1, s, h => by
  have hs : s < text.size := by lia
  have hd := drop_get hs
  unfold first1
  by_cases q : hit1 text s = true
  ·rw [if_pos q]
   unfold hit1 at q
   rw [Bool.and_eq_true, Bool.and_eq_true] at q
   obtain ⟨⟨q1, _⟩, q3⟩ := q
   refine ⟨Nat.le_refl _, hs, rfl, ?_⟩
   rw [q1, hd, eq_of_beq q3]
   have : (s + 1 == 0 || text.getD (s + 1 - 1) 0 == 10) = false := by
    rw [Nat.add_sub_cancel, eq_of_beq q3]; simp
   rw [this]
   rw [Nat.sub_self]; rfl
  ·rw [if_neg q]
   have ih := first_spec (text := text) k (s + 1) (by lia)
   have step : dotL (s == 0 || text.getD (s - 1) 0 == 10) (text.toList.drop s) = text.getD s 0 :: dotL (s + 1 == 0 || text.getD (s + 1 - 1) 0 == 10) (text.toList.drop (s + 1)) := by
    rw [hd]
    have e1 : (s + 1 == 0 || text.getD (s + 1 - 1) 0 == 10) = (text.getD s 0 == 10) := by rw [Nat.add_sub_cancel]; simp
    rw [e1]
    have q' : (s == 0 || text.getD (s - 1) 0 == 10) = true → text.getD s 0 ≠ 46 := fun z w => q (by delta hit1; rw [z, w]; simp [hs])
    exact dot_step q'
   cases hp : first1 text k (s + 1) with
   | none =>
    rw [hp] at ih
    show dotL _ _ = _
    rw [step, show dotL _ (text.toList.drop (s + 1)) = _ from ih, hd]
   | some ij =>
    obtain ⟨i, j⟩ := ij
    rw [hp] at ih
    obtain ⟨h1, h2, h3, h4⟩ := ih
    refine ⟨by exact Nat.le_of_lt ‹_›, h2, h3, ?_⟩
    rw [step, h4, hd]
    have : i - s = (i - (s + 1)) + 1 := by exact sb1 ‹_›
    rw [this, List.take_succ_cons, List.cons_append]
noncomputable def nx1 (text : Array Nat) (d : Nat) : Option (Nat × Nat) := first1 text (text.size - d) d
theorem next1' {text : Array Nat} (hs : text.size ≤ 1048576) : NextOk c1 text (nx1 text) where
 ends := fun s h => ⟨3 * text.size + 6, by lia, search1 h, out1⟩
 go := fun s i j h => by
  rcases Nat.lt_or_ge text.size s with z | z
  ·delta nx1 at h
   have : text.size - s = 0 := by lia
   rw [this] at h; cases h
  ·have := first_spec (text := text) (text.size - s) s (by exact adS ‹_›)
   delta nx1 at h
   rw [h] at this
   obtain ⟨h1, h2, h3, _⟩ := this
   lia
theorem cuts1 {text : Array Nat} (hs : text.size ≤ 1048576) {dots : Str} (hc : dots.cps = #[46, 46]) : ∀ (k d : Nat), text.size - d = k → d ≤ text.size → (cuts (nx1 text) text dots k d).flatMap (fun x => x.cps.toList) = dotL (d == 0 || text.getD (d - 1) 0 == 10) (text.toList.drop d) := by
 intro k
 induction k using Nat.strongRecOn with
 | ind k ih =>
  intro d hk hd
  have ps := first_spec (text := text) (text.size - d) d (by exact adS ‹_›)
  cases k with
  | zero =>
   unfold cuts
   rw [if_neg (by lia), List.drop_of_length_le (by simp; lia)]; cases (d == 0 || text.getD (d - 1) 0 == 10) <;> rfl
  | succ k =>
   unfold cuts
   cases q : first1 text (text.size - d) d with
   | none =>
    rw [q] at ps
    have : nx1 text d = none := q
    rw [this]
    dsimp only
    rw [if_pos (by exact ltS ‹_›), show dotL _ (text.toList.drop d) = _ from ps]
    have ht : List.take (text.size - d) (text.toList.drop d) = text.toList.drop d := List.take_of_length_le (by simp)
    simpa using ht
   | some ij =>
    obtain ⟨i, j⟩ := ij
    rw [q] at ps
    obtain ⟨p1, p2, p3, p4⟩ := ps
    have : nx1 text d = some (i, j) := q
    rw [this]
    dsimp only
    rw [List.flatMap_append, List.flatMap_cons, hc, cuts_fuel (next1' hs) k _ (by exact sbS ‹_› ‹_› ‹_›), ih (text.size - j) (by lia) _ rfl (by lia), p4]
    congr 1
    split
    ·simp
    ·have : i - d = 0 := by exact zS0 ‹_› ‹_›
     exact this ▸ rfl
end
section
open PySem.Calls
theorem Lv.less {A : Around} {n m : Nat} (h : Lv A m) (q : n ≤ m) : Lv A n := ⟨h.hh, by have := h.depth; lia, by have := h.units; lia⟩
theorem FnSpec.mono {G : Gl} {n m : Nat} {f : Value} {F : List X → Option X} (h : FnSpec G n f F) (q : n ≤ m) : FnSpec G m f F := fun A H s us l v Q E e lv => h A H s us l v Q E e (lv.less q)
theorem TabOk.mono {G : Gl} {T : Tab} {n m : Nat} (h : TabOk G T n) (q : n ≤ m) : TabOk G T m where
 const := h.const
 cat := h.cat
 bi := h.bi
 fn := fun f l v e => (h.fn f l v e).imp fun _ z => ⟨z.1, z.2.1, z.2.2.mono q⟩
 mt := fun m x l v e => (h.mt m x l v e).imp fun _ z => ⟨z.1, z.2.1.mono q, z.2.2⟩
 attr := h.attr
 gen := fun g p l e => (h.gen g p l e).imp fun _ z => ⟨z.1, z.2.1, fun A H s u Q E lv => z.2.2.1 A H s u Q E (lv.less q), fun A s u hh Q E lv => z.2.2.2 A s u hh Q E (lv.less q)⟩
 pat := h.pat
noncomputable def layT (T : Tab) (n : Str) (f : List X → Option X) : Tab := { T with fn := fun m l => if m = n then f l else T.fn m l }
noncomputable def layTM (T : Tab) (n : Str) (f : List X → Option X) : Tab := { T with mt := fun m l => if m = n then f l else T.mt m l }
theorem layT_ok {G : Gl} {T : Tab} {n : Nat} {x : Str} {F : List X → Option X} {a : Addr} (h : TabOk G T n) (hg : G.mg x = some (.ref a)) (hk : keepIn G.K (.ref a) = true) (hF : FnSpec G n (.ref a) F) : TabOk G (layT T x F) n where
 const := h.const
 cat := h.cat
 bi := h.bi
 fn := fun f l v e => by
  delta layT at e
  dsimp only at e
  by_cases q : f = x
  ·subst q
   refine ⟨a, hg, hk, ?_⟩
   have : (layT T f F).fn f = F := by funext l; exact if_pos rfl
   rw [this]; exact hF
  ·rw [if_neg q] at e
   obtain ⟨b, h1, h2, h3⟩ := h.fn f l v e
   refine ⟨b, h1, h2, ?_⟩
   have : (layT T x F).fn f = T.fn f := by funext l; exact if_neg q
   exact this ▸ h3
 mt := h.mt
 attr := h.attr
 gen := h.gen
 pat := h.pat
theorem layTM_ok {G : Gl} {T : Tab} {n : Nat} {x : Str} {F : List X → Option X} {a : Addr} (W : WsCls G) (h : TabOk G T n) (hk : keepIn G.K (.ref a) = true) (hx : x ∉ wsNames) (hf : findIn G.K (.ref G.ws) x = some (some (.ref a))) (ht : isFn G.K (.ref a) = true) (hF : FnSpec G n (.ref a) F) : TabOk G (layTM T x F) n where
 const := h.const
 cat := h.cat
 bi := h.bi
 fn := h.fn
 mt := fun m y l v e => by
  delta layTM at e
  dsimp only at e
  by_cases q : m = x
  ·subst q
   refine ⟨a, hk, ?_, fun A s pl ov hh raw i nt cnt tr sm Q E gd k w hQ => ws_method W gd k w hx hf ht hQ⟩
   have : (layTM T m F).mt m = F := by funext l; exact if_pos rfl
   rw [this]; exact hF
  ·rw [if_neg q] at e
   obtain ⟨b, h1, h2, h3⟩ := h.mt m y l v e
   refine ⟨b, h1, ?_, h3⟩
   have : (layTM T x F).mt m = T.mt m := by funext l; exact if_neg q
   exact this ▸ h2
 attr := h.attr
 gen := h.gen
 pat := h.pat
structure FnAt (G : Gl) (x : Str) (d : Arguments × List Stmt × Scope) : Prop where
 it : ∃ (a : Addr) (name qual : Str), G.mg x = some (.ref a) ∧ keepIn G.K (.ref a) = true ∧ DefOk G.K a name qual d.1 d.2.1 d.2.2
structure MtAt (G : Gl) (x : Str) (d : Arguments × List Stmt × Scope) : Prop where
 it : ∃ (a : Addr) (name qual : Str), keepIn G.K (.ref a) = true ∧ findIn G.K (.ref G.ws) x = some (some (.ref a)) ∧ isFn G.K (.ref a) = true ∧ DefOk G.K a name qual d.1 d.2.1 d.2.2
noncomputable def layF (T : Tab) (x : Str) (d : Arguments × List Stmt × Scope) (mu own2 : List Str := []) : Tab := layT T x (runFn T d.1 d.2.1 d.2.2 mu own2)
noncomputable def layW (T : Tab) (x : Str) (d : Arguments × List Stmt × Scope) (mu own2 : List Str := []) : Tab := layTM T x (runFn T d.1 d.2.1 d.2.2 mu own2)
theorem layF_ok {G : Gl} {T : Tab} {n : Nat} {x : Str} {d : Arguments × List Stmt × Scope} {mu own2 : List Str} (h : TabOk G T n) (D : FnAt G x d) (h2 : ∀ y ∈ own2, y ∉ d.1.args.map (·.arg)) : TabOk G (layF T x d mu own2) (n + 1) := by
 obtain ⟨a, name, qual, h1, h3, h4⟩ := D.it
 exact layT_ok (h.mono (Nat.le_succ n)) h1 h3 (fn_spec h h4 h2)
theorem layW_ok {G : Gl} {T : Tab} {n : Nat} {x : Str} {d : Arguments × List Stmt × Scope} {mu own2 : List Str} (W : WsCls G) (h : TabOk G T n) (D : MtAt G x d) (hx : x ∉ wsNames) (h2 : ∀ y ∈ own2, y ∉ d.1.args.map (·.arg)) : TabOk G (layW T x d mu own2) (n + 1) := by
 obtain ⟨a, name, qual, h3, h5, h6, h4⟩ := D.it
 exact layTM_ok W (h.mono (Nat.le_succ n)) h3 hx h5 h6 (fn_spec h h4 h2)
noncomputable def patP (g r x : Str) : Option Str := if short x.length then (if g = "_twin_re_2" ∧ r = "\r\n" then some ⟨(fixB false x.cps.toList).toArray⟩ else if g = "_twin_re_1" ∧ r = ".." then some ⟨(dotL true x.cps.toList).toArray⟩ else none) else none
noncomputable def genP (f : Str) (p : PyData) : Option (List PyData) := match p with
 | .str x => if f = "_iter_escaped_chars" ∧ short x.length = true ∧ PyData.strOk x = true then some (outD (outL false 0 x.cps.toList)) else none
 | _ => none
noncomputable def tabB : Tab where
 const := fun x => if x = "ELLIPSIS_MARKER" then some (.str "...") else if x = "CRLF" then some (.str "\r\n") else none
 cat := fun c a => if c = "Whitespace" ∧ a = "S" then some (.str " ") else if c = "Whitespace" ∧ a = "T" then some (.str "\t") else none
 fn := fun _ _ => none
 gen := genP
 mt := fun _ _ => none
 pat := patP
structure RowOk (G : Gl) : Prop where
 bi : ∀ f v, bval f = some v → G.mg f = none ∧ G.mb f = some v
 ell : ∃ t, G.mg "ELLIPSIS_MARKER" = some (.str "..." t)
 crlf : ∃ t, G.mg "CRLF" = some (.str "\r\n" t)
 ws : G.mg "Whitespace" = some (.ref G.ws)
 kws : keepIn G.K (.ref G.ws) = true
 cls : WsCls G
 make : ∃ fI name qual, WsMk G fI name qual
 cat : ∃ mc, readsIn G.K G.ws mc = true ∧ (∃ t, findCls G.K (.ref G.ws) mc "S" = some (.val (.str " " t))) ∧ (∃ t, findCls G.K (.ref G.ws) mc "T" = some (.val (.str "\t" t)))
 gen : ∃ a name qual, G.mg "_iter_escaped_chars" = some (.ref a) ∧ keepIn G.K (.ref a) = true ∧ GenOk G.K a name qual genD.1.1
 p1 : ∃ P, G.mg "_twin_re_1" = some (.ref P) ∧ ∀ h, Gd G h → PatAt h P c1
 p2 : ∃ P, G.mg "_twin_re_2" = some (.ref P) ∧ ∀ h, Gd G h → PatAt h P c2
theorem outL_length (l : List Nat) : ∀ b p, (outL b p l).length ≤ l.length + b.toNat := by
 induction l with
 | nil => intro b p; cases b <;> exact Nat.le_refl _
 | cons c r ih =>
  intro b p
  cases b with
  | true => exact Nat.le_succ_of_le (Nat.succ_le_succ (ih false (p + 1)))
  | false =>
   by_cases h : c = 92
   ·subst h; exact ih true (p + 1)
   ·rw [outL_ff h]; exact Nat.succ_le_succ (ih false (p + 1))
theorem escL_length (l : List Nat) (p : Nat) : (outL false p l).length ≤ l.length := outL_length l false p
theorem pat_of {G : Gl} {P : Addr} {code : Array Nat} {nx : Array Nat → Nat → Option (Nat × Nat)} (hP : ∀ h, Gd G h → PatAt h P code) {r x : Str} {y : Str} (hx : x.cps.size ≤ 1048576) (hr : r.length ≤ 2) (h92 : r.cps.contains 92 = false) (N : NextOk code x.cps (nx x.cps)) (hy : Txt.join ⟨#[]⟩ (cuts (nx x.cps) x.cps r x.cps.size 0) = y) : PatOk G P r x y := by
 refine ⟨_, _, RF.attrs_pat, RF.slot_sub, RF.type_sub, fun A s gd => ?_⟩
 have hp := hP _ gd
 obtain ⟨o, vs, T, oT, items, n, h1, c1, d1, _⟩ := hp.it
 refine ⟨⟨o, h1, c1⟩, ⟨o, h1, d1⟩, fun u t Q E h => sub_call hp hx hr h92 N fun s' t' full => ?_⟩
 rw [hy]; exact h s' t' full
theorem crlf_of {x : Str} (hx : x.cps.size ≤ 1048576) : Txt.join ⟨#[]⟩ (cuts (nx2 x.cps) x.cps "\r\n" x.cps.size 0) = ⟨(fixB false x.cps.toList).toArray⟩ := by
 have h := join_nil (cuts (nx2 x.cps) x.cps "\r\n" x.cps.size 0)
 rw [cuts2 hx (crlf := "\r\n") rfl x.cps.size 0 rfl (Nat.zero_le _), List.drop_zero] at h
 exact congrArg Str.mk ((Array.toArray_toList (xs := (Txt.join ⟨#[]⟩ (cuts (nx2 x.cps) x.cps "\r\n" x.cps.size 0)).cps)).symm.trans (congrArg List.toArray h))
theorem dots_of {x : Str} (hx : x.cps.size ≤ 1048576) : Txt.join ⟨#[]⟩ (cuts (nx1 x.cps) x.cps ".." x.cps.size 0) = ⟨(dotL true x.cps.toList).toArray⟩ := by
 have h := join_nil (cuts (nx1 x.cps) x.cps ".." x.cps.size 0)
 rw [cuts1 hx (dots := "..") rfl x.cps.size 0 rfl (Nat.zero_le _)] at h
 exact congrArg Str.mk ((Array.toArray_toList (xs := (Txt.join ⟨#[]⟩ (cuts (nx1 x.cps) x.cps ".." x.cps.size 0)).cps)).symm.trans (congrArg List.toArray h))
theorem gen_rw {A : Around} {n : Nat} (hn : 1 ≤ n) (lv : Lv A n) : Rw A ∧ Rw A.in1.in1 ∧ Lv A 1 := by
 have l1 := lv.less hn
 have d := l1.depth
 have u := l1.units
 exact ⟨⟨l1.hh, d, by lia⟩, ⟨l1.hh, d, by show A.units + 1 + 1 + 100 + 200 < 9000; lia⟩, l1⟩
noncomputable def tab0 : Tab := { const := fun _ => none, cat := fun _ _ => none, fn := fun _ _ => none, gen := fun _ _ => none, mt := fun _ _ => none }
theorem tab0_ok {G : Gl} (B : RowOk G) {n : Nat} : TabOk G tab0 n :=
 { const := fun x p e => (nomatch e), cat := fun c a p e => (nomatch e), bi := B.bi, fn := fun f l v e => (nomatch e), mt := fun m x l v e => (nomatch e), attr := fun A s ov h raw i nt cnt tr sm a p Q E gd k w e hQ => ws_attr B.cls gd k w e hQ, gen := fun g p l e => (nomatch e), pat := fun g r x y e => (nomatch e) }
theorem gen_tab {G : Gl} (B : RowOk G) {n : Nat} (hn : 1 ≤ n) {x : Str} (q2 : short x.length = true) (q3 : PyData.strOk x = true) : ∃ a, G.mg "_iter_escaped_chars" = some (.ref a) ∧ keepIn G.K (.ref a) = true ∧ GenL G n a (.str x) (outD (outL false 0 x.cps.toList)) ∧ GenF G n a (.str x) (outD (outL false 0 x.cps.toList)) := by
 obtain ⟨a, name, qual, g1, g2, g3⟩ := B.gen
 have hok : ∀ c ∈ x.cps, c < 0x110000 := fun c hc' => of_decide_eq_true (Array.all_eq_true_iff_forall_mem.mp q3 c hc')
 have hlen : (outD (outL false 0 x.cps.toList)).length ≤ 1048576 := by
  delta outD
  rw [List.length_map]
  exact Nat.le_trans (escL_length x.cps.toList 0) (Nat.le_trans (Nat.le_of_eq Array.length_toList) (of_decide_eq_true q2))
 refine ⟨a, g1, g2, fun A H s u Q E lv gd bare hH r h => ?_, fun A s u hh Q E lv gd bare k r h => ?_⟩
 ·obtain ⟨t, rfl⟩ := r.str_
  obtain ⟨r1, r2, r3⟩ := gen_rw hn lv
  refine gen_call (tab0_ok B) g3 r3 hok gd bare fun J L gi s' G0 full W st hJ hL hgi => list_gen (W _ r2) hlen st (fun a ha => let ⟨o, e⟩ := hH a ha; ⟨o, full.keep _ _ e⟩) fun S s2 hS m rd => h _ s2 ?_ rd
  exact ⟨fun b o e => m.keep b o (fun q => none_ (hL.symm.trans ((List.mem_singleton.mp q) ▸ e))) (full.keep _ _ e), m.os.trans full.os, fun k z e => m.gens k z (fun q => none_ (hgi.symm.trans ((List.mem_singleton.mp q) ▸ e))) (full.gens k z e), fun hb => m.bare (full.bare hb)⟩
 ·obtain ⟨t, rfl⟩ := r.str_
  obtain ⟨r1, r2, r3⟩ := gen_rw hn lv
  exact gen_call (tab0_ok B) g3 r3 hok gd bare fun J L gi s' G0 full W st hJ hL hgi => h J L gi s' G0 full (W _ r1) st hJ hL hgi
theorem cat_tab {G : Gl} (B : RowOk G) {y c a : Str} {p : PyData} {mc : List Value} (h : ∀ (A : Around) (s : Shared) (Q E : Value → Shared → Prop), Gd G s.heap → (∀ t k, Q (.str y t) { s with toks := k }) → wpAny (model G.prog G.w) A (getAttr (.ref G.ws) a true) Q E s) (q : c = "Whitespace") (e : some (PyData.str y) = some p) :
  ∃ y, p = .str y ∧ G.mg c = some (.ref G.ws) ∧ ∀ (A : Around) (s : Shared) (Q E : Value → Shared → Prop), Gd G s.heap → (∀ t k, Q (.str y t) { s with toks := k }) → wpAny (model G.prog G.w) A (getAttr (.ref G.ws) a true) Q E s := ⟨y, (sm_ e).symm, q ▸ B.ws, h⟩
theorem tabB_ok {G : Gl} (B : RowOk G) {n : Nat} (hn : 1 ≤ n) : TabOk G tabB n where
 const := fun x p e => pick_ e (fun q e => let ⟨t, h⟩ := B.ell; ⟨_, t, (sm_ e).symm, q ▸ h⟩) fun _ e => pick_ e (fun q e => let ⟨t, h⟩ := B.crlf; ⟨_, t, (sm_ e).symm, q ▸ h⟩) fun _ e => none_ e
 cat := fun c a p e => by
  obtain ⟨mc, h1, ⟨t1, h2⟩, ⟨t2, h3⟩⟩ := B.cat
  refine pick_ e (fun q e => ?_) fun _ e => pick_ e (fun q e => ?_) fun _ e => none_ e
  ·exact cat_tab (mc := []) B (fun A s Q E gd hQ => q.2 ▸ cls_value gd.kin h1 h2 rfl (hQ _ _)) q.1 e
  ·exact cat_tab (mc := []) B (fun A s Q E gd hQ => q.2 ▸ cls_value gd.kin h1 h3 rfl (hQ _ _)) q.1 e
 bi := B.bi
 fn := fun f l v e => nomatch e
 mt := fun m x l v e => nomatch e
 attr := fun A s ov h raw i nt cnt tr sm a p Q E gd k w e hQ => ws_attr B.cls gd k w e hQ
 gen := fun g p l e => by
  cases p with
  | str x => exact ifE e fun q e => q.1 ▸ sm_ e ▸ gen_tab B hn q.2.1 q.2.2
  | _ => exact none_ e
 pat := fun g r x y e => by
  refine ifE e fun hs e => ?_
  have hx : x.cps.size ≤ 1048576 := of_decide_eq_true hs
  refine pick_ e (fun q e => ?_) fun _ e => ifE e fun q e => ?_
  ·obtain ⟨P, h1, h2⟩ := B.p2
   exact ⟨P, q.1 ▸ h1, q.2 ▸ sm_ e ▸ pat_of h2 hx (by decide) (by decide +kernel) (next2 hx) (crlf_of hx)⟩
  ·obtain ⟨P, h1, h2⟩ := B.p1
   exact ⟨P, q.1 ▸ h1, q.2 ▸ sm_ e ▸ pat_of h2 hx (by decide) (by decide +kernel) (next1' hx) (dots_of hx)⟩
end
section
open PySem.Calls
noncomputable def d_quotedata : { d : Arguments × List Stmt × Scope // defOf PW.main.body "quotedata" = some d } := ⟨(_, _, _), rfl⟩
noncomputable def d_fixeols : { d : Arguments × List Stmt × Scope // defOf PW.main.body "_fix_eols" = some d } := ⟨(_, _, _), rfl⟩
noncomputable def d_ellipsis : { d : Arguments × List Stmt × Scope // defOf PW.main.body "_ellipsis_match" = some d } := ⟨(_, _, _), rfl⟩
noncomputable def d_strip : { d : Arguments × List Stmt × Scope // defOf PW.main.body "_strip_quoted_realnames" = some d } := ⟨(_, _, _), rfl⟩
noncomputable def d_longest : { d : Arguments × List Stmt × Scope // ((clsOf PW.main.body "Whitespace").bind fun b => defOf b "longest_run_of_spaces") = some d } := ⟨(_, _, _), rfl⟩
noncomputable def d_indent : { d : Arguments × List Stmt × Scope // ((clsOf PW.main.body "Whitespace").bind fun b => defOf b "indent_level") = some d } := ⟨(_, _, _), rfl⟩
noncomputable def d_unequal : { d : Arguments × List Stmt × Scope // ((clsOf PW.main.body "Whitespace").bind fun b => defOf b "not_equal_witness") = some d } := ⟨(_, _, _), rfl⟩
noncomputable def d_unless : { d : Arguments × List Stmt × Scope // ((clsOf PW.main.body "Whitespace").bind fun b => defOf b "not_less_witness") = some d } := ⟨(_, _, _), rfl⟩
noncomputable def d_row : { d : Arguments × List Stmt × Scope // defOf PW.main.body "_law_row" = some d } := ⟨(_, _, _), rfl⟩
noncomputable def d_units : { d : Arguments × List Stmt × Scope // defOf PW.main.body "_law_units" = some d } := ⟨(_, _, _), rfl⟩
noncomputable def d_tail : { d : Arguments × List Stmt × Scope // defOf PW.main.body "_law_tail" = some d } := ⟨(_, _, _), rfl⟩
noncomputable def d_mails : { d : Arguments × List Stmt × Scope // defOf PW.main.body "_law_mails" = some d } := ⟨(_, _, _), rfl⟩
noncomputable def d_due : { d : Arguments × List Stmt × Scope // defOf PW.main.body "_law_due" = some d } := ⟨(_, _, _), rfl⟩
noncomputable def d_column : { d : Arguments × List Stmt × Scope // defOf PW.main.body "_law_column" = some d } := ⟨(_, _, _), rfl⟩
noncomputable def d_prime : { d : Arguments × List Stmt × Scope // defOf PW.main.body "_law_prime" = some d } := ⟨(_, _, _), rfl⟩
noncomputable def d_joints : { d : Arguments × List Stmt × Scope // defOf PW.main.body "_law_joints" = some d } := ⟨(_, _, _), rfl⟩
noncomputable def d_trees : { d : Arguments × List Stmt × Scope // defOf PW.main.body "_law_trees" = some d } := ⟨(_, _, _), rfl⟩
noncomputable def d_law : { d : Arguments × List Stmt × Scope // defOf PW.main.body "law" = some d } := ⟨(_, _, _), rfl⟩
noncomputable def T1 : Tab := layF tabB "quotedata" d_quotedata.1
noncomputable def T2 : Tab := layF T1 "_fix_eols" d_fixeols.1
noncomputable def T3 : Tab := layF T2 "_ellipsis_match" d_ellipsis.1 ["ws"]
noncomputable def T4 : Tab := layF T3 "_strip_quoted_realnames" d_strip.1 ["result"]
noncomputable def T5 : Tab := layW T4 "longest_run_of_spaces" d_longest.1
noncomputable def T6 : Tab := layW T5 "indent_level" d_indent.1
noncomputable def T7 : Tab := layW T6 "not_equal_witness" d_unequal.1 ["a"]
noncomputable def T8 : Tab := layW T7 "not_less_witness" d_unless.1 ["a"]
noncomputable def T9 : Tab := layT T8 "Whitespace" mkWs
noncomputable def T10 : Tab := layF T9 "_law_row" d_row.1 ["row"]
noncomputable def T11 : Tab := layF T10 "_law_units" d_units.1 ["shown", "units"]
noncomputable def T12 : Tab := layF T11 "_law_tail" d_tail.1
noncomputable def T13 : Tab := layF T12 "_law_mails" d_mails.1
noncomputable def T14 : Tab := layF T13 "_law_due" d_due.1
noncomputable def T15 : Tab := layF T14 "_law_column" d_column.1
noncomputable def T16 : Tab := layF T15 "_law_prime" d_prime.1
noncomputable def T17 : Tab := layF T16 "_law_joints" d_joints.1 ["joints"]
noncomputable def T18 : Tab := layF T17 "_law_trees" d_trees.1 [] ["grid"]
structure AllOk (G : Gl) : Prop where
 B : RowOk G
 f_quotedata : FnAt G "quotedata" d_quotedata.1
 f_fixeols : FnAt G "_fix_eols" d_fixeols.1
 f_ellipsis : FnAt G "_ellipsis_match" d_ellipsis.1
 f_strip : FnAt G "_strip_quoted_realnames" d_strip.1
 f_longest : MtAt G "longest_run_of_spaces" d_longest.1
 f_indent : MtAt G "indent_level" d_indent.1
 f_unequal : MtAt G "not_equal_witness" d_unequal.1
 f_unless : MtAt G "not_less_witness" d_unless.1
 f_row : FnAt G "_law_row" d_row.1
 f_units : FnAt G "_law_units" d_units.1
 f_tail : FnAt G "_law_tail" d_tail.1
 f_mails : FnAt G "_law_mails" d_mails.1
 f_due : FnAt G "_law_due" d_due.1
 f_column : FnAt G "_law_column" d_column.1
 f_prime : FnAt G "_law_prime" d_prime.1
 f_joints : FnAt G "_law_joints" d_joints.1
 f_trees : FnAt G "_law_trees" d_trees.1
theorem tabs_ok {G : Gl} (A : AllOk G) : TabOk G T18 19 := by
 have t0 := tabB_ok A.B (Nat.le_refl 1)
 have t1 : TabOk G T1 2 := layF_ok t0 A.f_quotedata (by decide)
 have t2 : TabOk G T2 3 := layF_ok t1 A.f_fixeols (by decide)
 have t3 : TabOk G T3 4 := layF_ok t2 A.f_ellipsis (by decide)
 have t4 : TabOk G T4 5 := layF_ok t3 A.f_strip (by decide)
 have t5 : TabOk G T5 6 := layW_ok A.B.cls t4 A.f_longest (by decide) (by decide)
 have t6 : TabOk G T6 7 := layW_ok A.B.cls t5 A.f_indent (by decide) (by decide)
 have t7 : TabOk G T7 8 := layW_ok A.B.cls t6 A.f_unequal (by decide) (by decide)
 have t8 : TabOk G T8 9 := layW_ok A.B.cls t7 A.f_unless (by decide) (by decide)
 obtain ⟨fI, nm, ql, mk⟩ := A.B.make
 have t9 : TabOk G T9 10 := layT_ok (t8.mono (Nat.le_succ 9)) A.B.ws A.B.kws (ws_spec t8 rfl rfl A.B.cls mk)
 have t10 : TabOk G T10 11 := layF_ok t9 A.f_row (by decide)
 have t11 : TabOk G T11 12 := layF_ok t10 A.f_units (by decide)
 have t12 : TabOk G T12 13 := layF_ok t11 A.f_tail (by decide)
 have t13 : TabOk G T13 14 := layF_ok t12 A.f_mails (by decide)
 have t14 : TabOk G T14 15 := layF_ok t13 A.f_due (by decide)
 have t15 : TabOk G T15 16 := layF_ok t14 A.f_column (by decide)
 have t16 : TabOk G T16 17 := layF_ok t15 A.f_prime (by decide)
 have t17 : TabOk G T17 18 := layF_ok t16 A.f_joints (by decide)
 have t18 : TabOk G T18 19 := layF_ok t17 A.f_trees (by decide)
 exact t18
end
section
open PySem.Calls
theorem args0 {P : List Value → Prop} (h : P []) : ∀ us : List Value, us.length = 0 → P us
 | [], _ => h
theorem argsS {n : Nat} {P : List Value → Prop} (h : ∀ a us, us.length = n → P (a :: us)) : ∀ us : List Value, us.length = n + 1 → P us
 | a :: us, e => h a us (Nat.succ.inj e)
theorem args1 {P : List Value → Prop} (h : ∀ a, P [a]) : ∀ us : List Value, us.length = 1 → P us := argsS fun a => args0 (h a)
theorem args2 {P : List Value → Prop} (h : ∀ a b, P [a, b]) : ∀ us : List Value, us.length = 2 → P us := argsS fun a => argsS fun b => args0 (h a b)
theorem args3 {P : List Value → Prop} (h : ∀ a b c, P [a, b, c]) : ∀ us : List Value, us.length = 3 → P us := argsS fun a => argsS fun b => argsS fun c => args0 (h a b c)
theorem args4 {P : List Value → Prop} (h : ∀ a b c d, P [a, b, c, d]) : ∀ us : List Value, us.length = 4 → P us := argsS fun a => argsS fun b => argsS fun c => argsS fun d => args0 (h a b c d)
noncomputable def g0 (w : World) (mg mb : Str → Option Value) : Gl := ⟨PySem.Challenge.rw_uc0021_01.row.prog, w, hd.heap_39 w.params, 145, mg, mb⟩
noncomputable def mainObj (P : Params) : { o : Obj // (hd.heap_39 P).lookup mainGlobals = some o } := ⟨_, rfl⟩
noncomputable def mainEs (P : Params) : { es : Array DictEntry // ∃ n, (mainObj P).1.data = .dict es n } := ⟨_, _, rfl⟩
theorem mg_is {P : Params} {h : Heap} {mg : Str → Option Value} (X : (hd.heap_39 P).In h) (g : h.Ns mainGlobals mg) (x : Str) : mg x = nsFind (mainEs P).1 x := by
 obtain ⟨o, es, ep, e, d, _, f⟩ := g
 have e1 := X _ _ (mainObj P).2
 rw [e1] at e; cases e
 obtain ⟨n, h2⟩ := (mainEs P).2
 rw [h2] at d; cases d
 exact (f x).symm
section
variable {w : World} {mg mb : Str → Option Value} (hg : ∀ x, mg x = nsFind (mainEs w.params).1 x)
include hg
theorem f_quotedata : FnAt (g0 w mg mb) "quotedata" d_quotedata.1 := ⟨⟨_, _, _, (hg _).trans rfl, rfl, ⟨⟨_, _, _, _, _, _, _, _, _, _, rfl, rfl, args1 fun _ => rfl⟩, rfl, rfl, rfl, by decide, by decide, by decide⟩⟩⟩
theorem f_fixeols : FnAt (g0 w mg mb) "_fix_eols" d_fixeols.1 := ⟨⟨_, _, _, (hg _).trans rfl, rfl, ⟨⟨_, _, _, _, _, _, _, _, _, _, rfl, rfl, args1 fun _ => rfl⟩, rfl, rfl, rfl, by decide, by decide, by decide⟩⟩⟩
theorem f_ellipsis : FnAt (g0 w mg mb) "_ellipsis_match" d_ellipsis.1 := ⟨⟨_, _, _, (hg _).trans rfl, rfl, ⟨⟨_, _, _, _, _, _, _, _, _, _, rfl, rfl, args2 fun _ _ => rfl⟩, rfl, rfl, rfl, by decide, by decide, by decide⟩⟩⟩
theorem f_strip : FnAt (g0 w mg mb) "_strip_quoted_realnames" d_strip.1 := ⟨⟨_, _, _, (hg _).trans rfl, rfl, ⟨⟨_, _, _, _, _, _, _, _, _, _, rfl, rfl, args1 fun _ => rfl⟩, rfl, rfl, rfl, by decide, by decide, by decide⟩⟩⟩
theorem f_longest : MtAt (g0 w mg mb) "longest_run_of_spaces" d_longest.1 := ⟨⟨_, _, _, rfl, rfl, rfl, ⟨⟨_, _, _, _, _, _, _, _, _, _, rfl, rfl, args1 fun _ => rfl⟩, rfl, rfl, rfl, by decide, by decide, by decide⟩⟩⟩
theorem f_indent : MtAt (g0 w mg mb) "indent_level" d_indent.1 := ⟨⟨_, _, _, rfl, rfl, rfl, ⟨⟨_, _, _, _, _, _, _, _, _, _, rfl, rfl, args2 fun _ _ => rfl⟩, rfl, rfl, rfl, by decide, by decide, by decide⟩⟩⟩
theorem f_unequal : MtAt (g0 w mg mb) "not_equal_witness" d_unequal.1 := ⟨⟨_, _, _, rfl, rfl, rfl, ⟨⟨_, _, _, _, _, _, _, _, _, _, rfl, rfl, args2 fun _ _ => rfl⟩, rfl, rfl, rfl, by decide, by decide, by decide⟩⟩⟩
theorem f_unless : MtAt (g0 w mg mb) "not_less_witness" d_unless.1 := ⟨⟨_, _, _, rfl, rfl, rfl, ⟨⟨_, _, _, _, _, _, _, _, _, _, rfl, rfl, args2 fun _ _ => rfl⟩, rfl, rfl, rfl, by decide, by decide, by decide⟩⟩⟩
theorem f_row : FnAt (g0 w mg mb) "_law_row" d_row.1 := ⟨⟨_, _, _, (hg _).trans rfl, rfl, ⟨⟨_, _, _, _, _, _, _, _, _, _, rfl, rfl, args1 fun _ => rfl⟩, rfl, rfl, rfl, by decide, by decide, by decide⟩⟩⟩
theorem f_units : FnAt (g0 w mg mb) "_law_units" d_units.1 := ⟨⟨_, _, _, (hg _).trans rfl, rfl, ⟨⟨_, _, _, _, _, _, _, _, _, _, rfl, rfl, args1 fun _ => rfl⟩, rfl, rfl, rfl, by decide, by decide, by decide⟩⟩⟩
theorem f_tail : FnAt (g0 w mg mb) "_law_tail" d_tail.1 := ⟨⟨_, _, _, (hg _).trans rfl, rfl, ⟨⟨_, _, _, _, _, _, _, _, _, _, rfl, rfl, args2 fun _ _ => rfl⟩, rfl, rfl, rfl, by decide, by decide, by decide⟩⟩⟩
theorem f_mails : FnAt (g0 w mg mb) "_law_mails" d_mails.1 := ⟨⟨_, _, _, (hg _).trans rfl, rfl, ⟨⟨_, _, _, _, _, _, _, _, _, _, rfl, rfl, args2 fun _ _ => rfl⟩, rfl, rfl, rfl, by decide, by decide, by decide⟩⟩⟩
theorem f_due : FnAt (g0 w mg mb) "_law_due" d_due.1 := ⟨⟨_, _, _, (hg _).trans rfl, rfl, ⟨⟨_, _, _, _, _, _, _, _, _, _, rfl, rfl, args1 fun _ => rfl⟩, rfl, rfl, rfl, by decide, by decide, by decide⟩⟩⟩
theorem f_column : FnAt (g0 w mg mb) "_law_column" d_column.1 := ⟨⟨_, _, _, (hg _).trans rfl, rfl, ⟨⟨_, _, _, _, _, _, _, _, _, _, rfl, rfl, args3 fun _ _ _ => rfl⟩, rfl, rfl, rfl, by decide, by decide, by decide⟩⟩⟩
theorem f_prime : FnAt (g0 w mg mb) "_law_prime" d_prime.1 := ⟨⟨_, _, _, (hg _).trans rfl, rfl, ⟨⟨_, _, _, _, _, _, _, _, _, _, rfl, rfl, args1 fun _ => rfl⟩, rfl, rfl, rfl, by decide, by decide, by decide⟩⟩⟩
theorem f_joints : FnAt (g0 w mg mb) "_law_joints" d_joints.1 := ⟨⟨_, _, _, (hg _).trans rfl, rfl, ⟨⟨_, _, _, _, _, _, _, _, _, _, rfl, rfl, args2 fun _ _ => rfl⟩, rfl, rfl, rfl, by decide, by decide, by decide⟩⟩⟩
theorem f_trees : FnAt (g0 w mg mb) "_law_trees" d_trees.1 := ⟨⟨_, _, _, (hg _).trans rfl, rfl, ⟨⟨_, _, _, _, _, _, _, _, _, _, rfl, rfl, args1 fun _ => rfl⟩, rfl, rfl, rfl, by decide, by decide, by decide⟩⟩⟩
theorem f_law : FnAt (g0 w mg mb) "law" d_law.1 := ⟨⟨_, _, _, (hg _).trans rfl, rfl, ⟨⟨_, _, _, _, _, _, _, _, _, _, rfl, rfl, args1 fun _ => rfl⟩, rfl, rfl, rfl, by decide, by decide, by decide⟩⟩⟩
theorem pat1 {h : Heap} (X : (hd.heap_39 w.params).In h) : PatAt h 43 c1 :=
 ⟨⟨_, _, _, _, _, _, X _ _ rfl, rfl, rfl, rfl, rfl, X _ _ rfl, rfl, by decide +kernel, by decide +kernel, by decide +kernel⟩⟩
theorem pat2 {h : Heap} (X : (hd.heap_39 w.params).In h) : PatAt h 48 c2 :=
 ⟨⟨_, _, _, _, _, _, X _ _ rfl, rfl, rfl, rfl, rfl, X _ _ rfl, rfl, by decide +kernel, by decide +kernel, by decide +kernel⟩⟩
theorem ws_cls : WsCls (g0 w mg mb) := ⟨rfl, rfl, rfl, fun _ => rfl, fun y hy => by
 unfold wsNames at hy
 simp only [List.mem_cons, List.not_mem_nil, or_false] at hy
 rcases hy with rfl | rfl | rfl | rfl | rfl <;> rfl⟩
theorem ws_mk : WsMk (g0 w mg mb) 100 "__init__" "Whitespace.__init__" := ⟨rfl, rfl, rfl, ⟨⟨_, _, _, _, _, _, _, _, _, _, rfl, rfl, args2 fun _ _ => rfl⟩, rfl, rfl, rfl, by decide, by decide, by decide⟩⟩
theorem gen_ok : GenOk (g0 w mg mb).K 76 "_iter_escaped_chars" "_iter_escaped_chars" genD.1.1 := ⟨⟨_, _, _, _, _, _, _, _, _, _, rfl, rfl, fun u => rfl⟩⟩
theorem bi_ok (hb : ∀ x : Str, x ≠ "__name__" → mb x = bootBuiltins x) : ∀ f v, bval f = some v → (g0 w mg mb).mg f = none ∧ (g0 w mg mb).mb f = some v := fun f v e => by
 have go : ∀ {y : Str} {v : Value}, y ≠ "__name__" → nsFind (mainEs w.params).1 y = none → bootBuiltins y = some v → (g0 w mg mb).mg y = none ∧ (g0 w mg mb).mb y = some v := fun h1 h2 h3 => ⟨(hg _).trans h2, (hb _ h1).trans h3⟩
 have y : ∀ {k : Str} {u : Value}, k ≠ "__name__" → nsFind (mainEs w.params).1 k = none → bootBuiltins k = some u → f = k → some u = some v → (g0 w mg mb).mg f = none ∧ (g0 w mg mb).mb f = some v := fun h1 h2 h3 q e => by rw [q, ← sm_ e]; exact go h1 h2 h3
 exact pick_ e (y (by decide) rfl rfl) fun _ e => pick_ e (y (by decide) rfl rfl) fun _ e => pick_ e (y (by decide) rfl rfl) fun _ e => pick_ e (y (by decide) rfl rfl) fun _ e => pick_ e (y (by decide) rfl rfl) fun _ e =>
  pick_ e (y (by decide) rfl rfl) fun _ e => pick_ e (y (by decide) rfl rfl) fun _ e => pick_ e (y (by decide) rfl rfl) fun _ e => none_ e
theorem row_ok (hb : ∀ x : Str, x ≠ "__name__" → mb x = bootBuiltins x) : RowOk (g0 w mg mb) where
 bi := bi_ok hg hb
 ell := ⟨_, (hg _).trans rfl⟩
 crlf := ⟨_, (hg _).trans rfl⟩
 ws := (hg _).trans rfl
 kws := rfl
 cls := ws_cls hg
 make := ⟨_, _, _, ws_mk hg⟩
 cat := ⟨.type "type", rfl, ⟨_, rfl⟩, ⟨_, rfl⟩⟩
 gen := ⟨_, _, _, (hg _).trans rfl, rfl, gen_ok hg⟩
 p1 := ⟨43, (hg _).trans rfl, fun h gd => pat1 hg gd.kin⟩
 p2 := ⟨48, (hg _).trans rfl, fun h gd => pat2 hg gd.kin⟩
theorem all_ok (hb : ∀ x : Str, x ≠ "__name__" → mb x = bootBuiltins x) : AllOk (g0 w mg mb) := ⟨row_ok hg hb, f_quotedata hg, f_fixeols hg, f_ellipsis hg, f_strip hg, f_longest hg, f_indent hg, f_unequal hg, f_unless hg, f_row hg, f_units hg, f_tail hg, f_mails hg, f_due hg, f_column hg, f_prime hg, f_joints hg, f_trees hg⟩
end
end
section
open PySem.Calls
set_option maxHeartbeats 4000000
noncomputable def lawRun (l : List Int) : Option X := runFn T18 d_law.1.1 d_law.1.2.1 d_law.1.2.2 ["unlike", "alike", "every"] [] [.d (.list (intsD l))]
theorem callerA_lv : Lv callerA 20 := ⟨rfl, by decide, by decide⟩
theorem rdl_of_well {P : Params} {h : Heap} : ∀ {l : List Int} {vs : List Value}, WellAll P h vs (ofPys (l.map PyData.int)) → RdL h vs (intsD l)
 | [], _, w => by cases w; exact .nil
 | i :: r, _, w => by
  cases w with
  | cons a b => cases a; exact .cons (.int _ _) (rdl_of_well b)
theorem rd_of_well {P : Params} {h : Heap} {a : Addr} {l : List Int} (w : Well P h (.ref a) (ofPy (.list (l.map PyData.int)))) : Rd h (.ref a) (.list (intsD l)) := by
 cases w with
 | list e q => exact .list (n := 0) e (rdl_of_well q)
theorem holds_of (plain : ∀ l : List Int, l.length ≤ 63 → lawRun l = some (.d (.bool true))) : PySem.Challenge.rw_uc0021_01.Holds := hd (by
 intro w s₀ s₁ mg mb G Y fa o pm cd doc dV kV ho hd hcd hD hmg hg args vals as hpre hlay hrd hwl hlo
 have KX := kIn_of Y
 have T := G.T
 clear hD hcd hd ho Y
 have hg' : ∀ x, mg x = nsFind (mainEs w.params).1 x := mg_is KX T.g
 have AO : AllOk (g0 w mg mb) := all_ok hg' T.builtins
 obtain ⟨a, nm, ql, e1, e2, D⟩ := (f_law (mb := mb) hg').it
 have ea : a = fa := by
  have e1 : mg "law" = some (.ref a) := e1
  have h2 : mg "law" = some (.ref fa) := hmg
  rw [e1] at h2; cases h2; rfl
 subst ea
 have S := fn_spec (mu := ["unlike", "alike", "every"]) (own2 := []) (tabs_ok AO) D (by decide)
 clear hmg D e1 e2 AO
 wrow_args hpre hlay hrd hwl hlo
 rename Well _ _ _ _ => w1
 rename ¬ (_ : Int) < _ => h63
 refine S callerA [] s₁ [_] [.d (.list (intsD _))] _ _ _ (plain _ (by lia)) callerA_lv ⟨KX, T.g, T.b, T.nolimit⟩ (AllBare.of_eq hg) (fun a ha => (nomatch ha)) (.cons (rd_of_well w1) .nil) fun u s' full r => ?_
 have r := Rd.bool_ r
 subst r
 refine ⟨.inl ⟨_, _, [], rfl, fun _ => rfl, ReadsW.bool true, ?_, fun _ => ⟨List.nodup_nil, fun _ hm => (nomatch hm)⟩⟩, .of_keep full.keep, full.os, full.bare (AllBare.of_eq hg)⟩
 first | rfl | wrow_post)
end
section
open PySem.StrLaws
noncomputable def S (l : List Nat) : PyData := .str ⟨l.toArray⟩
noncomputable def okL (l : List Nat) : Prop := ∀ c ∈ l, c < 1114112
theorem slen (l : List Nat) : (⟨l.toArray⟩ : Str).length = l.length := by show l.toArray.size = _; simp
theorem short_of {n : Nat} (h : n ≤ 1048576) : short n = true := decide_eq_true h
theorem S_app (a b : List Nat) : ((⟨a.toArray⟩ : Str) ++ ⟨b.toArray⟩) = ⟨(a ++ b).toArray⟩ := by
 show (⟨a.toArray ++ b.toArray⟩ : Str) = _
 rw [List.append_toArray]
theorem add_S {a b : List Nat} (h : a.length + b.length ≤ 1048576) : binD .Add (S a) (S b) = some (S (a ++ b)) := by
 show (if short (⟨a.toArray⟩ : Str).length && short (⟨b.toArray⟩ : Str).length && short ((⟨a.toArray⟩ : Str).length + (⟨b.toArray⟩ : Str).length) then some (PyData.str ((⟨a.toArray⟩ : Str) ++ ⟨b.toArray⟩)) else none) = _
 rw [slen, slen, short_of (by lia), short_of (by lia), short_of h, S_app]; rfl
theorem aug_S {a b : List Nat} (h : a.length + b.length ≤ 1048576) : augD .Add (S a) (S b) = some (S (a ++ b)) := add_S h
theorem mul_S {a : List Nat} {k : Nat} (h1 : k ≤ 1000) (h2 : a.length ≤ 1000) : binD .Mult (S a) (.int k) = some (S (List.replicate k a).flatten) := by
 show (if short (⟨a.toArray⟩ : Str).length && decide ((k : Int) ≤ 1000) && decide (-1000 ≤ (k : Int)) && short ((⟨a.toArray⟩ : Str).length * (k : Int).toNat) then some (PyData.str ⟨(List.replicate (k : Int).toNat a.toArray.toList).flatten.toArray⟩) else none) = _
 have h3 : a.length * k ≤ 1000 * 1000 := Nat.mul_le_mul h2 h1
 rw [slen, short_of (by exact wk ‹_› rfl), decide_eq_true (by exact Int.ofNat_le.mpr ‹_› : (k : Int) ≤ 1000), decide_eq_true (by exact Int.natCast_nonneg _ : -1000 ≤ (k : Int)), Int.toNat_natCast, short_of (by exact wk ‹_› rfl)]; rfl
theorem S_inj {a b : List Nat} : (⟨a.toArray⟩ : Str) = ⟨b.toArray⟩ ↔ a = b := ⟨fun h => by injection h with h; simpa using h, fun h => by rw [h]⟩
theorem shaped_S {a : List Nat} (h : okL a) : SeqAt.shaped (S a) = true := by
 delta S SeqAt.shaped
 simp only [PyData.canLay0, PyData.depth, Bool.and_eq_true]
 refine ⟨?_, rfl⟩
 delta PyData.strOk
 rw [Array.all_eq_true_iff_forall_mem]
 intro c hc
 exact decide_eq_true (h c (by simpa using hc))
theorem eqv_S {a b : List Nat} : PyData.eqv (S a) (S b) = decide (a = b) := by
 show ((⟨a.toArray⟩ : Str) == ⟨b.toArray⟩) = _
 by_cases h : a = b
 ·subst h; simp
 ·exact (decide_eq_false h) ▸ (beq_eq_false_iff_ne.mpr fun q => h (S_inj.mp q))
theorem eq_S {a b : List Nat} (ha : okL a) (hb : okL b) : cmpD .Eq (S a) (S b) = some (decide (a = b)) := by
 have : cmpD .Eq (S a) (S b) = if SeqAt.shaped (S a) && SeqAt.shaped (S b) then some (PyData.eqv (S a) (S b)) else none := rfl
 rw [this, shaped_S ha, shaped_S hb, eqv_S]; rfl
theorem len_S {a : List Nat} (h : a.length ≤ 1048576) : builtD "len" [S a] = some (.int a.length) := by
 show (if short (⟨a.toArray⟩ : Str).length then some (PyData.int (⟨a.toArray⟩ : Str).length) else none) = _
 rw [slen, short_of h]; rfl
theorem slice_S {a : List Nat} {i j : Option Nat} (h : a.length ≤ 1048576) : sliceD (S a) i j = some (S (cutL a i j)) := by
 show (if short (⟨a.toArray⟩ : Str).length then some (PyData.str ⟨(cutL a.toArray.toList i j).toArray⟩) else none) = _
 rw [slen, short_of h]; rfl
theorem slice_L {a : List PyData} {i j : Option Nat} (h : a.length ≤ 1048576) : sliceD (.list a) i j = some (.list (cutL a i j)) := by
 show (if short a.length then _ else none) = _
 rw [short_of h]; rfl
theorem sub_S {a : List Nat} {k c : Nat} (hk : k ≤ 1048576) (h : a[k]? = some c) : subD (S a) (.int k) = some (S [c]) := by
 show (if short (k : Int).natAbs then (at? a.toArray.toList (k : Int)).map fun c => PyData.str ⟨#[c]⟩ else none) = _
 rw [Int.natAbs_natCast, short_of hk, if_pos rfl]
 delta at?
 rw [if_pos (by exact Int.natCast_nonneg _), Int.toNat_natCast]
 show (a[k]?).map _ = _
 exact h ▸ rfl
theorem sub_L {a : List PyData} {k : Nat} {p : PyData} (hk : k ≤ 1048576) (h : a[k]? = some p) : subD (.list a) (.int k) = some p := by
 show (if short (k : Int).natAbs then at? a (k : Int) else none) = _
 rw [Int.natAbs_natCast, short_of hk, if_pos rfl]
 delta at?
 rw [if_pos (by exact Int.natCast_nonneg _), Int.toNat_natCast, h]
theorem sub_T {a : List PyData} {k : Nat} {p : PyData} (hk : k ≤ 1048576) (h : a[k]? = some p) : subD (.tuple a) (.int k) = some p := by
 show (if short (k : Int).natAbs then at? a (k : Int) else none) = _
 rw [Int.natAbs_natCast, short_of hk, if_pos rfl]
 delta at?
 rw [if_pos (by exact Int.natCast_nonneg _), Int.toNat_natCast, h]
theorem len_L {a : List PyData} (h : a.length ≤ 1048576) : builtD "len" [.list a] = some (.int a.length) := by
 show (if short a.length then some (PyData.int a.length) else none) = _
 rw [short_of h]; rfl
theorem strsD_S : ∀ (l : List (List Nat)), strsD (l.map S) = some (l.map fun a => ⟨a.toArray⟩)
 | [] => rfl
 | a :: r => by
  show (strsD (r.map S)).map ((⟨a.toArray⟩ : Str) :: ·) = _
  exact (strsD_S r) ▸ rfl
theorem sumLen_S : ∀ (l : List (List Nat)), sumLen (l.map fun a => (⟨a.toArray⟩ : Str)) = l.flatten.length
 | [] => rfl
 | a :: r => by
  show (⟨a.toArray⟩ : Str).length + sumLen (r.map fun a => (⟨a.toArray⟩ : Str)) = _
  rw [slen, sumLen_S r, List.flatten_cons, List.length_append]
theorem join_S {l : List (List Nat)} (h1 : l.length ≤ 1048576) (h2 : l.flatten.length ≤ 1048576) : methD ⟨#[]⟩ "join" [.list (l.map S)] = some (S l.flatten) := by
 show joinT ⟨#[]⟩ (l.map S) = _
 refine bnI (strsD_S l) ?_
 rw [sumLen_S, short_of h2, List.length_map, short_of h1, show (⟨#[]⟩ : Str).length = 0 from rfl, Nat.zero_mul, short_of (Nat.zero_le _)]
 have gen : ∀ (r : List Str) (acc : Array Nat), (r.foldl (fun acc p => acc ++ (⟨#[]⟩ : Str).cps ++ p.cps) acc).toList = acc.toList ++ r.flatMap fun x => x.cps.toList := by
  intro r
  induction r with
  | nil => intro acc; simp
  | cons x r ih => intro acc; rw [List.foldl_cons, ih]; simp
 have : (Txt.join ⟨#[]⟩ (l.map fun a => (⟨a.toArray⟩ : Str))).cps.toList = l.flatten := by
  cases l with
  | nil => rfl
  | cons a r =>
   show ((r.map fun a => (⟨a.toArray⟩ : Str)).foldl (fun acc p => acc ++ (⟨#[]⟩ : Str).cps ++ p.cps) a.toArray).toList = _
   rw [gen, List.flatMap_map, List.flatten_cons]
   show a ++ (r.flatMap fun x => x) = _
   rw [List.flatMap_id']
 show some (PyData.str _) = some (PyData.str ⟨l.flatten.toArray⟩)
 congr 2
 rw [← this, Array.toArray_toList]
theorem compL_all {bnd : PyData → Option Sig} {tests : Sig → Option Bool} {elt : Sig → Option PyData} {g : PyData → Bool} {f : PyData → PyData} : ∀ (items : List PyData), (∀ p ∈ items, ∃ τ, bnd p = some τ ∧ tests τ = some (g p) ∧ (g p = true → elt τ = some (f p))) → compL bnd tests elt items = some ((items.filter g).map f)
 | [], _ => rfl
 | p :: r, h => by
  obtain ⟨τ, h1, h2, h3⟩ := h p (.head _)
  refine bnI h1 (bnI h2 ?_)
  cases hg : g p with
  | false =>
   rw [List.filter_cons_of_neg (by rw [hg]; simp)]
   exact compL_all r fun q hq => h q (.tail _ hq)
  | true =>
   rw [List.filter_cons_of_pos hg]
   exact bnI (h3 hg) (mpI (compL_all r fun q hq => h q (.tail _ hq)))
theorem compL_map {bnd : PyData → Option Sig} {tests : Sig → Option Bool} {elt : Sig → Option PyData} {f : PyData → PyData} (items : List PyData) (h : ∀ p ∈ items, ∃ τ, bnd p = some τ ∧ tests τ = some true ∧ elt τ = some (f p)) : compL bnd tests elt items = some (items.map f) := by
 have := compL_all (g := fun _ => true) (f := f) items fun p hp => let ⟨τ, a, b, c⟩ := h p hp; ⟨τ, a, b, fun _ => c⟩
 rw [this, List.filter_eq_self.mpr fun _ _ => rfl]
theorem loopL_inv {bnd : St → PyData → Option St} {body : St → Option (Fl × St)} {I : Nat → St → Prop} : ∀ (items : List PyData) (k : Nat) (S0 : St), I k S0 →
  (∀ i p S0, items[i]? = some p → I (k + i) S0 → ∃ S1 S2, bnd S0 p = some S1 ∧ (body S1 = some (.next, S2) ∨ body S1 = some (.cont, S2)) ∧ I (k + i + 1) S2) → ∃ S', loopL bnd body items S0 = some (.next, S') ∧ I (k + items.length) S'
 | [], k, S0, h0, _ => ⟨S0, rfl, h0⟩
 | p :: r, k, S0, h0, h => by
  obtain ⟨S1, S2, h1, h2, h3⟩ := h 0 p S0 rfl h0
  obtain ⟨S', h4, h5⟩ := loopL_inv (I := I) r (k + 1) S2 h3 fun i q S0 hq hi => by
   have := h (i + 1) q S0 (hq) ((show k + (i + 1) = k + 1 + i by lia) ▸ hi)
   rw [show k + (i + 1) = k + 1 + i by lia] at this; exact this
  refine ⟨S', ?_, by rw [List.length_cons, show k + (r.length + 1) = k + 1 + r.length by lia]; exact h5⟩
  exact bnI h1 (h2.elim (fun h2 => bnI h2 h4) fun h2 => bnI h2 h4)
theorem runFn_of {T : Tab} {params : Arguments} {body : List Stmt} {sc : Scope} {mu own2 : List Str} {args : List X} {σ : Sig} {v : X} {S' : St} (h1 : bindP params.args args = some σ) (h2 : Mine.esL 60 ⟨T, fun y => sc.names.lookup y, mu, own2⟩ body ⟨σ, []⟩ = some (.ret v, S')) : runFn T params body sc mu own2 args = some v := by
 exact bnI h1 (bnI h2 rfl)
end
section
theorem fixL_len (l : List Nat) : ∀ b, (fixB b l).length ≤ 2 * l.length := by
 induction l with
 | nil => exact fun _ => Nat.le_refl _
 | cons c r ih =>
  intro b
  by_cases h : c = 10
  ·subst h; cases b
   ·exact Nat.add_le_add_right (ih false) 2
   ·exact Nat.le_add_right_of_le (ih false)
  ·by_cases h2 : c = 13
   ·subst h2; exact Nat.add_le_add_right (ih true) 2
   ·rw [fixB_c h h2]; exact Nat.le_succ_of_le (Nat.succ_le_succ (ih false))
theorem pat_fix {l : List Nat} (h : l.length ≤ 1048576) : patP "_twin_re_2" "\r\n" ⟨l.toArray⟩ = some ⟨(fixB false l).toArray⟩ := by
 unfold patP
 rw [slen, short_of h, if_pos rfl, if_pos ⟨rfl, rfl⟩]
theorem pat_dot {l : List Nat} (h : l.length ≤ 1048576) : patP "_twin_re_1" ".." ⟨l.toArray⟩ = some ⟨(dotL true l).toArray⟩ := by
 unfold patP
 rw [slen, short_of h, if_pos rfl, if_neg (fun q => by have := q.1; revert this; decide), if_pos ⟨rfl, rfl⟩]
noncomputable def quote (l : List Nat) : List Nat := dotL true (fixB false l)
theorem r_quotedata {l : List Nat} (h : l.length ≤ 100000) : runFn tabB d_quotedata.1.1 d_quotedata.1.2.1 d_quotedata.1.2.2 [] [] [.d (S l)] = some (.d (S (quote l))) := by
 have := fixL_len l false
 exact runFn_of rfl (sStop (sRet (oE rfl (nSubPat rfl rfl ⟨rfl, rfl⟩ (eCons (nConst rfl) (eCons (nSubPat rfl rfl ⟨rfl, rfl⟩ (eCons (nGlobal rfl rfl rfl) (eCons (nName rfl rfl) eNil)) (pat_fix (by exact wk ‹_› rfl))) eNil)) (pat_dot (by lia))))) trivial)
theorem r_fixeols {l : List Nat} (h : l.length ≤ 100000) : runFn T1 d_fixeols.1.1 d_fixeols.1.2.1 d_fixeols.1.2.2 [] [] [.d (S l)] = some (.d (S (fixB false l))) := by
 exact runFn_of rfl (sStop (sRet (oE rfl (nSubPat rfl rfl ⟨rfl, rfl⟩ (eCons (nGlobal rfl rfl rfl) (eCons (nName rfl rfl) eNil)) (pat_fix (by exact wk ‹_› rfl))))) trivial)
noncomputable def tailL (w : Nat) (sent : Bool) : List Nat :=
 if sent then ([[], [12, 46], [120, 13, 10, 13, 10, 13, 10, 13, 10, 32, 46]] : List (List Nat)).getD (w % 3) [] ++ [13, 10]
 else ([[], [12, 46], [120, 10, 10, 13, 13, 32, 46]] : List (List Nat)).getD (w % 3) [] ++ ([[10], [13], [13, 10]] : List (List Nat)).getD (w / 3) []
theorem r_tail (w : Nat) (h : w < 9) (b : Bool) : runFn T11 d_tail.1.1 d_tail.1.2.1 d_tail.1.2.2 [] [] [.d (.int w), .d (.bool b)] = some (.d (S (tailL w b))) := by
 cases b with
 | true => exact lt_S (P := fun w => runFn T11 d_tail.1.1 d_tail.1.2.1 d_tail.1.2.2 [] [] [.d (.int w), .d (.bool true)] = some (.d (S (tailL w true)))) (lt_8 rfl rfl rfl rfl rfl rfl rfl rfl) rfl w h
 | false => exact lt_S (P := fun w => runFn T11 d_tail.1.1 d_tail.1.2.1 d_tail.1.2.2 [] [] [.d (.int w), .d (.bool false)] = some (.d (S (tailL w false)))) (lt_8 rfl rfl rfl rfl rfl rfl rfl rfl) rfl w h
noncomputable def primeN (n : Nat) : Nat := ([1, 1, 2, 3, 2, 5, 1, 7, 2, 3, 1] : List Nat).getD n 1
theorem r_prime (n : Nat) (h : n ≤ 8) : runFn T15 d_prime.1.1 d_prime.1.2.1 d_prime.1.2.2 [] [] [.d (.int n)] = some (.d (.int (primeN n))) :=
 lt_S (P := fun n => runFn T15 d_prime.1.1 d_prime.1.2.1 d_prime.1.2.2 [] [] [.d (.int n)] = some (.d (.int (primeN n)))) (lt_8 rfl rfl rfl rfl rfl rfl rfl rfl) rfl n (Nat.lt_succ_of_le h)
end
section
noncomputable def Run (n : Nat) (G : Fn) (l : List Stmt) (Z : St) (P : Fl → St → Prop) : Prop := ∃ f Z', Mine.esL n G l Z = some (f, Z') ∧ P f Z'
section
variable {n : Nat} {G : Fn} {Z Z1 : St} {l bd o : List Stmt} {P : Fl → St → Prop} {st : Stmt} {e : Expr} {pos : Pos} {tgt it : Expr} {items : List PyData}
theorem nNeg {F : Fx} {σ : Sig} {i : Int} (h : Mine.ee n F e σ = some (.d (.int i))) : Mine.ee (n + 1) F (.UnaryOp .USub e pos) σ = some (.d (.int (-i))) := mpI (eII h)
theorem rNil (h : P .next Z) : Run (n + 1) G [] Z P := ⟨.next, Z, rfl, h⟩
theorem rCons (h : Mine.es n G st Z = some (.next, Z1)) (h2 : Run n G l Z1 P) : Run (n + 1) G (st :: l) Z P := by
 obtain ⟨f, Z', a, b⟩ := h2
 exact ⟨f, Z', sCons h a, b⟩
theorem rRet {v : X} (h : Mine.eo n (G.fx Z) e Z.σ = some v) (h2 : P (.ret v) Z) : Run (n + 2) G (.Return (some e) pos :: l) Z P := ⟨.ret v, Z, sStop (sRet h) trivial, h2⟩
theorem rBrk (h : P .brk Z) : Run (n + 2) G (.Break pos :: l) Z P := ⟨.brk, Z, sStop sBrk trivial, h⟩
noncomputable def After (n : Nat) (G : Fn) (l : List Stmt) (P : Fl → St → Prop) : Fl → St → Prop
 | .next, Z => Run n G l Z P
 | f, Z => P f Z
theorem after_cons (hs : ∀ {z : Fl × St}, Mine.esL n G bd Z = some z → Mine.es (n + 1) G st Z = some z) (h2 : Run n G bd Z (After (n + 1) G l P)) : Run (n + 2) G (st :: l) Z P := by
 obtain ⟨f, Z', a, b⟩ := h2
 have a := hs a
 cases f with
 | next => obtain ⟨f2, Z2, c, d⟩ := b; exact ⟨f2, Z2, sCons a c, d⟩
 | _ => exact ⟨_, _, sStop a trivial, b⟩
theorem rIfT (h : Mine.et n (G.fx Z) e Z.σ = some true) (h2 : Run n G bd Z (After (n + 1) G l P)) : Run (n + 2) G (.If e bd o pos :: l) Z P := after_cons (fun a => sIfT h a) h2
theorem rIfF (h : Mine.et n (G.fx Z) e Z.σ = some false) (h2 : Run n G o Z (After (n + 1) G l P)) : Run (n + 2) G (.If e bd o pos :: l) Z P := after_cons (fun a => sIfF h a) h2
theorem aNext (h : Run n G l Z P) : After n G l P .next Z := h
theorem rStop {f : Fl} (h : Mine.es n G st Z = some (f, Z1)) (hf : match f with | .next => False | _ => True) (h2 : P f Z1) : Run (n + 1) G (st :: l) Z P := ⟨_, _, sStop h hf, h2⟩
theorem loop_run {I : Nat → St → Prop} (Q : Fl → St → Prop) : ∀ (items : List PyData) (k : Nat) (Z : St), I k Z →
  (∀ i p Z0, items[i]? = some p → I (k + i) Z0 → ∃ Z1, bndT G tgt Z0 p = some Z1 ∧ Run n G bd Z1 (fun f Z2 => match f with | .next | .cont => I (k + i + 1) Z2 | .brk => Q .next Z2 | .ret v => Q (.ret v) Z2)) →
  (∀ Z', I (k + items.length) Z' → Q .next Z') → ∃ f Z', loopL (bndT G tgt) (Mine.esL n G bd) items Z = some (f, Z') ∧ (match f with | .next => True | .ret _ => True | _ => False) ∧ Q f Z'
 | [], k, Z, h0, _, hq => ⟨.next, Z, rfl, trivial, hq Z h0⟩
 | p :: r, k, Z, h0, h, hq => by
  obtain ⟨Z1, h1, f, Z2, h2, h3⟩ := h 0 p Z rfl h0
  have next : (Mine.esL n G bd Z1 = some (.next, Z2) ∨ Mine.esL n G bd Z1 = some (.cont, Z2)) → I (k + 0 + 1) Z2 → ∃ f Z', loopL (bndT G tgt) (Mine.esL n G bd) (p :: r) Z = some (f, Z') ∧ (match f with | .next => True | .ret _ => True | _ => False) ∧ Q f Z' := fun h2 h3 => by
   obtain ⟨f, Z', h4, h5, h6⟩ := loop_run (I := I) Q r (k + 1) Z2 h3 (fun i q Z0 hq' hi => by
    have := h (i + 1) q Z0 (hq') ((show k + (i + 1) = k + 1 + i by lia) ▸ hi)
    rw [show k + (i + 1) = k + 1 + i by lia] at this; exact this) (fun Z' hz => hq Z' (by rw [List.length_cons, show k + (r.length + 1) = k + 1 + r.length by lia]; exact hz))
   refine ⟨f, Z', ?_, h5, h6⟩
   exact bnI h1 (h2.elim (fun h2 => bnI h2 h4) fun h2 => bnI h2 h4)
  cases f with
  | next => exact next (.inl h2) h3
  | cont => exact next (.inr h2) h3
  | brk => refine ⟨.next, Z2, ?_, trivial, h3⟩; exact bnI h1 (bnI h2 rfl)
  | ret v => refine ⟨.ret v, Z2, ?_, trivial, h3⟩; exact bnI h1 (bnI h2 rfl)
theorem for_run {I : Nat → St → Prop} {Z0 : St} (hes : ∀ z, loopL (bndT G tgt) (Mine.esL n G bd) items Z0 = some z → Mine.es (n + 1) G (.For tgt it bd [] pos) Z = some z) (h0 : I 0 Z0)
  (step : ∀ i p Z0, items[i]? = some p → I i Z0 → ∃ Z1, bndT G tgt Z0 p = some Z1 ∧ Run n G bd Z1 (fun f Z2 => match f with | .next | .cont => I (i + 1) Z2 | .brk => Run (n + 1) G l Z2 P | .ret v => P (.ret v) Z2))
  (rest : ∀ Z', I items.length Z' → Run (n + 1) G l Z' P) : Run (n + 2) G (.For tgt it bd [] pos :: l) Z P := by
 obtain ⟨f, Z', h1, h2, h3⟩ := loop_run (I := I) (After (n + 1) G l P) items 0 Z0 h0 (fun i p Z0 hp hi => by
  have := step i p Z0 hp (by rw [Nat.zero_add] at hi; exact hi)
  rw [Nat.zero_add]
  obtain ⟨Z1, a, f, Z2, b, c⟩ := this
  exact ⟨Z1, a, f, Z2, b, by cases f <;> exact c⟩) (fun Z' hz => rest Z' (by rw [Nat.zero_add] at hz; exact hz))
 cases f with
 | next => obtain ⟨f2, Z2, c, d⟩ := h3; exact ⟨f2, Z2, sCons (hes _ h1) c, d⟩
 | ret v => exact ⟨_, _, sStop (hes _ h1) trivial, h3⟩
 | brk => exact h2.elim
 | cont => exact h2.elim
theorem rForRange {I : Nat → St → Prop} {gp ip : Pos} (hi : Mine.ei n true (G.fx Z) (.Call (.Name "range" gp) [e] [] ip) Z.σ = some items) (h0 : I 0 Z)
  (step : ∀ i p Z0, items[i]? = some p → I i Z0 → ∃ Z1, bndT G tgt Z0 p = some Z1 ∧ Run n G bd Z1 (fun f Z2 => match f with | .next | .cont => I (i + 1) Z2 | .brk => Run (n + 1) G l Z2 P | .ret v => P (.ret v) Z2))
  (rest : ∀ Z', I items.length Z' → Run (n + 1) G l Z' P) : Run (n + 2) G (.For tgt (.Call (.Name "range" gp) [e] [] ip) bd [] pos :: l) Z P :=
 for_run (fun z h => sForRange hi h) h0 step rest
theorem rFor {I : Nat → St → Prop} (hn : isPlainIt it = true) (hi : Mine.ei n true (G.fx Z) it Z.σ = some items) (h0 : I 0 Z)
  (step : ∀ i p Z0, items[i]? = some p → I i Z0 → ∃ Z1, bndT G tgt Z0 p = some Z1 ∧ Run n G bd Z1 (fun f Z2 => match f with | .next | .cont => I (i + 1) Z2 | .brk => Run (n + 1) G l Z2 P | .ret v => P (.ret v) Z2))
  (rest : ∀ Z', I items.length Z' → Run (n + 1) G l Z' P) : Run (n + 2) G (.For tgt it bd [] pos :: l) Z P :=
 for_run (fun z h => sFor hn hi h) h0 step rest
theorem rForName {I : Nat → St → Prop} {x : Str} {px : Pos} (hi : Mine.ei n true (G.fx ⟨Z.σ, Z.own.filter fun y => !(y == x)⟩) (.Name x px) Z.σ = some items) (h0 : I 0 ⟨Z.σ, Z.own.filter fun y => !(y == x)⟩)
  (step : ∀ i p Z0, items[i]? = some p → I i Z0 → ∃ Z1, bndT G tgt Z0 p = some Z1 ∧ Run n G bd Z1 (fun f Z2 => match f with | .next | .cont => I (i + 1) Z2 | .brk => Run (n + 1) G l Z2 P | .ret v => P (.ret v) Z2))
  (rest : ∀ Z', I items.length Z' → Run (n + 1) G l Z' P) : Run (n + 2) G (.For tgt (.Name x px) bd [] pos :: l) Z P :=
 for_run (Z0 := ⟨Z.σ, Z.own.filter fun y => !(y == x)⟩) (fun z h => sForName hi h) h0 step rest
theorem rForGen {I : Nat → St → Prop} {gp ip : Pos} {g : Str} {p : PyData} (hr : g ≠ "range") (hg : okName g = true ∧ G.kd g = some .globalImplicit) (h1 : Mine.ee n (G.fx Z) e Z.σ = some (.d p)) (h2 : G.T.gen g p = some items) (h0 : I 0 Z)
  (step : ∀ i p Z0, items[i]? = some p → I i Z0 → ∃ Z1, bndT G tgt Z0 p = some Z1 ∧ Run n G bd Z1 (fun f Z2 => match f with | .next | .cont => I (i + 1) Z2 | .brk => Run (n + 1) G l Z2 P | .ret v => P (.ret v) Z2))
  (rest : ∀ Z', I items.length Z' → Run (n + 1) G l Z' P) : Run (n + 2) G (.For tgt (.Call (.Name g gp) [e] [] ip) bd [] pos :: l) Z P :=
 for_run (fun z h => sForGen hr hg h1 h2 h) h0 step rest
end
theorem runFn_run {T : Tab} {params : Arguments} {body : List Stmt} {sc : Scope} {mu own2 : List Str} {args : List X} {σ : Sig} {v : X} (h1 : bindP params.args args = some σ) (h2 : Run 60 ⟨T, fun y => sc.names.lookup y, mu, own2⟩ body ⟨σ, []⟩ (fun f _ => f = .ret v)) : runFn T params body sc mu own2 args = some v := by
 obtain ⟨f, Z', a, rfl⟩ := h2
 exact runFn_of h1 a
noncomputable def natsD (n : Nat) : List PyData := (List.range n).map fun (k : Nat) => .int k
theorem rangeD_N {n : Nat} (h : n ≤ 1048576) : rangeD [.int n] = some (natsD n) := by
 show (if short ((n : Int)).toNat && decide ((n : Int).natAbs ≤ lim) then some (intsD (rangeL 0 n)) else none) = _
 rw [Int.toNat_natCast, Int.natAbs_natCast, short_of h, decide_eq_true (show n ≤ lim from h)]
 show some (intsD (rangeL 0 n)) = _
 delta intsD rangeL natsD
 rw [List.map_map, Int.sub_zero, Int.toNat_natCast]
 congr 1
 apply List.map_congr_left
 intro k _
 show PyData.int (0 + (k : Int)) = _
 rw [Int.zero_add]
theorem rangeD_NN {a b : Nat} (h1 : a ≤ 1048576) (h : b ≤ 1048576) : rangeD [.int a, .int b] = some ((List.range (b - a)).map fun (k : Nat) => .int ((a + k : Nat) : Int)) := by
 show (if short ((b : Int) - a).toNat && decide ((a : Int).natAbs ≤ lim) && decide ((b : Int).natAbs ≤ lim) then some (intsD (rangeL a b)) else none) = _
 have e : ((b : Int) - a).toNat = b - a := by exact tnS
 rw [e, Int.natAbs_natCast, Int.natAbs_natCast, short_of (by exact wkS ‹_› rfl), decide_eq_true (show a ≤ lim from h1), decide_eq_true (show b ≤ lim from h)]
 show some (intsD (rangeL a b)) = _
 delta intsD rangeL
 rw [List.map_map, e]
 congr 1
theorem rangeM_get {a n i : Nat} {p : PyData} (h : ((List.range n).map fun (k : Nat) => PyData.int ((a + k : Nat) : Int))[i]? = some p) : i < n ∧ p = .int ((a + i : Nat) : Int) := by
 rw [List.getElem?_map] at h
 cases q : (List.range n)[i]? with
 | none => rw [q] at h; cases h
 | some k =>
  rw [q] at h
  have hi := (List.getElem?_eq_some_iff.mp q).1
  rw [List.length_range] at hi
  rw [List.getElem?_range hi] at q
  obtain rfl := sm_ q; obtain rfl := sm_ h
  exact ⟨hi, rfl⟩
theorem mul_I {a b : Int} (h1 : a.natAbs < 2 ^ 62) (h2 : b.natAbs < 2 ^ 62) : binD .Mult (.int a) (.int b) = some (.int (a * b)) := by
 show (if decide (a.natAbs < 2 ^ 62) && decide (b.natAbs < 2 ^ 62) then some (PyData.int (a * b)) else none) = _
 rw [decide_eq_true h1, decide_eq_true h2]; rfl
theorem natsD_get {n i : Nat} {p : PyData} (h : (natsD n)[i]? = some p) : i < n ∧ p = .int i := by
 delta natsD at h
 rw [List.getElem?_map] at h
 cases q : (List.range n)[i]? with
 | none => rw [q] at h; cases h
 | some k =>
  rw [q] at h
  have hi := (List.getElem?_eq_some_iff.mp q).1
  rw [List.length_range] at hi
  rw [List.getElem?_range hi] at q
  obtain rfl := sm_ q; obtain rfl := sm_ h
  exact ⟨hi, rfl⟩
theorem cOne {n : Nat} {F : Fx} {e : Expr} {σ : Sig} {b : Bool} (h : Mine.et n F e σ = some b) : Mine.etL (n + 1) F [e] σ = some b := h
theorem cNone {n : Nat} {F : Fx} {σ : Sig} : Mine.etL (n + 1) F [] σ = some true := rfl
theorem eltOf {n : Nat} {F : Fx} {e : Expr} {σ : Sig} {p : PyData} (h : Mine.ee n F e σ = some (.d p)) : eltF n F e σ = some p := dOI h
theorem rep_flat (k c : Nat) : (List.replicate k [c]).flatten = List.replicate k c := by
 induction k with
 | zero => rfl
 | succ k ih => rw [List.replicate_succ, List.flatten_cons, ih]; rfl
theorem dots_S {k c : Nat} (h : k ≤ 1000) : binD .Mult (S [c]) (.int k) = some (S (List.replicate k c)) := by rw [mul_S h (by show 1 ≤ 1000; decide), rep_flat]
end
section
structure Slot where
 t : Nat
 b : Nat
 w : Nat
structure Slot.Ok (s : Slot) : Prop where
 t : s.t < 6
 b : s.b < 2
 w : s.w < 9
noncomputable def things : List (List Nat) := [[], [34, 41, 34], [92, 40], [92, 92], [92, 34], [34, 92, 34, 40, 34]]
noncomputable def thing (t : Nat) : List Nat := things.getD t []
noncomputable def slotD (s : Slot) : PyData := .tuple [S (thing s.t), S [40 + s.b], .int s.w]
noncomputable def ownN : List Nat := [59, 30, 38, 89, 68, 7]
noncomputable def xOf (l : List Int) (k : Nat) : Nat := (((ownN.getD k 0 : Nat) : Int) + (if k < l.length then l.getD k 0 else 0)).fmod 1000000 |>.toNat
noncomputable def slotOf (l : List Int) (k : Nat) : Slot := ⟨xOf l k / 2 % 6, xOf l k % 2, xOf l k / 12 % 9⟩
theorem slotOf_ok (l : List Int) (k : Nat) : (slotOf l k).Ok := ⟨Nat.mod_lt _ (by decide), Nat.mod_lt _ (by decide), Nat.mod_lt _ (by decide)⟩
theorem fdiv_nat (a b : Nat) : Int.fdiv (a : Int) (b : Int) = ((a / b : Nat) : Int) := by exact Int.fdiv_eq_ediv_of_nonneg _ (by exact Int.natCast_nonneg _)
theorem fmod_nat (a b : Nat) : Int.fmod (a : Int) (b : Int) = ((a % b : Nat) : Int) := by exact Int.fmod_eq_emod_of_nonneg _ (by exact Int.natCast_nonneg _)
theorem div_N {a b : Nat} (h : b ≠ 0) (h2 : b < 1048576) : binD .FloorDiv (.int a) (.int b) = some (.int ((a / b : Nat) : Int)) := by
 exact (if_pos (by rw [Int.natAbs_natCast]; lia)).trans (by rw [fdiv_nat])
theorem mod_N {a b : Nat} (h : b ≠ 0) (h2 : b < 1048576) : binD .Mod (.int a) (.int b) = some (.int ((a % b : Nat) : Int)) := by
 exact (if_pos (by rw [Int.natAbs_natCast]; lia)).trans (by rw [fmod_nat])
theorem xOf_int (l : List Int) (k : Nat) : (((ownN.getD k 0 : Nat) : Int) + (if k < l.length then l.getD k 0 else 0)).fmod 1000000 = (xOf l k : Int) := by
 delta xOf
 rw [Int.toNat_of_nonneg (Int.fmod_nonneg_of_pos _ (by decide))]
noncomputable def rowL (l : List Int) (i : Nat) : List PyData := slotD ⟨0, 0, 0⟩ :: (List.range i).map fun k => slotD (slotOf l k)
inductive RowSt (l : List Int) (i : Nat) : St → Prop
 | mk {σ : Sig} (a : σ "own" = some (.d (.list (ownN.map fun (k : Nat) => PyData.int k)))) (t : σ "things" = some (.d (.list (things.map S)))) (s : σ "script" = some (.d (.list (intsD l)))) (r : σ "row" = some (.d (.list (rowL l i)))) : RowSt l i ⟨σ, [("row" : Str)]⟩
theorem thing_len (t : Nat) : (thing t).length ≤ 5 := by
 rcases Nat.lt_or_ge t 6 with h | h
 ·exact (by decide : ∀ i : Fin 6, (thing i.1).length ≤ 5) ⟨t, h⟩
 ·unfold thing
  rw [List.getD_eq_getElem?_getD, List.getElem?_eq_none h]; exact Nat.zero_le _
theorem own_get (i : Nat) (hi : i < 6) : (ownN.map fun (k : Nat) => PyData.int k)[i]? = some (.int ((ownN.getD i 0 : Nat) : Int)) :=
 lt_6 (P := fun i => (ownN.map fun (k : Nat) => PyData.int k)[i]? = some (.int ((ownN.getD i 0 : Nat) : Int))) rfl rfl rfl rfl rfl rfl i hi
theorem br_get (x : Nat) : ([40, 41] : List Nat)[x % 2]? = some (40 + x % 2) := (by decide : ∀ i : Fin 2, ([40, 41] : List Nat)[i.1]? = some (40 + i.1)) ⟨x % 2, Nat.mod_lt x (by decide)⟩
theorem th_get (x : Nat) : (things.map S)[x % 6]? = some (S (thing (x % 6))) := lt_6 (P := fun i => (things.map S)[i]? = some (S (thing i))) rfl rfl rfl rfl rfl rfl _ (Nat.mod_lt x (by decide))
theorem len_ints {l : List Int} (hl : l.length ≤ 1000) : builtD "len" [.list (intsD l)] = some (.int l.length) := by
 rw [len_L (by delta intsD; rw [List.length_map]; exact wk ‹_› rfl)]; delta intsD; rw [List.length_map]
theorem get_ints {l : List Int} {i : Nat} (h : i < l.length) (hl : l.length ≤ 1000) : subD (.list (intsD l)) (.int i) = some (.int (l.getD i 0)) :=
 sub_L (by lia) (by delta intsD; rw [List.getElem?_map, List.getElem?_eq_getElem h, List.getD_eq_getElem?_getD, List.getElem?_eq_getElem h]; rfl)
theorem r_row (l : List Int) (hl : l.length ≤ 1000) : runFn T9 d_row.1.1 d_row.1.2.1 d_row.1.2.2 ["row"] [] [.d (.list (intsD l))] = some (.d (.list (rowL l 6 ++ [slotD ⟨0, 1, 0⟩]))) := by
 refine runFn_run rfl ?_
 refine rCons (sAsg rfl rfl (nList (eCons (nConst rfl) (eCons (nConst rfl) (eCons (nConst rfl) (eCons (nConst rfl) (eCons (nConst rfl) (eCons (nConst rfl) eNil)))))) rfl)) ?_
 refine rCons (sAsg rfl rfl (nList (eCons (nConst rfl) (eCons (nConst rfl) (eCons (nConst rfl) (eCons (nConst rfl) (eCons (nConst rfl) (eCons (nConst rfl) eNil)))))) rfl)) ?_
 refine rCons (sOwn rfl rfl rfl (nList (eCons (nTuple (eCons (nConst rfl) (eCons (nConst rfl) (eCons (nConst rfl) eNil))) rfl) eNil) rfl)) ?_
 refine rForRange (I := RowSt l) (items := natsD 6) (iRange rfl (eCons (nConst rfl) eNil) (rangeD_N (n := 6) (by decide))) ⟨rfl, rfl, rfl, rfl⟩ (fun i p Z hp h => ?_) fun Z h => ?_
 ·obtain ⟨hi, rfl⟩ := natsD_get hp
  obtain @⟨σ, ha, ht, hs, hr⟩ := h
  have lenl : (rowL l i).length = i + 1 := by delta rowL; simp
  refine ⟨_, rfl, ?_⟩
  have fin : ∀ (y : Int), (if i < l.length then l.getD i 0 else 0) = y → binD .Mod (.int (((ownN.getD i 0 : Nat) : Int) + y)) (.int 1000000) = some (.int (xOf l i)) := fun y hy => by
   show (if (1000000 : Int) = 0 ∨ (1000000 : Int).natAbs ≥ 2 ^ 20 then none else some (PyData.int (Int.fmod (((ownN.getD i 0 : Nat) : Int) + y) 1000000))) = _
   rw [if_neg (by decide), ← hy, xOf_int]
  refine rCons (sAsg rfl rfl (nBin (b := .int 1000000) (oE rfl (nBin (b := .int (if i < l.length then l.getD i 0 else 0)) (oSub rfl (nSub rfl (oName rfl ha) (nName rfl rfl) (sub_L (by exact wk (Nat.le_of_lt ‹_›) rfl) (own_get i hi)))) (oE rfl (by
   by_cases hlt : i < l.length
   ·rw [if_pos hlt]
    exact nIfT (tCmp (oName rfl rfl) (oE rfl (nBuilt rfl rfl (by decide) (oCons (oName rfl hs) oNil) (len_ints hl))) (congrArg some (decide_eq_true (by show (i : Int) < l.length; exact Int.ofNat_lt.mpr ‹_›)))) (nSub rfl (oName rfl hs) (nName rfl rfl) (get_ints hlt hl))
   ·rw [if_neg hlt]
    exact nIfF (tCmp (oName rfl rfl) (oE rfl (nBuilt rfl rfl (by decide) (oCons (oName rfl hs) oNil) (len_ints hl))) (congrArg some (decide_eq_false (by show ¬ (i : Int) < l.length; lia)))) (nConst rfl))) rfl))
    (oE rfl (nBin (oE rfl (nConst rfl)) (oE rfl (nConst rfl)) rfl)) (fin _ rfl))) ?_
  refine rCons (sAppend rfl rfl hr (nTuple (eCons (nSub rfl (oName rfl ht) (nBin (oE rfl (nBin (oName rfl rfl) (oE rfl (nConst rfl)) (div_N (b := 2) (by decide) (by decide)))) (oE rfl (nConst rfl)) (mod_N (b := 6) (by decide) (by decide))) (sub_L (by have := Nat.mod_lt (xOf l i / 2) (by decide : 6 > 0); exact wk (Nat.le_of_lt ‹_›) rfl) (th_get (xOf l i / 2))))
   (eCons (nSub rfl (oE rfl (nConst rfl)) (nBin (oName rfl rfl) (oE rfl (nConst rfl)) (mod_N (b := 2) (by decide) (by decide))) (sub_S (by have := Nat.mod_lt (xOf l i) (by decide : 2 > 0); exact wk (Nat.le_of_lt ‹_›) rfl) (br_get (xOf l i))))
   (eCons (nBin (oE rfl (nBin (oName rfl rfl) (oE rfl (nConst rfl)) (div_N (b := 12) (by decide) (by decide)))) (oE rfl (nConst rfl)) (mod_N (b := 9) (by decide) (by decide))) eNil))) rfl) (short_of (by lia))) ?_
  refine rNil ⟨ha, ht, hs, ?_⟩
  show some (X.d (PyData.list (rowL l i ++ [_]))) = _
  delta rowL
  rw [List.range_succ, List.map_append]; rfl
 ·obtain @⟨σ, ha, ht, hs, hr⟩ := h
  refine rCons (sAppend rfl rfl hr (nTuple (eCons (nConst rfl) (eCons (nConst rfl) (eCons (nConst rfl) eNil))) rfl) (short_of (by show (rowL l 6).length ≤ _; delta rowL; simp))) ?_
  exact rRet (oOwn rfl rfl) rfl
end
section
noncomputable def natsL (l : List Nat) : List PyData := l.map fun (n : Nat) => .int n
noncomputable def colF (size : Nat) (c run : Nat) : Nat := ((c + run) / size + 1) * size
noncomputable def colTo (runs : List Nat) (size i : Nat) : Nat := (runs.take i).foldl (colF size) 0
theorem colF_le {size c run : Nat} (h : 1 ≤ size) : colF size c run ≤ c + run + size := by
 unfold colF
 rw [Nat.add_mul, Nat.one_mul]
 have := Nat.div_mul_le_self (c + run) size
 lia
inductive CS (runs : List Nat) (size blanks i : Nat) : St → Prop
 | mk {σ : Sig} (s : σ "size" = some (.d (.int size))) (b : σ "blanks" = some (.d (.int blanks))) (c : σ "column" = some (.d (.int (colTo runs size i)))) (le : colTo runs size i ≤ 1000 * i) : CS runs size blanks i ⟨σ, []⟩
theorem r_column (runs : List Nat) (size blanks : Nat) (h1 : 1 ≤ size) (h2 : size ≤ 100) (h3 : runs.length ≤ 1000) (h4 : ∀ x ∈ runs, x ≤ 100) (hb : blanks ≤ 100) :
  runFn T14 d_column.1.1 d_column.1.2.1 d_column.1.2.2 [] [] [.d (.list (natsL runs)), .d (.int size), .d (.int blanks)] = some (.d (.int ((colTo runs size runs.length + blanks : Nat) : Int))) := by
 refine runFn_run rfl ?_
 refine rCons (sAsg rfl rfl (nConst rfl)) ?_
 refine rForName (I := CS runs size blanks) (iE rfl (nName rfl rfl) rfl) ⟨rfl, rfl, rfl, Nat.zero_le _⟩ (fun i p Z hp h => ?_) fun Z h => ?_
 ·obtain @⟨σ, hs, hbl, hc, hle⟩ := h
  have hp : (natsL runs)[i]? = some p := hp
  unfold natsL at hp
  rw [List.getElem?_map] at hp
  cases hq : runs[i]? with
  | none => rw [hq] at hp; cases hp
  | some x =>
   rw [hq] at hp; cases hp
   have hi := (List.getElem?_eq_some_iff.mp hq).1
   have hx := h4 x (List.mem_of_getElem? hq)
   have e : colTo runs size (i + 1) = ((colTo runs size i + x) / size + 1) * size := by
    unfold colTo
    rw [List.take_add_one, hq, List.foldl_append]; rfl
   have l2 := colF_le (size := size) (c := colTo runs size i) (run := x) h1
   have l2 : ((colTo runs size i + x) / size + 1) * size ≤ colTo runs size i + x + size := l2
   have dl := Nat.div_le_self (colTo runs size i + x) size
   refine ⟨_, rfl, ?_⟩
   refine rCons (sAsg rfl rfl (nBin (oE rfl (nBin (oE rfl (nBin (oE rfl (nBin (oName rfl hc) (oName rfl rfl) (show binD .Add (.int (colTo runs size i)) (.int x) = some (.int ((colTo runs size i + x : Nat) : Int)) from rfl))) (oName rfl hs) (div_N (by exact Nat.ne_of_gt ‹_›) (by exact Nat.lt_of_le_of_lt ‹_› (by decide))))) (oE rfl (nConst rfl)) (show binD .Add (.int ((colTo runs size i + x) / size : Nat)) (.int 1) = some (.int (((colTo runs size i + x) / size + 1 : Nat) : Int)) from rfl))) (oName rfl hs) (mul_I (by rw [Int.natAbs_natCast]; lia) (by rw [Int.natAbs_natCast]; exact Nat.lt_of_le_of_lt ‹_› (by decide))))) ?_
   refine rNil ⟨hs, hbl, ?_, by rw [e]; lia⟩
   rw [e]
   show some (X.d (PyData.int (((((colTo runs size i + x) / size + 1 : Nat) : Int)) * (size : Int)))) = _
   rw [← Int.natCast_mul]
 ·obtain @⟨σ, hs, hbl, hc, hle⟩ := h
  have hl : (natsL runs).length = runs.length := by unfold natsL; rw [List.length_map]
  have hc : σ "column" = some (.d (.int (colTo runs size (natsL runs).length))) := hc
  rw [hl] at hc
  exact rRet (oE rfl (nBin (oName rfl hc) (oName rfl hbl) rfl)) rfl
noncomputable def longI (cnt : List Int) (tr : Int) : Int := if tr > (cnt.length : Int) - 1 then tr else (cnt.length : Int) - 1
theorem r_longest {raw : Str} {n nt : Int} {cnt : List Int} {tr : Int} {sm : Bool} (h : cnt.length ≤ 1000) : runFn T4 d_longest.1.1 d_longest.1.2.1 d_longest.1.2.2 [] [] [.w raw n nt cnt tr sm] = some (.d (.int (longI cnt tr))) := by
 refine runFn_run rfl ?_
 refine rCons (sUnpack (nAttr rfl (nName rfl rfl) rfl) rfl) ?_
 refine rRet (oE rfl (nBuilt rfl rfl (by decide) (oCons (oE rfl (nBin (oE rfl (nBuilt rfl rfl (by decide) (oCons (oName rfl rfl) oNil) (show builtD "len" [.tuple (intsD cnt)] = some (.int cnt.length) from ?_))) (oE rfl (nConst rfl)) rfl)) (oCons (oName rfl rfl) oNil)) rfl)) rfl
 show (if short (intsD cnt).length then some (PyData.int (intsD cnt).length) else none) = _
 have : (intsD cnt).length = cnt.length := by unfold intsD; rw [List.length_map]
 rw [this, short_of (by exact wk ‹_› rfl)]; rfl
noncomputable def ilI (cnt : List Int) (ts m : Nat) : Int := ((List.range m).map fun j => (((ts + j) / ts : Nat) : Int) * cnt.getD (ts + j) 0).sum
noncomputable def indI (cnt : List Int) (tr nt : Int) (ts : Nat) : Int := tr + ts * (ilI cnt ts (cnt.length - ts) + nt)
theorem ilI_succ (cnt : List Int) (ts m : Nat) : ilI cnt ts (m + 1) = ilI cnt ts m + (((ts + m) / ts : Nat) : Int) * cnt.getD (ts + m) 0 := by
 unfold ilI
 rw [List.range_succ, List.map_append, List.sum_append]
 simp
inductive IS (cnt : List Int) (tr : Int) (nt : Int) (raw : Str) (n : Int) (sm : Bool) (ts i : Nat) : St → Prop
 | mk {σ : Sig} (s : σ "self" = some (.w raw n nt cnt tr sm)) (z : σ "tabsize" = some (.d (.int ts))) (c : σ "count" = some (.d (.tuple (intsD cnt)))) (t : σ "trailing" = some (.d (.int tr))) (il : σ "il" = some (.d (.int (ilI cnt ts i)))) : IS cnt tr nt raw n sm ts i ⟨σ, []⟩
theorem ilI_bound {cnt : List Int} {ts : Nat} (hc : ∀ x ∈ cnt, 0 ≤ x ∧ x ≤ 1000) (hts : 1 ≤ ts) : ∀ m, ts + m ≤ 1000 → 0 ≤ ilI cnt ts m ∧ ilI cnt ts m ≤ 1000000 * m
 | 0, _ => ⟨Int.le_refl _, Int.le_refl _⟩
 | m + 1, h => by
  obtain ⟨a, b⟩ := ilI_bound hc hts m (by exact Nat.le_of_lt ‹_›)
  rw [ilI_succ]
  have hg : 0 ≤ cnt.getD (ts + m) 0 ∧ cnt.getD (ts + m) 0 ≤ 1000 := by
   rw [List.getD_eq_getElem?_getD]
   cases q : cnt[ts + m]? with
   | none => exact ⟨by decide, by decide⟩
   | some x => exact hc x (List.mem_of_getElem? q)
  have hd : (ts + m) / ts ≤ 1000 := Nat.le_trans (Nat.div_le_self _ _) (by exact Nat.le_of_lt ‹_›)
  generalize (ts + m) / ts = q at *
  have p1 : 0 ≤ (q : Int) * cnt.getD (ts + m) 0 := Int.mul_nonneg (Int.natCast_nonneg q) hg.1
  have p2 : (q : Int) * cnt.getD (ts + m) 0 ≤ 1000 * 1000 := Int.mul_le_mul (by exact Int.ofNat_le.mpr ‹_›) hg.2 hg.1 (by decide)
  exact ilB ‹_› ‹_› ‹_› ‹_›
theorem r_indent {raw : Str} {n nt : Int} {cnt : List Int} {tr : Int} {sm : Bool} {ts : Nat} (h : cnt.length ≤ 900) (hc : ∀ x ∈ cnt, 0 ≤ x ∧ x ≤ 1000) (h1 : 1 ≤ ts) (h2 : ts ≤ 100) (hn : 0 ≤ nt ∧ nt ≤ 1000) :
  runFn T5 d_indent.1.1 d_indent.1.2.1 d_indent.1.2.2 [] [] [.w raw n nt cnt tr sm, .d (.int ts)] = some (.d (.int (indI cnt tr nt ts))) := by
 have il : (intsD cnt).length = cnt.length := by unfold intsD; rw [List.length_map]
 refine runFn_run rfl ?_
 refine rCons (sUnpack (nAttr rfl (nName rfl rfl) rfl) rfl) ?_
 refine rCons (sAsg rfl rfl (nConst rfl)) ?_
 refine rFor (I := IS cnt tr nt raw n sm ts) rfl (iRange rfl (eCons (nName rfl rfl) (eCons (nBuilt rfl rfl (by decide) (oCons (oName rfl rfl) oNil) (show builtD "len" [.tuple (intsD cnt)] = some (.int cnt.length) from ?_)) eNil)) (rangeD_NN (a := ts) (b := cnt.length) (by exact wk ‹_› rfl) (by exact wk ‹_› rfl))) ⟨rfl, rfl, rfl, rfl, rfl⟩ (fun i p Z hp hI => ?_) fun Z hI => ?_
 ·show (if short (intsD cnt).length then some (PyData.int (intsD cnt).length) else none) = _
  rw [il, short_of (by exact wk ‹_› rfl)]; rfl
 ·obtain ⟨hi, rfl⟩ := rangeM_get hp
  obtain @⟨σ, hs, hz, hcc, ht, hil⟩ := hI
  have lt : ts + i < cnt.length := by lia
  have g : (intsD cnt)[ts + i]? = some (.int (cnt.getD (ts + i) 0)) := by
   unfold intsD
   rw [List.getElem?_map, List.getElem?_eq_getElem lt, List.getD_eq_getElem?_getD, List.getElem?_eq_getElem lt]; rfl
  have hg := hc (cnt.getD (ts + i) 0) (by rw [List.getD_eq_getElem?_getD, List.getElem?_eq_getElem lt]; exact List.getElem_mem _)
  have hd : (ts + i) / ts ≤ 1000 := Nat.le_trans (Nat.div_le_self _ _) (by lia)
  refine ⟨_, rfl, ?_⟩
  refine rCons (sAsg rfl rfl (nBin (oName rfl hil) (oE rfl (nBin (oE rfl (nBin (oName rfl rfl) (oName rfl hz) (div_N (by exact Nat.ne_of_gt ‹_›) (by exact Nat.lt_of_le_of_lt ‹_› (by decide))))) (oSub rfl (nSub rfl (oName rfl hcc) (nName rfl rfl) (sub_T (by lia) g))) (mul_I (by rw [Int.natAbs_natCast]; exact Nat.lt_of_le_of_lt ‹_› (by decide)) (by lia)))) rfl)) ?_
  refine rNil ⟨hs, hz, hcc, ht, ?_⟩
  rw [ilI_succ]; rfl
 ·obtain @⟨σ, hs, hz, hcc, ht, hil⟩ := hI
  rw [List.length_map, List.length_range] at hil
  obtain ⟨b1, b2⟩ := ilI_bound hc h1 (cnt.length - ts) (by exact tsL ‹_› ‹_› rfl)
  exact rRet (oE rfl (nBin (oName rfl ht) (oE rfl (nBin (oName rfl hz) (oE rfl (nBin (oName rfl hil) (oE rfl (nAttr rfl (nName rfl hs) rfl)) rfl)) (mul_I (by rw [Int.natAbs_natCast]; exact Nat.lt_of_le_of_lt ‹_› (by decide)) (by omega)))) rfl)) rfl
end
section
theorem ne_I (a b : Int) : cmpD .NotEq (.int a) (.int b) = some (decide (a ≠ b)) := by
 have : cmpD .NotEq (.int a) (.int b) = if SeqAt.shaped (.int a) && SeqAt.shaped (.int b) then some (!PyData.eqv (.int a) (.int b)) else none := rfl
 have sh : ∀ a : Int, SeqAt.shaped (.int a) = true := fun a => by simp [SeqAt.shaped, PyData.canLay0, PyData.depth]
 rw [this, sh, sh]
 show some (!(a == b)) = _
 congr 1
 by_cases h : a = b
 ·subst h; simp
 ·rw [decide_eq_true h, beq_eq_false_iff_ne.mpr h]; rfl
structure WOk (cnt : List Int) (nt : Int) : Prop where
 len : cnt.length ≤ 900
 c : ∀ x ∈ cnt, 0 ≤ x ∧ x ≤ 1000
 nt : 0 ≤ nt ∧ nt ≤ 1000
noncomputable def witD (f g : Nat → Int) (p : Nat → Bool) (N : Nat) : List PyData := ((List.range N).filter fun i => p (1 + i)).map fun i => .tuple [.int ((1 + i : Nat) : Int), .int (f (1 + i)), .int (g (1 + i))]
theorem witD_succ (f g : Nat → Int) (p : Nat → Bool) (N : Nat) : witD f g p (N + 1) = if p (1 + N) then witD f g p N ++ [.tuple [.int ((1 + N : Nat) : Int), .int (f (1 + N)), .int (g (1 + N))]] else witD f g p N := by
 unfold witD
 rw [List.range_succ, List.filter_append, List.map_append]
 by_cases h : p (1 + N) = true
 ·rw [if_pos h, show [N].filter (fun i => p (1 + i)) = [N] by simp [h]]; rfl
 ·rw [if_neg h, show [N].filter (fun i => p (1 + i)) = [] by simp [h]]; simp
theorem witD_len (f g : Nat → Int) (p : Nat → Bool) (N : Nat) : (witD f g p N).length ≤ N := by
 unfold witD
 rw [List.length_map]
 exact Nat.le_trans (List.length_filter_le _ _) (by rw [List.length_range]; exact Nat.le_refl _)
inductive NS (x y : X) (f g : Nat → Int) (p : Nat → Bool) (i : Nat) : St → Prop
 | mk {σ : Sig} (s : σ "self" = some x) (o : σ "other" = some y) (a : σ "a" = some (.d (.list (witD f g p i)))) : NS x y f g p i ⟨σ, [("a" : Str)]⟩
section
variable {raw raw' : Str} {n n' nt nt' tr tr' : Int} {cnt cnt' : List Int} {sm sm' : Bool} {N : Nat}
theorem r_unequal (h : WOk cnt nt) (h' : WOk cnt' nt') (hN : (if longI cnt' tr' > longI cnt tr then longI cnt' tr' else longI cnt tr) + 1 = (N : Int)) (h100 : N ≤ 100) :
  runFn T6 d_unequal.1.1 d_unequal.1.2.1 d_unequal.1.2.2 ["a"] [] [.w raw n nt cnt tr sm, .w raw' n' nt' cnt' tr' sm'] = some (.d (.list (witD (indI cnt tr nt) (indI cnt' tr' nt') (fun ts => decide (indI cnt tr nt ts ≠ indI cnt' tr' nt' ts)) N))) := by
 refine runFn_run rfl ?_
 refine rCons (sAsg rfl rfl (nBin (oE rfl (nBuilt rfl rfl (by decide) (oCons (oE rfl (nWMeth rfl (by decide) (by decide) (nName rfl rfl) xNil (r_longest (Nat.le_trans h.len (by decide))))) (oCons (oE rfl (nWMeth rfl (by decide) (by decide) (nName rfl rfl) xNil (r_longest (Nat.le_trans h'.len (by decide))))) oNil)) rfl)) (oE rfl (nConst rfl)) (congrArg (fun z => some (PyData.int z)) hN))) ?_
 refine rCons (sOwn rfl rfl rfl (nList eNil rfl)) ?_
 refine rFor (I := NS _ _ (indI cnt tr nt) (indI cnt' tr' nt') (fun ts => decide (indI cnt tr nt ts ≠ indI cnt' tr' nt' ts))) rfl (iRange rfl (eCons (nConst rfl) (eCons (nBin (oName rfl rfl) (oE rfl (nConst rfl)) (show binD .Add (.int N) (.int 1) = some (.int ((N + 1 : Nat) : Int)) from rfl)) eNil)) (rangeD_NN (a := 1) (b := N + 1) (by decide) (by exact Nat.lt_of_le_of_lt ‹_› (by decide)))) ⟨rfl, rfl, rfl⟩ (fun i p Z hp hI => ?_) fun Z hI => ?_
 ·obtain ⟨hi, rfl⟩ := rangeM_get hp
  obtain @⟨σ, hs, ho, ha⟩ := hI
  have hwl := witD_len (indI cnt tr nt) (indI cnt' tr' nt') (fun ts => decide (indI cnt tr nt ts ≠ indI cnt' tr' nt' ts)) i
  have R1 := r_indent (raw := raw) (n := n) (tr := tr) (sm := sm) h.len h.c (ts := 1 + i) (by exact Nat.le_add_right _ _) (by lia) h.nt
  have R2 := r_indent (raw := raw') (n := n') (tr := tr') (sm := sm') h'.len h'.c (ts := 1 + i) (by exact Nat.le_add_right _ _) (by lia) h'.nt
  refine ⟨_, rfl, ?_⟩
  by_cases hne : indI cnt tr nt (1 + i) ≠ indI cnt' tr' nt' (1 + i)
  ·refine rIfT (tCmp (oE rfl (nWMeth rfl (by decide) (by decide) (nName rfl hs) (xCons (nName rfl rfl) xNil) R1)) (oE rfl (nWMeth rfl (by decide) (by decide) (nName rfl ho) (xCons (nName rfl rfl) xNil) R2)) ((ne_I _ _).trans (congrArg some (decide_eq_true hne)))) ?_
   refine rCons (sAppend rfl rfl ha (nTuple (eCons (nName rfl rfl) (eCons (nWMeth rfl (by decide) (by decide) (nName rfl hs) (xCons (nName rfl rfl) xNil) R1) (eCons (nWMeth rfl (by decide) (by decide) (nName rfl ho) (xCons (nName rfl rfl) xNil) R2) eNil))) rfl) (short_of (by exact unL ‹_› ‹_› ‹_› rfl))) ?_
   refine rNil (aNext (rNil ⟨hs, ho, ?_⟩))
   rw [witD_succ, if_pos (decide_eq_true hne)]; rfl
  ·refine rIfF (tCmp (oE rfl (nWMeth rfl (by decide) (by decide) (nName rfl hs) (xCons (nName rfl rfl) xNil) R1)) (oE rfl (nWMeth rfl (by decide) (by decide) (nName rfl ho) (xCons (nName rfl rfl) xNil) R2)) ((ne_I _ _).trans (congrArg some (decide_eq_false hne)))) ?_
   refine rNil (aNext (rNil ⟨hs, ho, ?_⟩))
   rw [witD_succ, if_neg (by simpa using hne)]; exact ha
 ·obtain @⟨σ, hs, ho, ha⟩ := hI
  rw [List.length_map, List.length_range, Nat.add_sub_cancel] at ha
  exact rRet (oOwn rfl ha) rfl
theorem r_unless (h : WOk cnt nt) (h' : WOk cnt' nt') (hN : (if longI cnt' tr' > longI cnt tr then longI cnt' tr' else longI cnt tr) + 1 = (N : Int)) (h100 : N ≤ 100) :
  runFn T7 d_unless.1.1 d_unless.1.2.1 d_unless.1.2.2 ["a"] [] [.w raw n nt cnt tr sm, .w raw' n' nt' cnt' tr' sm'] = some (.d (.list (witD (indI cnt tr nt) (indI cnt' tr' nt') (fun ts => decide (indI cnt tr nt ts ≥ indI cnt' tr' nt' ts)) N))) := by
 refine runFn_run rfl ?_
 refine rCons (sAsg rfl rfl (nBin (oE rfl (nBuilt rfl rfl (by decide) (oCons (oE rfl (nWMeth rfl (by decide) (by decide) (nName rfl rfl) xNil (r_longest (Nat.le_trans h.len (by decide))))) (oCons (oE rfl (nWMeth rfl (by decide) (by decide) (nName rfl rfl) xNil (r_longest (Nat.le_trans h'.len (by decide))))) oNil)) rfl)) (oE rfl (nConst rfl)) (congrArg (fun z => some (PyData.int z)) hN))) ?_
 refine rCons (sOwn rfl rfl rfl (nList eNil rfl)) ?_
 refine rFor (I := NS _ _ (indI cnt tr nt) (indI cnt' tr' nt') (fun ts => decide (indI cnt tr nt ts ≥ indI cnt' tr' nt' ts))) rfl (iRange rfl (eCons (nConst rfl) (eCons (nBin (oName rfl rfl) (oE rfl (nConst rfl)) (show binD .Add (.int N) (.int 1) = some (.int ((N + 1 : Nat) : Int)) from rfl)) eNil)) (rangeD_NN (a := 1) (b := N + 1) (by decide) (by exact Nat.lt_of_le_of_lt ‹_› (by decide)))) ⟨rfl, rfl, rfl⟩ (fun i p Z hp hI => ?_) fun Z hI => ?_
 ·obtain ⟨hi, rfl⟩ := rangeM_get hp
  obtain @⟨σ, hs, ho, ha⟩ := hI
  have hwl := witD_len (indI cnt tr nt) (indI cnt' tr' nt') (fun ts => decide (indI cnt tr nt ts ≥ indI cnt' tr' nt' ts)) i
  have R1 := r_indent (raw := raw) (n := n) (tr := tr) (sm := sm) h.len h.c (ts := 1 + i) (by exact Nat.le_add_right _ _) (by lia) h.nt
  have R2 := r_indent (raw := raw') (n := n') (tr := tr') (sm := sm') h'.len h'.c (ts := 1 + i) (by exact Nat.le_add_right _ _) (by lia) h'.nt
  refine ⟨_, rfl, ?_⟩
  by_cases hne : indI cnt tr nt (1 + i) ≥ indI cnt' tr' nt' (1 + i)
  ·refine rIfT (tCmp (oE rfl (nWMeth rfl (by decide) (by decide) (nName rfl hs) (xCons (nName rfl rfl) xNil) R1)) (oE rfl (nWMeth rfl (by decide) (by decide) (nName rfl ho) (xCons (nName rfl rfl) xNil) R2)) (congrArg some (decide_eq_true hne))) ?_
   refine rCons (sAppend rfl rfl ha (nTuple (eCons (nName rfl rfl) (eCons (nWMeth rfl (by decide) (by decide) (nName rfl hs) (xCons (nName rfl rfl) xNil) R1) (eCons (nWMeth rfl (by decide) (by decide) (nName rfl ho) (xCons (nName rfl rfl) xNil) R2) eNil))) rfl) (short_of (by exact unL ‹_› ‹_› ‹_› rfl))) ?_
   refine rNil (aNext (rNil ⟨hs, ho, ?_⟩))
   rw [witD_succ, if_pos (decide_eq_true hne)]; rfl
  ·refine rIfF (tCmp (oE rfl (nWMeth rfl (by decide) (by decide) (nName rfl hs) (xCons (nName rfl rfl) xNil) R1)) (oE rfl (nWMeth rfl (by decide) (by decide) (nName rfl ho) (xCons (nName rfl rfl) xNil) R2)) (congrArg some (decide_eq_false hne))) ?_
   refine rNil (aNext (rNil ⟨hs, ho, ?_⟩))
   rw [witD_succ, if_neg (by rw [decide_eq_false hne]; simp)]; exact ha
 ·obtain @⟨σ, hs, ho, ha⟩ := hI
  rw [List.length_map, List.length_range, Nat.add_sub_cancel] at ha
  exact rRet (oOwn rfl ha) rfl
end
end
section
noncomputable def rowD (r : List Slot) : PyData := .list (r.map slotD)
theorem add_L {a b : List PyData} (h : a.length + b.length ≤ 1048576) : binD .Add (.list a) (.list b) = some (.list (a ++ b)) := by
 show (if short a.length && short b.length then some (PyData.list (a ++ b)) else none) = _
 rw [short_of (by lia), short_of (by lia)]; rfl
theorem cut_take {α : Type} (l : List α) (k : Nat) : cutL l none (some k) = l.take k := by
 unfold cutL
 simp
theorem cut_drop {α : Type} (l : List α) (k : Nat) : cutL l (some k) none = l.drop k := by
 unfold cutL
 simp [List.take_of_length_le]
theorem thing_ok (t : Nat) : okL (thing t) := by
 unfold okL thing things
 match t with
 | 0 => decide
 | 1 => decide
 | 2 => decide
 | 3 => decide
 | 4 => decide
 | 5 => decide
 | n + 6 => intro c hc; cases hc
theorem okL_take {l : List Nat} (h : okL l) (k : Nat) : okL (l.take k) := fun c hc => h c (List.mem_of_mem_take hc)
theorem okL_one {c : Nat} (h : c < 1114112) : okL [c] := fun d hd => by rw [List.mem_singleton.mp hd]; exact h
noncomputable def shownAt (r : List Slot) (k : Nat) : List (List Nat) := (if (thing (r.getD k ⟨0, 0, 0⟩).t).take 1 = [92] then [thing (r.getD k ⟨0, 0, 0⟩).t] else []) ++ [[40 + (r.getD k ⟨0, 0, 0⟩).b], [97 + k]]
noncomputable def shownTo (r : List Slot) (i : Nat) : List (List Nat) := (List.range i).flatMap (shownAt r)
noncomputable def plc (L : List (List Nat)) (i : Nat) : Int := (((L.take i).map List.length).sum : Nat) - (1 : Int)
noncomputable def unitsTo (L : List (List Nat)) (i : Nat) : List PyData := (List.range i).map fun j => .tuple [.int (plc L (j + 1)), S (L.getD j [])]
theorem shown_len (r : List Slot) (i : Nat) : (shownTo r i).length ≤ 3 * i := by
 unfold shownTo
 induction i with
 | zero => exact Nat.le_refl _
 | succ i ih =>
  rw [List.range_succ, List.flatMap_append, List.length_append]
  have : ([i].flatMap (shownAt r)).length ≤ 3 := by
   show (shownAt r i ++ []).length ≤ 3
   rw [List.append_nil]; unfold shownAt
   split <;> simp
  lia
theorem rget {r : List Slot} {k : Nat} (h : k < r.length) : (r.map slotD)[k]? = some (slotD (r.getD k ⟨0, 0, 0⟩)) := by
 rw [List.getElem?_map, List.getElem?_eq_getElem h, List.getD_eq_getElem?_getD, List.getElem?_eq_getElem h]; rfl
theorem abc_get (i : Nat) (h : i < 8) : ([97, 98, 99, 100, 101, 102, 103, 104] : List Nat)[i]? = some (97 + i) := (by decide : ∀ i : Fin 8, ([97, 98, 99, 100, 101, 102, 103, 104] : List Nat)[i.1]? = some (97 + i.1)) ⟨i, h⟩
theorem plc_succ {L : List (List Nat)} {i : Nat} {u : List Nat} (h : L[i]? = some u) : plc L (i + 1) = plc L i + u.length := by
 unfold plc
 rw [List.take_add_one, h, List.map_append, List.sum_append]
 simp
 lia
inductive UA (r : List Slot) (i : Nat) : St → Prop
 | mk {σ : Sig} (ro : σ "row" = some (.d (rowD r))) (s : σ "shown" = some (.d (.list ((shownTo r i).map S)))) : UA r i ⟨σ, [("shown" : Str)]⟩
inductive UB (L : List (List Nat)) (i : Nat) : St → Prop
 | mk {σ : Sig} (p : σ "place" = some (.d (.int (plc L i)))) (u : σ "units" = some (.d (.list (unitsTo L i)))) : UB L i ⟨σ, [("units" : Str), ("shown" : Str)]⟩
noncomputable def allUnits (r : List Slot) : List (List Nat) := shownTo r 8 ++ [[34], [122], [92]]
theorem r_units (r : List Slot) (hr : r.length = 8) (hok : ∀ s ∈ r, s.Ok) : runFn T10 d_units.1.1 d_units.1.2.1 d_units.1.2.2 ["shown", "units"] [] [.d (rowD r)] = some (.d (.list (unitsTo (allUnits r) (allUnits r).length))) := by
 refine runFn_run rfl ?_
 refine rCons (sOwn rfl rfl rfl (nList eNil rfl)) ?_
 refine rForRange (I := UA r) (items := natsD 8) (iRange rfl (eCons (nConst rfl) eNil) (rangeD_N (n := 8) (by decide))) ⟨rfl, rfl⟩ (fun i p Z hp h => ?_) fun Z h => ?_
 ·obtain ⟨hi, rfl⟩ := natsD_get hp
  obtain @⟨σ, ha, hs⟩ := h
  have rg := rget (r := r) (k := i) (by lia)
  have hb : (r.getD i ⟨0, 0, 0⟩).Ok := hok _ (by rw [List.getD_eq_getElem?_getD, List.getElem?_eq_getElem (by lia : i < r.length)]; exact List.getElem_mem _)
  have sl := shown_len r i
  refine ⟨_, rfl, ?_⟩
  generalize hsl : r.getD i ⟨0, 0, 0⟩ = s at *
  by_cases h92 : (thing s.t).take 1 = [92]
  ·refine rIfT (tCmp (oE rfl (nSlice (oE rfl (nSub rfl (oSub rfl (nSub rfl (oName rfl ha) (nName rfl rfl) (sub_L (by exact wk (Nat.le_of_lt ‹_›) rfl) rg))) (nConst rfl) (sub_T (k := 0) (by decide) rfl))) pNone (pSome (k := 1) (nConst rfl) rfl (by decide)) (slice_S (by have := thing_len s.t; exact wk ‹_› rfl)))) (oE rfl (nConst rfl)) (by
     rw [cut_take]
     exact (eq_S (b := [92]) (okL_take (thing_ok _) 1) (okL_one (by decide))).trans (congrArg some (decide_eq_true h92)))) ?_
   refine rCons (sAppend rfl rfl hs (nSub rfl (oSub rfl (nSub rfl (oName rfl ha) (nName rfl rfl) (sub_L (by exact wk (Nat.le_of_lt ‹_›) rfl) rg))) (nConst rfl) (sub_T (k := 0) (by decide) rfl)) (short_of (by rw [List.length_map]; lia))) ?_
   refine rNil (aNext ?_)
   refine rCons (sExtend rfl rfl rfl (nList (eCons (nSub rfl (oSub rfl (nSub rfl (oName rfl ha) (nName rfl rfl) (sub_L (by exact wk (Nat.le_of_lt ‹_›) rfl) rg))) (nConst rfl) (sub_T (k := 1) (by decide) rfl)) (eCons (nSub rfl (oE rfl (nConst rfl)) (nName rfl rfl) (sub_S (by exact wk (Nat.le_of_lt ‹_›) rfl) (abc_get i hi))) eNil)) rfl) (by rw [short_of (by simp; lia)]; rfl)) ?_
   refine rNil ⟨ha, ?_⟩
   show some (X.d (PyData.list ((shownTo r i).map S ++ [S (thing s.t)] ++ [S [40 + s.b], S [97 + i]]))) = _
   unfold shownTo
   rw [List.range_succ, List.flatMap_append, List.map_append]
   show _ = some (X.d (PyData.list (_ ++ (shownAt r i ++ []).map S)))
   unfold shownAt
   rw [hsl, if_pos h92, List.append_assoc]; rfl
  ·refine rIfF (tCmp (oE rfl (nSlice (oE rfl (nSub rfl (oSub rfl (nSub rfl (oName rfl ha) (nName rfl rfl) (sub_L (by exact wk (Nat.le_of_lt ‹_›) rfl) rg))) (nConst rfl) (sub_T (k := 0) (by decide) rfl))) pNone (pSome (k := 1) (nConst rfl) rfl (by decide)) (slice_S (by have := thing_len s.t; exact wk ‹_› rfl)))) (oE rfl (nConst rfl)) (by
     rw [cut_take]
     exact (eq_S (b := [92]) (okL_take (thing_ok _) 1) (okL_one (by decide))).trans (congrArg some (decide_eq_false h92)))) ?_
   refine rNil (aNext ?_)
   refine rCons (sExtend rfl rfl hs (nList (eCons (nSub rfl (oSub rfl (nSub rfl (oName rfl ha) (nName rfl rfl) (sub_L (by exact wk (Nat.le_of_lt ‹_›) rfl) rg))) (nConst rfl) (sub_T (k := 1) (by decide) rfl)) (eCons (nSub rfl (oE rfl (nConst rfl)) (nName rfl rfl) (sub_S (by exact wk (Nat.le_of_lt ‹_›) rfl) (abc_get i hi))) eNil)) rfl) (by rw [short_of (by simp; lia)]; rfl)) ?_
   refine rNil ⟨ha, ?_⟩
   show some (X.d (PyData.list ((shownTo r i).map S ++ [S [40 + s.b], S [97 + i]]))) = _
   unfold shownTo
   rw [List.range_succ, List.flatMap_append, List.map_append]
   show _ = some (X.d (PyData.list (_ ++ (shownAt r i ++ []).map S)))
   unfold shownAt
   rw [hsl, if_neg h92]; rfl
 ·obtain @⟨σ, ha, hs⟩ := h
  have sl := shown_len r 8
  rw [show (natsD 8).length = 8 from rfl] at hs
  have hal : (allUnits r).length ≤ 27 := by unfold allUnits; rw [List.length_append]; show _ + 3 ≤ _; exact adc ‹_› rfl
  refine rCons (sOwn rfl rfl rfl (nList eNil rfl)) ?_
  refine rCons (sAsg rfl rfl (nNeg (nConst rfl))) ?_
  refine rFor (I := UB (allUnits r)) (items := (allUnits r).map S) rfl (iE rfl (nBin (oOwn rfl hs) (oE rfl (nList (eCons (nConst rfl) (eCons (nConst rfl) (eCons (nConst rfl) eNil))) rfl)) (add_L (by simp; exact wk ‹_› rfl))) (by
   show some (List.map S (shownTo r 8) ++ [S [34], S [122], S [92]]) = some (List.map S (shownTo r 8 ++ [[34], [122], [92]]))
   rw [List.map_append]; rfl)) ⟨rfl, rfl⟩ (fun i p Z hp h => ?_) fun Z h => ?_
  ·obtain @⟨σ, hpl, hu⟩ := h
   rw [List.getElem?_map] at hp
   cases hq : (allUnits r)[i]? with
   | none => rw [hq] at hp; cases hp
   | some u =>
    rw [hq] at hp; cases hp
    have hi := (List.getElem?_eq_some_iff.mp hq).1
    have ul : u.length ≤ 5 := by
     have hm := List.mem_of_getElem? hq
     unfold allUnits at hm
     rcases List.mem_append.mp hm with hm | hm
     ·unfold shownTo at hm
      obtain ⟨k, _, hm⟩ := List.mem_flatMap.mp hm
      unfold shownAt at hm
      rcases List.mem_append.mp hm with hm | hm
      ·split at hm
       ·rw [List.mem_singleton.mp hm]; exact thing_len _
       ·cases hm
      ·rcases List.mem_cons.mp hm with q | q
       ·rw [q]; show 1 ≤ 5; decide
       ·rw [List.mem_singleton.mp q]; show 1 ≤ 5; decide
     ·rcases List.mem_cons.mp hm with q | hm
      ·rw [q]; decide
      ·rcases List.mem_cons.mp hm with q | hm
       ·rw [q]; decide
       ·rw [List.mem_singleton.mp hm]; decide
    refine ⟨_, rfl, ?_⟩
    refine rCons (sAug rfl hpl (nBuilt rfl rfl (by decide) (oCons (oName rfl rfl) oNil) (len_S (by exact wk ‹_› rfl))) rfl) ?_
    refine rCons (sAppend rfl rfl hu (nTuple (eCons (nName rfl rfl) (eCons (nName rfl rfl) eNil)) rfl) (short_of (by unfold unitsTo; simp; lia))) ?_
    refine rNil ⟨?_, ?_⟩
    ·rw [plc_succ hq]; rfl
    ·show some (X.d (PyData.list (unitsTo (allUnits r) i ++ [.tuple [.int (plc (allUnits r) i + u.length), S u]]))) = _
     have e : unitsTo (allUnits r) (i + 1) = unitsTo (allUnits r) i ++ [.tuple [.int (plc (allUnits r) i + u.length), S u]] := by
      unfold unitsTo
      rw [List.range_succ, List.map_append]
      show _ ++ [PyData.tuple [.int (plc (allUnits r) (i + 1)), S ((allUnits r).getD i [])]] = _
      rw [plc_succ hq, List.getD_eq_getElem?_getD, hq]; rfl
     rw [e]
  ·obtain @⟨σ, hpl, hu⟩ := h
   rw [List.length_map] at hu
   exact rRet (oOwn rfl hu) rfl
end
section
structure Sp where
 start : Nat
 op : Option Nat
 res : List (List Nat)
noncomputable def cutR (a : List Nat) (i j : Nat) : List Nat := (a.drop i).take (j - i)
noncomputable def spStep (a : List Nat) (z : Sp) (q : Nat × List Nat) : Sp :=
 if q.2 = [34] then (match z.op with
  | none => ⟨z.start, some q.1, z.res⟩
  | some o => ⟨q.1 + 1, none, if z.start ≠ o then z.res ++ [cutR a z.start o] else z.res⟩) else z
noncomputable def spTo (a : List Nat) (i : Nat) : Sp := ((outL false 0 a).take i).foldl (spStep a) ⟨0, none, []⟩
noncomputable def spEnd (a : List Nat) (z : Sp) : List Nat := (if z.start < a.length then z.res ++ [a.drop z.start] else z.res).flatten
noncomputable def stripL (a : List Nat) : List Nat := spEnd a ((outL false 0 a).foldl (spStep a) ⟨0, none, []⟩)
theorem escL_mem (l : List Nat) : ∀ (b : Bool) (p : Nat), (b = true → 0 < p) → ∀ q ∈ outL b p l, q.1 < p + l.length ∧ ∀ c ∈ q.2, c = 92 ∨ c ∈ l := by
 induction l with
 | nil =>
  intro b p h q hq
  cases b with
  | false => cases hq
  | true => exact (List.mem_singleton.mp hq) ▸ ⟨Nat.sub_lt (h rfl) Nat.one_pos, fun c hc => .inl (List.mem_singleton.mp hc)⟩
 | cons c r ih =>
  intro b p h q hq
  have up : ∀ b', (b' = true → 0 < p + 1) → q ∈ outL b' (p + 1) r → q.1 < p + (r.length + 1) ∧ ∀ d ∈ q.2, d = 92 ∨ d ∈ c :: r := fun b' h' m =>
   ⟨by have := (ih b' (p + 1) h' q m).1; lia, fun d hd => ((ih b' (p + 1) h' q m).2 d hd).imp_right (List.mem_cons_of_mem _)⟩
  have one : ∀ u : List Nat, (∀ d ∈ u, d = 92 ∨ d ∈ c :: r) → q ∈ (p, u) :: outL false (p + 1) r → q.1 < p + (r.length + 1) ∧ ∀ d ∈ q.2, d = 92 ∨ d ∈ c :: r := fun u hu m =>
   (List.mem_cons.mp m).elim (fun e => e ▸ ⟨Nat.lt_add_of_pos_right (Nat.succ_pos _), hu⟩) (up false fun z => nomatch z)
  cases b with
  | true => exact one [92, c] (fun d hd => (List.mem_cons.mp hd).imp id fun e => by rw [List.mem_singleton.mp e]; exact .head _) hq
  | false =>
   by_cases h92 : c = 92
   ·subst h92; exact up true (fun _ => Nat.succ_pos _) hq
   ·rw [outL_ff h92] at hq; exact one [c] (fun d hd => .inr ((List.mem_singleton.mp hd) ▸ .head _)) hq
structure SpOk (a : List Nat) (i : Nat) (z : Sp) : Prop where
 st : z.start ≤ a.length
 op : ∀ o, z.op = some o → o ≤ a.length
 len : z.res.length ≤ i
 each : ∀ x ∈ z.res, x.length ≤ a.length
theorem spStep_ok {a : List Nat} {i : Nat} {z : Sp} {q : Nat × List Nat} (h : SpOk a i z) (hq : q.1 < a.length) : SpOk a (i + 1) (spStep a z q) := by
 delta spStep
 split
 ·split
  ·exact ⟨h.st, fun o e => by obtain rfl := sm_ e; exact Nat.le_of_lt hq, Nat.le_succ_of_le h.len, h.each⟩
  ·rename_i o ho
   refine ⟨hq, fun o e => (nomatch e), ?_, ?_⟩
   ·dsimp only
    split
    ·rw [List.length_append]; have := h.len; show _ + 1 ≤ _; exact Nat.lt_succ_of_le ‹_›
    ·exact Nat.le_succ_of_le h.len
   ·dsimp only
    intro x hx
    split at hx
    ·rcases List.mem_append.mp hx with e | e
     ·exact h.each x e
     ·rw [List.mem_singleton.mp e]; delta cutR
      rw [List.length_take, List.length_drop]; exact mnL
    ·exact h.each x hx
 ·exact ⟨h.st, h.op, Nat.le_succ_of_le h.len, h.each⟩
noncomputable def opD : Option Nat → PyData
 | none => .none
 | some o => .int o
inductive PS (a : List Nat) (i : Nat) : St → Prop
 | mk {σ : Sig} (ad : σ "addr" = some (.d (S a))) (st : σ "start" = some (.d (.int (spTo a i).start))) (op : σ "open_pos" = some (.d (opD (spTo a i).op))) (re : σ "result" = some (.d (.list ((spTo a i).res.map S)))) (ok : SpOk a i (spTo a i)) : PS a i ⟨σ, [("result" : Str)]⟩
theorem outD_get {l : List (Nat × List Nat)} {i : Nat} {p : PyData} (h : (outD l)[i]? = some p) : ∃ q, l[i]? = some q ∧ p = .tuple [.int q.1, S q.2] := by
 delta outD at h
 rw [List.getElem?_map] at h
 cases e : l[i]? with
 | none => rw [e] at h; cases h
 | some q => rw [e] at h; obtain rfl := sm_ h; exact ⟨q, rfl, rfl⟩
theorem spTo_succ {a : List Nat} {i : Nat} {q : Nat × List Nat} (h : (outL false 0 a)[i]? = some q) : spTo a (i + 1) = spStep a (spTo a i) q := by
 delta spTo
 rw [List.take_add_one, h, List.foldl_append]; rfl
theorem strOk_S {a : List Nat} (h : okL a) : PyData.strOk ⟨a.toArray⟩ = true := by
 delta PyData.strOk
 rw [Array.all_eq_true_iff_forall_mem]
 intro c hc
 exact decide_eq_true (h c (by simpa using hc))
theorem gen_S {a : List Nat} (h : a.length ≤ 100) (hok : okL a) : genP "_iter_escaped_chars" (S a) = some (outD (outL false 0 a)) := by
 show (if ("_iter_escaped_chars" : Str) = "_iter_escaped_chars" ∧ short (⟨a.toArray⟩ : Str).length = true ∧ PyData.strOk ⟨a.toArray⟩ = true then some (outD (outL false 0 a.toArray.toList)) else none) = _
 rw [if_pos ⟨rfl, by rw [slen]; exact short_of (by exact wk ‹_› rfl), strOk_S hok⟩]
theorem notin_S {a : List Nat} {c : Nat} (h : a.length ≤ 100) (hc : c ∈ a) : cmpD .NotIn (S [c]) (S a) = some false := by
 show (if short (⟨[c].toArray⟩ : Str).length && short (⟨a.toArray⟩ : Str).length then some ((Builtin.Str.occurrences ⟨a.toArray⟩ ⟨#[c]⟩ 0 (⟨a.toArray⟩ : Str).length 1).isEmpty) else none) = _
 rw [show short (⟨[c].toArray⟩ : Str).length = true from rfl, slen a, short_of (n := a.length) (by exact wk ‹_› rfl)]
 have := StrLaws.found_one ⟨a.toArray⟩ c
 rw [slen] at this
 show some _ = _
 congr 1
 have h2 : decide (c ∈ (⟨a.toArray⟩ : Str).cps.toList) = true := decide_eq_true (hc)
 rw [h2] at this
 simpa using this
theorem r_strip (a : List Nat) (hl : a.length ≤ 100) (hok : okL a) (h34 : 34 ∈ a) : runFn T3 d_strip.1.1 d_strip.1.2.1 d_strip.1.2.2 ["result"] [] [.d (S a)] = some (.d (S (stripL a))) := by
 refine runFn_run rfl ?_
 refine rIfF (tCmp (oE rfl (nConst rfl)) (oName rfl rfl) (notin_S (c := 34) hl h34)) ?_
 refine rNil (aNext ?_)
 refine rCons (sAsg rfl rfl (nConst rfl)) ?_
 refine rCons (sAsg rfl rfl (nConst rfl)) ?_
 refine rCons (sOwn rfl rfl rfl (nList eNil rfl)) ?_
 refine rForGen (I := PS a) (by decide) ⟨rfl, rfl⟩ (nName rfl rfl) (gen_S hl hok) ⟨rfl, rfl, rfl, rfl, ⟨Nat.zero_le _, fun o e => (nomatch e), Nat.le_refl _, fun x hx => (nomatch hx)⟩⟩ (fun i p Z hp hI => ?_) fun Z hI => ?_
 ·obtain ⟨q, hq, rfl⟩ := outD_get hp
  obtain @⟨σ, ha, hs, ho, hr, hk⟩ := hI
  have mem := escL_mem a false 0 (fun z => nomatch z) q (List.mem_of_getElem? hq)
  have hi : i < a.length := Nat.lt_of_lt_of_le (List.getElem?_eq_some_iff.mp hq).1 (escL_length a 0)
  have q1 : q.1 < a.length := by have := mem.1; lia
  have q2 : okL q.2 := fun c hc => by
   rcases mem.2 c hc with e | e
   ·rw [e]; decide
   ·exact hok c e
  have nx := spTo_succ hq
  have hk2 : SpOk a (i + 1) (spTo a (i + 1)) := by exact nx ▸ (spStep_ok hk q1)
  have rl := hk.len
  refine ⟨_, rfl, ?_⟩
  by_cases h : q.2 = [34]
  ·refine rIfT (tCmp (oName rfl rfl) (oE rfl (nConst rfl)) ((eq_S (b := [34]) q2 (okL_one (by decide))).trans (congrArg some (decide_eq_true h)))) ?_
   cases hop : (spTo a i).op with
   | none =>
    rw [hop] at ho
    have e : spTo a (i + 1) = ⟨(spTo a i).start, some q.1, (spTo a i).res⟩ := by rw [nx]; delta spStep; rw [if_pos h, hop]
    refine rIfT (tCmp (oName rfl ho) (oE rfl (nConst rfl)) rfl) ?_
    refine rCons (sAsg rfl rfl (nName rfl rfl)) ?_
    refine rNil (aNext (rNil (aNext (rNil ⟨ha, ?_, ?_, ?_, hk2⟩))))
    ·exact e ▸ hs
    ·exact e ▸ rfl
    ·exact e ▸ hr
   | some o =>
    rw [hop] at ho
    have ol := hk.op o hop
    refine rIfF (tCmp (oName rfl ho) (oE rfl (nConst rfl)) rfl) ?_
    by_cases hne : (spTo a i).start ≠ o
    ·have e : spTo a (i + 1) = ⟨q.1 + 1, none, (spTo a i).res ++ [cutR a (spTo a i).start o]⟩ := by rw [nx]; delta spStep; rw [if_pos h, hop]; dsimp only; rw [if_pos hne]
     refine rIfT (tCmp (oName rfl hs) (oName rfl ho) ((ne_I _ _).trans (congrArg some (decide_eq_true (by lia))))) ?_
     refine rCons (sAppend rfl rfl hr (nSlice (oName rfl ha) (pSome (nName rfl hs) rfl (by have := hk.st; show _ ≤ 1048576; exact le2 ‹_› ‹_› rfl)) (pSome (nName rfl ho) rfl (by show _ ≤ 1048576; exact le2 ‹_› ‹_› rfl)) (slice_S (by exact wk ‹_› rfl))) (short_of (by rw [List.length_map]; exact unL ‹_› ‹_› ‹_› rfl))) ?_
     refine rNil (aNext ?_)
     refine rCons (sAsg rfl rfl (nBin (oName rfl rfl) (oE rfl (nConst rfl)) (show binD .Add (.int q.1) (.int 1) = some (.int ((q.1 + 1 : Nat) : Int)) from rfl))) ?_
     refine rCons (sAsg rfl rfl (nConst rfl)) ?_
     refine rNil (aNext (rNil (aNext (rNil ⟨ha, ?_, ?_, ?_, hk2⟩))))
     ·exact e ▸ rfl
     ·exact e ▸ rfl
     ·rw [e, List.map_append]; rfl
    ·have e : spTo a (i + 1) = ⟨q.1 + 1, none, (spTo a i).res⟩ := by rw [nx]; delta spStep; rw [if_pos h, hop]; dsimp only; rw [if_neg hne]
     refine rIfF (tCmp (oName rfl hs) (oName rfl ho) ((ne_I _ _).trans (congrArg some (decide_eq_false (by lia))))) ?_
     refine rNil (aNext ?_)
     refine rCons (sAsg rfl rfl (nBin (oName rfl rfl) (oE rfl (nConst rfl)) (show binD .Add (.int q.1) (.int 1) = some (.int ((q.1 + 1 : Nat) : Int)) from rfl))) ?_
     refine rCons (sAsg rfl rfl (nConst rfl)) ?_
     refine rNil (aNext (rNil (aNext (rNil ⟨ha, ?_, ?_, ?_, hk2⟩))))
     ·exact e ▸ rfl
     ·exact e ▸ rfl
     ·exact e ▸ hr
  ·have e : spTo a (i + 1) = spTo a i := by rw [nx]; unfold spStep; rw [if_neg h]
   refine rIfF (tCmp (oName rfl rfl) (oE rfl (nConst rfl)) ((eq_S (b := [34]) q2 (okL_one (by decide))).trans (congrArg some (decide_eq_false h)))) ?_
   refine rNil (aNext (rNil ⟨ha, ?_, ?_, ?_, hk2⟩))
   ·rw [e]; exact hs
   ·rw [e]; exact ho
   ·rw [e]; exact hr
 ·have ol : (outD (outL false 0 a)).length = (outL false 0 a).length := by delta outD; rw [List.length_map]
  rw [ol] at hI
  have ef : spTo a (outL false 0 a).length = (outL false 0 a).foldl (spStep a) ⟨0, none, []⟩ := by delta spTo; rw [List.take_length]
  obtain @⟨σ, ha, hs, ho, hr, hk⟩ := hI
  have el := escL_length a 0
  have rl := hk.len
  have flat : ∀ (L : List (List Nat)) (n : Nat), L.length ≤ n → (∀ x ∈ L, x.length ≤ 100) → L.flatten.length ≤ 100 * n := by
   intro L
   induction L with
   | nil => intro n _ _; exact Nat.zero_le _
   | cons x r ih =>
    intro n hn hx
    rw [List.flatten_cons, List.length_append]
    obtain ⟨m, rfl⟩ : ∃ m, n = m + 1 := ⟨n - 1, by simp only [List.length_cons] at hn; exact sb0 ‹_›⟩
    have := ih m (by simp only [List.length_cons] at hn; exact Nat.le_of_lt_succ ‹_›) fun y hy => hx y (.tail _ hy)
    have := hx x (.head _)
    lia
  have each : ∀ x ∈ (spTo a (outL false 0 a).length).res, x.length ≤ 100 := fun x hx => Nat.le_trans (hk.each x hx) hl
  by_cases h : (spTo a (outL false 0 a).length).start < a.length
  ·refine rIfT (tCmp (oName rfl hs) (oE rfl (nBuilt rfl rfl (by decide) (oCons (oName rfl ha) oNil) (len_S (by exact wk ‹_› rfl)))) (congrArg some (decide_eq_true (show ((spTo a (outL false 0 a).length).start : Int) < (a.length : Int) by exact Int.ofNat_lt.mpr ‹_›)))) ?_
   refine rCons (sAppend rfl rfl hr (nSlice (oName rfl ha) (pSome (nName rfl hs) rfl (by show _ ≤ 1048576; lia)) pNone ((slice_S (by exact wk ‹_› rfl)).trans (by rw [cut_drop]))) (short_of (by rw [List.length_map]; lia))) ?_
   refine rNil (aNext ?_)
   refine rRet (oE rfl (nMeth rfl (by decide) (nConst rfl) (oCons (oOwn rfl (show _ = some (X.d (PyData.list (((spTo a (outL false 0 a).length).res ++ [a.drop (spTo a (outL false 0 a).length).start]).map S))) by rw [List.map_append]; rfl)) oNil) (join_S (by rw [List.length_append]; show _ + 1 ≤ _; lia) ?_))) ?_
   ·have := flat ((spTo a (outL false 0 a).length).res ++ [a.drop (spTo a (outL false 0 a).length).start]) 102 (by rw [List.length_append]; show _ + 1 ≤ _; lia) fun x hx => by
     rcases List.mem_append.mp hx with e | e
     ·exact each x e
     ·rw [List.mem_singleton.mp e, List.length_drop]; exact wkS ‹_› rfl
    exact wk ‹_› rfl
   ·delta stripL spEnd
    rw [← ef, if_pos h]
  ·refine rIfF (tCmp (oName rfl hs) (oE rfl (nBuilt rfl rfl (by decide) (oCons (oName rfl ha) oNil) (len_S (by exact wk ‹_› rfl)))) (congrArg some (decide_eq_false (show ¬ ((spTo a (outL false 0 a).length).start : Int) < (a.length : Int) by lia)))) ?_
   refine rNil (aNext ?_)
   refine rRet (oE rfl (nMeth rfl (by decide) (nConst rfl) (oCons (oOwn rfl hr) oNil) (join_S (by lia) ?_))) ?_
   ·have := flat (spTo a (outL false 0 a).length).res 101 (by lia) each
    exact wk ‹_› rfl
   ·delta stripL spEnd
    rw [← ef, if_neg h]
end
section
noncomputable abbrev str (l : List Nat) : Str := ⟨l.toArray⟩
noncomputable def fnd (got w : List Nat) (s e : Nat) : Int := findAt (str got) (str w) s e
noncomputable def ellLoop (got : List Nat) (e : Nat) : List (List Nat) → Nat → Bool
 | [], _ => true
 | w :: r, s => if fnd got w s e < 0 then false else ellLoop got e r ((fnd got w s e).toNat + w.length)
noncomputable def ellFin (got : List Nat) (st e : Nat) (W : List (List Nat)) : Bool := if st > e then false else ellLoop got e W st
noncomputable def ellEnd (got : List Nat) (st : Nat) (W : List (List Nat)) : Bool := match W.getLast? with
 | some [] => ellFin got st got.length W
 | some l => if Txt.endswith (str got) (str l) then ellFin got st (got.length - l.length) W.dropLast else false
 | none => false
noncomputable def ellP (got : List Nat) (W : List (List Nat)) : Bool := match W with
 | [] :: r => ellEnd got 0 ([] :: r)
 | w :: r => if Txt.startswith (str got) (str w) then ellEnd got w.length r else false
 | [] => false
theorem fnd_bound {got w : List Nat} {s e : Nat} (h : e ≤ got.length) : fnd got w s e ≤ got.length ∧ (0 ≤ fnd got w s e → ((fnd got w s e).toNat + w.length ≤ e)) := by
 unfold fnd findAt
 split
 ·rename_i k r hk
  have := StrLaws.occ_spec (str got) (str w) s e 1 k (hk ▸ (.head _))
  rw [slen] at this
  exact ⟨by lia, fun _ => by rw [Int.toNat_natCast]; exact this.1⟩
 ·exact ⟨by exact Int.natCast_nonneg _, fun q => by lia⟩
inductive ES (got : List Nat) (e : Nat) (W : List (List Nat)) (res : Bool) (i : Nat) : St → Prop
 | mk {σ : Sig} {s : Nat} (go : σ "got" = some (.d (S got))) (en : σ "endpos" = some (.d (.int e))) (sp : σ "startpos" = some (.d (.int s))) (le : s ≤ e) (lo : ellLoop got e (W.drop i) s = res) : ES got e W res i ⟨σ, []⟩
theorem find_S {got w : List Nat} {s e : Nat} (h1 : got.length ≤ 1000) (h2 : w.length ≤ 1000) (h3 : s ≤ 1000) (h4 : e ≤ got.length) : methD (str got) "find" [S w, .int s, .int e] = some (.int (fnd got w s e)) := by
 show (if ("find" : Str) = "find" then (if short (str got).length && short (str w).length && decide (0 ≤ (s : Int)) && decide ((s : Int) ≤ lim) && decide (0 ≤ (e : Int)) && decide ((e : Int) ≤ (str got).length) then some (PyData.int (findAt (str got) (str w) (s : Int).toNat (e : Int).toNat)) else none) else none) = _
 rw [if_pos rfl, slen, slen, short_of (by exact wk ‹_› rfl), short_of (by exact wk ‹_› rfl), decide_eq_true (by exact Int.natCast_nonneg _ : 0 ≤ (s : Int)), decide_eq_true (show (s : Int) ≤ lim by show (s : Int) ≤ 1048576; lia), decide_eq_true (by exact Int.natCast_nonneg _ : 0 ≤ (e : Int)), decide_eq_true (by exact Int.ofNat_le.mpr ‹_› : (e : Int) ≤ got.length)]
 rfl
theorem starts_S {got w : List Nat} (h1 : got.length ≤ 1000) (h2 : w.length ≤ 1000) : methD (str got) "startswith" [S w] = some (.bool (Txt.startswith (str got) (str w))) := by
 show (if short (str got).length && short (str w).length then some (PyData.bool (Txt.startswith (str got) (str w))) else none) = _
 rw [slen, slen, short_of (by exact wk ‹_› rfl), short_of (by exact wk ‹_› rfl)]; rfl
theorem ends_S {got w : List Nat} (h1 : got.length ≤ 1000) (h2 : w.length ≤ 1000) : methD (str got) "endswith" [S w] = some (.bool (Txt.endswith (str got) (str w))) := by
 show (if short (str got).length && short (str w).length then some (PyData.bool (Txt.endswith (str got) (str w))) else none) = _
 rw [slen, slen, short_of (by exact wk ‹_› rfl), short_of (by exact wk ‹_› rfl)]; rfl
theorem truth_S {w : List Nat} (h : w.length ≤ 1000) : truthD (S w) = some (decide (w ≠ [])) := by
 show (if short (str w).length then some (decide ((str w).length ≠ 0)) else none) = _
 rw [slen, short_of (by exact wk ‹_› rfl), if_pos rfl]
 congr 1
 apply decide_eq_decide.mpr
 cases w <;> simp
theorem last_L {W : List (List Nat)} {l : List Nat} (h : W.getLast? = some l) (hl : W.length ≤ 1000) : subD (.list (W.map S)) (.int (-1)) = some (S l) := by
 show (if short (-1 : Int).natAbs then at? (W.map S) (-1) else none) = _
 rw [if_pos (by decide)]
 unfold at?
 rw [if_neg (by decide), List.length_map]
 have hp : 0 < W.length := by cases W with
  | nil => exact none_ h
  | cons => simp
 rw [if_pos (by lia), show ((-1 : Int) + W.length).toNat = W.length - 1 by exact tm1, List.getElem?_map]
 rw [List.getLast?_eq_getElem?] at h
 rw [h]; rfl
theorem ell_fin {T : Tab} {got : List Nat} {st e : Nat} {W : List (List Nat)} {σ : Sig} {own : List Str} {n : Nat} {v : Bool} (hv : v = ellFin got st e W) (hown : own.filter (fun y => !(y == ("ws" : Str))) = []) (h1 : got.length ≤ 200) (h2 : ∀ w ∈ W, w.length ≤ 200) (h3 : W.length ≤ 10) (he : e ≤ got.length) (hst : st ≤ 200)
  (gs : σ "got" = some (.d (S got))) (gw : σ "ws" = some (.d (.list (W.map S)))) (gst : σ "startpos" = some (.d (.int st))) (ge : σ "endpos" = some (.d (.int e)))
  (pl : ∀ x : Str, x ≠ "ws" → (okName x && isVar (d_ellipsis.1.2.2.names.lookup x)) = true → ((⟨T, fun y => d_ellipsis.1.2.2.names.lookup y, ["ws"], []⟩ : Fn).fx ⟨σ, own⟩).plain x = true) :
  Run (n + 40) ⟨T, fun y => d_ellipsis.1.2.2.names.lookup y, ["ws"], []⟩ (d_ellipsis.1.2.1.drop 8) ⟨σ, own⟩ (fun f _ => f = .ret (.d (.bool v))) := by
 subst hv
 unfold ellFin
 by_cases hgt : st > e
 ·rw [if_pos hgt]
  refine rIfT (tCmp (oName (pl _ (by decide) rfl) gst) (oName (pl _ (by decide) rfl) ge) (congrArg some (decide_eq_true (show (st : Int) > e by exact Int.ofNat_lt.mpr ‹_›)))) ?_
  exact rRet (oE rfl (nConst rfl)) rfl
 ·rw [if_neg hgt]
  refine rIfF (tCmp (oName (pl _ (by decide) rfl) gst) (oName (pl _ (by decide) rfl) ge) (congrArg some (decide_eq_false (show ¬ (st : Int) > e by lia)))) ?_
  refine rNil (aNext ?_)
  obtain ⟨res, hres⟩ : ∃ res, ellLoop got e W st = res := ⟨_, rfl⟩
  rw [hres]
  refine rForName (I := ES got e W res) (items := W.map S) (iE rfl (nName (by rw [show (⟨σ, own⟩ : St).own.filter _ = own.filter (fun y => !(y == ("ws" : Str))) from rfl, hown]; rfl) gw) rfl) (show ES got e W res 0 ⟨σ, own.filter fun y => !(y == ("ws" : Str))⟩ by rw [hown]; exact .mk gs ge gst (Nat.le_of_not_lt ‹_›) hres) (fun i p Z hp hI => ?_) fun Z hI => ?_
  ·obtain @⟨σ2, s, hg, hee, hs, hse, hl⟩ := hI
   rw [List.getElem?_map] at hp
   cases hq : W[i]? with
   | none => rw [hq] at hp; cases hp
   | some w =>
    rw [hq] at hp; cases hp
    have hw := h2 w (List.mem_of_getElem? hq)
    have hd : W.drop i = w :: W.drop (i + 1) := by
     obtain ⟨a, b⟩ := List.getElem?_eq_some_iff.mp hq
     rw [List.drop_eq_getElem_cons a, b]
    rw [hd] at hl
    unfold ellLoop at hl
    have fb := fnd_bound (got := got) (w := w) (s := s) he
    refine ⟨_, rfl, ?_⟩
    refine rCons (sAsg rfl rfl (nMeth rfl (by decide) (nName rfl hg) (oCons (oName rfl rfl) (oCons (oName rfl hs) (oCons (oName rfl hee) oNil))) (find_S (by exact wk ‹_› rfl) (by exact wk ‹_› rfl) (by lia) he))) ?_
    by_cases hn : fnd got w s e < 0
    ·rw [if_pos hn] at hl
     refine rIfT (tCmp (oName rfl rfl) (oE rfl (nConst rfl)) (congrArg some (decide_eq_true hn))) ?_
     exact rRet (oE rfl (nConst rfl)) (show Fl.ret _ = Fl.ret _ by rw [← hl])
    ·rw [if_neg hn] at hl
     have hnn : 0 ≤ fnd got w s e := by lia
     have fe := fb.2 hnn
     refine rIfF (tCmp (oName rfl rfl) (oE rfl (nConst rfl)) (congrArg some (decide_eq_false hn))) ?_
     refine rNil (aNext ?_)
     refine rCons (sAug rfl rfl (nBuilt rfl rfl (by decide) (oCons (oName rfl rfl) oNil) (len_S (by exact wk ‹_› rfl))) rfl) ?_
     refine rNil (.mk (s := (fnd got w s e).toNat + w.length) hg hee ?_ fe hl)
     show some (X.d (PyData.int (fnd got w s e + w.length))) = _
     congr 3; exact fnZ ‹_›
  ·obtain @⟨σ2, s, hg, hee, hs, hse, hl⟩ := hI
   rw [List.length_map, List.drop_length] at hl
   exact rRet (oE rfl (nConst rfl)) (show Fl.ret _ = Fl.ret _ by rw [← hl]; rfl)
theorem plain_ws {T : Tab} {kd : Kd} (x : Str) (hx : x ≠ "ws") (h : (okName x && isVar (kd x)) = true) {σ : Sig} : ((⟨T, kd, ["ws"], []⟩ : Fn).fx ⟨σ, [("ws" : Str)]⟩).plain x = true := by
 show (okName x && isVar (kd x) && !(([("ws" : Str)] : List Str).contains x || ([] : List Str).contains x)) = true
 rw [h]
 have : ([("ws" : Str)] : List Str).contains x = false := by
  rw [List.contains_cons]
  simp [hx]
 rw [this]; rfl
theorem ell_end {T : Tab} {got : List Nat} {st : Nat} {W : List (List Nat)} {σ : Sig} {n : Nat} {v : Bool} (hv : v = ellEnd got st W) (hW : W ≠ []) (h1 : got.length ≤ 200) (h2 : ∀ w ∈ W, w.length ≤ 200) (h3 : W.length ≤ 10) (hst : st ≤ 200)
  (gs : σ "got" = some (.d (S got))) (gw : σ "ws" = some (.d (.list (W.map S)))) (gst : σ "startpos" = some (.d (.int st))) (ge : σ "endpos" = some (.d (.int got.length))) :
  Run (n + 42) ⟨T, fun y => d_ellipsis.1.2.2.names.lookup y, ["ws"], []⟩ (d_ellipsis.1.2.1.drop 6) ⟨σ, ["ws"]⟩ (fun f _ => f = .ret (.d (.bool v))) := by
 subst hv
 unfold ellEnd
 cases hl : W.getLast? with
 | none => exact absurd (List.getLast?_eq_none_iff.mp hl) hW
 | some l =>
  have lw : l.length ≤ 200 := h2 l (List.mem_of_getLast? hl)
  refine rCons (sAsg rfl rfl (nSub rfl (oOwn rfl gw) (nNeg (nConst rfl)) (last_L hl (by exact wk ‹_› rfl)))) ?_
  cases l with
  | nil =>
   refine rIfF (tName (nName rfl rfl) (truth_S (w := []) (by decide))) ?_
   refine rNil (aNext ?_)
   exact ell_fin rfl rfl h1 h2 h3 (Nat.le_refl _) hst gs gw gst ge fun x hx h => plain_ws x hx h
  | cons c r =>
   refine rIfT (tName (nName rfl rfl) ((truth_S (w := c :: r) (by exact wk ‹_› rfl)).trans (congrArg some (decide_eq_true (by simp))))) ?_
   by_cases hend : Txt.endswith (str got) (str (c :: r)) = true
   ·dsimp only
    rw [if_pos hend]
    refine rIfT (tCall (nMeth rfl (by decide) (nName rfl gs) (oCons (oName rfl rfl) oNil) (ends_S (by exact wk ‹_› rfl) (by exact wk ‹_› rfl))) (congrArg some hend)) ?_
    have el : (c :: r).length ≤ got.length := by
     unfold Txt.endswith at hend
     simp only [Bool.and_eq_true, decide_eq_true_eq] at hend
     rw [slen, slen] at hend; lia
    refine rCons (sAug rfl ge (nBuilt rfl rfl (by decide) (oCons (oName rfl rfl) oNil) (len_S (by exact le2 ‹_› ‹_› rfl))) rfl) ?_
    refine rCons (sDel rfl gw (nNeg (nConst rfl)) ⟨.inr rfl, by simpa using hW, short_of (by rw [List.length_map]; exact wk ‹_› rfl)⟩) ?_
    refine rNil (aNext (rNil (aNext ?_)))
    refine ell_fin (e := got.length - (c :: r).length) rfl rfl h1 (fun w hw => h2 w ((List.dropLast_sublist W).subset hw)) (by rw [List.length_dropLast]; exact wkS ‹_› rfl) (Nat.sub_le _ _) hst gs ?_ gst ?_ fun x hx h => plain_ws x hx h
    ·show some (X.d (PyData.list (if (-1 : Int) = 0 then (W.map S).drop 1 else (W.map S).dropLast))) = _
     rw [if_neg (by decide), List.map_dropLast]
    ·show some (X.d (PyData.int ((got.length : Int) - ((c :: r).length : Nat)))) = _
     congr 3; exact zS ‹_›
   ·dsimp only
    rw [if_neg hend]
    have hend' : Txt.endswith (str got) (str (c :: r)) = false := by simpa using hend
    refine rIfF (tCall (nMeth rfl (by decide) (nName rfl gs) (oCons (oName rfl rfl) oNil) (ends_S (by exact wk ‹_› rfl) (by exact wk ‹_› rfl))) (congrArg some hend')) ?_
    exact rRet (oE rfl (nConst rfl)) rfl
theorem r_ellipsis {want got : List Nat} {W : List (List Nat)} (hin : cmpD .NotIn (S [46, 46, 46]) (S want) = some false) (hs : Txt.split (str want) (str [46, 46, 46]) = W.map str) (h1 : got.length ≤ 200) (h0 : want.length ≤ 200) (h2 : ∀ w ∈ W, w.length ≤ 200) (h3 : W.length ≤ 10) (h4 : 2 ≤ W.length) :
  runFn T2 d_ellipsis.1.1 d_ellipsis.1.2.1 d_ellipsis.1.2.2 ["ws"] [] [.d (S want), .d (S got)] = some (.d (.bool (ellP got W))) := by
 have sp : methD (str want) "split" [S [46, 46, 46]] = some (.list (W.map S)) := by
  show (if short (str want).length && short (str [46, 46, 46]).length then (if (str [46, 46, 46]).length = 0 then none else some (PyData.list ((Txt.split (str want) (str [46, 46, 46])).map .str))) else none) = _
  rw [slen, short_of (by exact wk ‹_› rfl), hs, List.map_map]
  rfl
 have hl : builtD "len" [.list (W.map S)] = some (.int W.length) := by rw [len_L (by rw [List.length_map]; exact wk ‹_› rfl), List.length_map]
 refine runFn_run rfl ?_
 refine rIfF (tCmp (oGlobal rfl rfl rfl) (oName rfl rfl) hin) ?_
 refine rNil (aNext ?_)
 refine rCons (sOwn rfl rfl rfl (nMeth rfl (by decide) (nName rfl rfl) (oCons (oGlobal rfl rfl rfl) oNil) sp)) ?_
 refine rCons (sAssert (tCmp (oE rfl (nBuilt rfl rfl (by decide) (oCons (oOwn rfl rfl) oNil) hl)) (oE rfl (nConst rfl)) (congrArg some (decide_eq_true (show (W.length : Int) ≥ 2 by exact Int.ofNat_lt.mpr ‹_›))))) ?_
 refine rCons (sTup (nConst rfl) (nBuilt rfl rfl (by decide) (oCons (oName rfl rfl) oNil) (len_S (by exact wk ‹_› rfl))) rfl) ?_
 match W, h4, h2, h3, hl with
 | w :: x :: r, h4, h2, h3, hl =>
  have hw := h2 w (.head _)
  refine rCons (sAsg rfl rfl (nSub rfl (oOwn rfl rfl) (nConst rfl) (sub_L (k := 0) (by decide) rfl))) ?_
  cases w with
  | nil =>
   refine rIfF (tName (nName rfl rfl) (truth_S (w := []) (by decide))) ?_
   refine rNil (aNext ?_)
   exact ell_end (st := 0) rfl (by simp) h1 h2 h3 (by decide) rfl rfl rfl rfl
  | cons c q =>
   refine rIfT (tName (nName rfl rfl) ((truth_S (w := c :: q) (by exact wk ‹_› rfl)).trans (congrArg some (decide_eq_true (by simp))))) ?_
   by_cases hst : Txt.startswith (str got) (str (c :: q)) = true
   ·have ep : ellP got ((c :: q) :: x :: r) = ellEnd got (c :: q).length (x :: r) := if_pos hst
    rw [ep]
    refine rIfT (tCall (nMeth rfl (by decide) (nName rfl rfl) (oCons (oName rfl rfl) oNil) (starts_S (by exact wk ‹_› rfl) (by exact wk ‹_› rfl))) (congrArg some hst)) ?_
    refine rCons (sAsg rfl rfl (nBuilt rfl rfl (by decide) (oCons (oName rfl rfl) oNil) (len_S (by exact wk ‹_› rfl)))) ?_
    refine rCons (sDel rfl rfl (nConst rfl) ⟨.inl rfl, by simp, short_of (by rw [List.length_map]; exact wk ‹_› rfl)⟩) ?_
    refine rNil (aNext (rNil (aNext ?_)))
    exact ell_end (st := (c :: q).length) rfl (by simp) h1 (fun z hz => h2 z (.tail _ hz)) (by simp only [List.length_cons] at h3 ⊢; exact Nat.le_of_lt ‹_›) hw rfl rfl rfl rfl
   ·have hst' : Txt.startswith (str got) (str (c :: q)) = false := by simpa using hst
    have ep : ellP got ((c :: q) :: x :: r) = false := if_neg hst
    rw [ep]
    refine rIfF (tCall (nMeth rfl (by decide) (nName rfl rfl) (oCons (oName rfl rfl) oNil) (starts_S (by exact wk ‹_› rfl) (by exact wk ‹_› rfl))) (congrArg some hst')) ?_
    exact rRet (oE rfl (nConst rfl)) rfl
end
section
theorem dotL_len (l : List Nat) : ∀ b, (dotL b l).length ≤ 2 * l.length := by
 induction l with
 | nil => exact fun _ => Nat.le_refl _
 | cons c r ih =>
  intro b
  by_cases h : b = true ∧ c = 46
  ·obtain ⟨rfl, rfl⟩ := h; exact Nat.add_le_add_right (ih false) 2
  ·rw [dot_step fun q z => h ⟨q, z⟩]; exact Nat.le_succ_of_le (Nat.succ_le_succ (ih _))
theorem quote_len (l : List Nat) : (quote l).length ≤ 4 * l.length := by
 have h1 := fixL_len l false
 have h2 := dotL_len (fixB false l) true
 unfold quote; lia
theorem tail_len (w : Nat) (b : Bool) : (tailL w b).length ≤ 13 := by
 unfold tailL
 have h : ∀ (L : List (List Nat)) (k n : Nat), (∀ x ∈ L, x.length ≤ n) → (L.getD k []).length ≤ n := fun L k n h => by
  rw [List.getD_eq_getElem?_getD]
  cases q : L[k]? with
  | none => exact Nat.zero_le _
  | some x => exact h x (List.mem_of_getElem? q)
 split
 ·have := h [[], [12, 46], [120, 13, 10, 13, 10, 13, 10, 13, 10, 32, 46]] (w % 3) 11 (by decide)
  rw [List.length_append]; show _ + 2 ≤ _; exact adc ‹_› rfl
 ·have h1 := h [[], [12, 46], [120, 10, 10, 13, 13, 32, 46]] (w % 3) 7 (by decide)
  have h2 := h [[10], [13], [13, 10]] (w / 3) 2 (by decide)
  rw [List.length_append]; exact ad2 ‹_› ‹_› rfl
noncomputable abbrev sl (r : List Slot) (k : Nat) : Slot := r.getD k ⟨0, 0, 0⟩
noncomputable def alongTo (r : List Slot) : Nat → List Nat
 | 0 => []
 | i + 1 => if (sl r (i + 1)).b = 0 then alongTo r i ++ [46] ++ tailL (sl r (i + 1)).w false else quote (alongTo r i)
noncomputable def backTo2 (r : List Slot) : Nat → List Nat
 | 0 => []
 | i + 1 => if (sl r (6 - i)).b = 1 then backTo2 r i ++ [46] ++ tailL (sl r (6 - i)).w false else quote (backTo2 r i)
theorem along_len (r : List Slot) : ∀ i, (alongTo r i).length ≤ 14 * 4 ^ i
 | 0 => Nat.zero_le _
 | i + 1 => by
  have ih := along_len r i
  have p : 1 ≤ 4 ^ i := Nat.one_le_pow _ _ (by decide)
  unfold alongTo
  rw [Nat.pow_succ]
  split
  ·rw [List.length_append, List.length_append]
   have := tail_len (sl r (i + 1)).w false
   show _ + 1 + _ ≤ _
   lia
  ·have := quote_len (alongTo r i); lia
theorem back_len (r : List Slot) : ∀ i, (backTo2 r i).length ≤ 14 * 4 ^ i
 | 0 => Nat.zero_le _
 | i + 1 => by
  have ih := back_len r i
  have p : 1 ≤ 4 ^ i := Nat.one_le_pow _ _ (by decide)
  unfold backTo2
  rw [Nat.pow_succ]
  split
  ·rw [List.length_append, List.length_append]
   have := tail_len (sl r (6 - i)).w false
   show _ + 1 + _ ≤ _
   lia
  ·have := quote_len (backTo2 r i); lia
noncomputable def toldD (r : List Slot) : PyData := .list (r.map fun s => S [40 + s.b])
theorem tget {r : List Slot} {k : Nat} (h : k < r.length) : (r.map fun s => S [40 + s.b])[k]? = some (S [40 + (sl r k).b]) := by
 rw [List.getElem?_map, List.getElem?_eq_getElem h, sl, List.getD_eq_getElem?_getD, List.getElem?_eq_getElem h]; rfl
theorem sl_ok {r : List Slot} (hok : ∀ s ∈ r, s.Ok) {k : Nat} (h : k < r.length) : (sl r k).Ok := hok _ (by rw [sl, List.getD_eq_getElem?_getD, List.getElem?_eq_getElem h]; exact List.getElem_mem _)
theorem range16 : rangeD [.int 1, .int 7] = some ((List.range 6).map fun (k : Nat) => .int ((1 + k : Nat) : Int)) := rfl
theorem range16_get {i : Nat} {p : PyData} (h : ((List.range 6).map fun (k : Nat) => PyData.int ((1 + k : Nat) : Int))[i]? = some p) : i < 6 ∧ p = .int ((1 + i : Nat) : Int) := by
 rw [List.getElem?_map] at h
 cases q : (List.range 6)[i]? with
 | none => rw [q] at h; cases h
 | some k =>
  rw [q] at h
  have hi := (List.getElem?_eq_some_iff.mp q).1
  rw [List.length_range] at hi
  rw [List.getElem?_range hi] at q
  obtain rfl := sm_ q; obtain rfl := sm_ h
  exact ⟨hi, rfl⟩
inductive MS (r : List Slot) (i : Nat) : St → Prop
 | mk {σ : Sig} (ro : σ "row" = some (.d (rowD r))) (to : σ "told" = some (.d (toldD r))) (a : σ "along" = some (.d (S (alongTo r i)))) (b : σ "back" = some (.d (S (backTo2 r i)))) : MS r i ⟨σ, []⟩
theorem r_mails (r : List Slot) (hr : r.length = 8) (hok : ∀ s ∈ r, s.Ok) : runFn T12 d_mails.1.1 d_mails.1.2.1 d_mails.1.2.2 [] [] [.d (toldD r), .d (rowD r)] = some (.d (.list [S (alongTo r 6), S (backTo2 r 6)])) := by
 refine runFn_run rfl ?_
 refine rCons (sAsg rfl rfl (nConst rfl)) ?_
 refine rCons (sAsg rfl rfl (nConst rfl)) ?_
 refine rFor (I := MS r) rfl (iRange rfl (eCons (nConst rfl) (eCons (nConst rfl) eNil)) range16) ⟨rfl, rfl, rfl, rfl⟩ (fun i p Z hp h => ?_) fun Z h => ?_
 ·obtain ⟨hi, rfl⟩ := range16_get hp
  obtain @⟨σ, hro, hto, ha, hb⟩ := h
  have la := along_len r i
  have lb := back_len r i
  have p4 : 4 ^ i ≤ 4 ^ 5 := Nat.pow_le_pow_right (by decide) (by exact Nat.le_of_lt_succ ‹_›)
  have p5 : (4 : Nat) ^ 5 = 1024 := by decide
  have ok1 := sl_ok hok (k := i + 1) (by lia)
  have ok2 := sl_ok hok (k := 6 - i) (by exact ltC ‹_› rfl)
  have g1 := tget (r := r) (k := i + 1) (by lia)
  have g2 := tget (r := r) (k := 6 - i) (by exact ltC ‹_› rfl)
  have w1 := rget (r := r) (k := i + 1) (by lia)
  have w2 := rget (r := r) (k := 6 - i) (by exact ltC ‹_› rfl)
  have e1 : ((1 + i : Nat) : Int) = ((i + 1 : Nat) : Int) := by lia
  have e2 : (7 : Int) - ((i + 1 : Nat) : Int) = ((6 - i : Nat) : Int) := by lia
  rw [e1]
  refine ⟨_, rfl, ?_⟩
  have tl1 := tail_len (sl r (i + 1)).w false
  have tl2 := tail_len (sl r (6 - i)).w false
  have stepA : alongTo r (i + 1) = if (sl r (i + 1)).b = 0 then alongTo r i ++ [46] ++ tailL (sl r (i + 1)).w false else quote (alongTo r i) := rfl
  have stepB : backTo2 r (i + 1) = if (sl r (6 - i)).b = 1 then backTo2 r i ++ [46] ++ tailL (sl r (6 - i)).w false else quote (backTo2 r i) := rfl
  by_cases hA : (sl r (i + 1)).b = 0
  ·refine rIfT (tCmp (oSub rfl (nSub rfl (oName rfl hto) (nName rfl rfl) (sub_L (by exact wk ‹_› rfl) g1))) (oE rfl (nConst rfl)) ((eq_S (b := [40]) (okL_one (by have := ok1.b; lia)) (okL_one (by decide))).trans (congrArg some (decide_eq_true (by rw [hA]))))) ?_
   refine rCons (sAsg rfl rfl (nBin (oE rfl (nBin (oName rfl ha) (oE rfl (nConst rfl)) (add_S (b := [46]) (by show _ + 1 ≤ _; lia)))) (oE rfl (nFn rfl rfl (by decide) (fun _ => rfl) (xCons (nSub rfl (oSub rfl (nSub rfl (oName rfl hro) (nName rfl rfl) (sub_L (by exact wk ‹_› rfl) w1))) (nConst rfl) (sub_T (k := 2) (by decide) rfl)) (xCons (nConst rfl) xNil)) (r_tail _ ok1.w false))) (add_S (by rw [List.length_append]; show _ + 1 + _ ≤ _; lia)))) ?_
   refine rNil (aNext ?_)
   by_cases hB : (sl r (6 - i)).b = 1
   ·refine rIfT (tCmp (oSub rfl (nSub rfl (oName rfl hto) (nBin (oE rfl (nConst rfl)) (oName rfl rfl) (congrArg (fun z => some (PyData.int z)) e2)) (sub_L (by lia) g2))) (oE rfl (nConst rfl)) ((eq_S (b := [41]) (okL_one (by have := ok2.b; lia)) (okL_one (by decide))).trans (congrArg some (decide_eq_true (by rw [hB]))))) ?_
    refine rCons (sAsg rfl rfl (nBin (oE rfl (nBin (oName rfl hb) (oE rfl (nConst rfl)) (add_S (b := [46]) (by show _ + 1 ≤ _; lia)))) (oE rfl (nFn rfl rfl (by decide) (fun _ => rfl) (xCons (nSub rfl (oSub rfl (nSub rfl (oName rfl hro) (nBin (oE rfl (nConst rfl)) (oName rfl rfl) (congrArg (fun z => some (PyData.int z)) e2)) (sub_L (by lia) w2))) (nConst rfl) (sub_T (k := 2) (by decide) rfl)) (xCons (nConst rfl) xNil)) (r_tail _ ok2.w false))) (add_S (by rw [List.length_append]; show _ + 1 + _ ≤ _; lia)))) ?_
    exact rNil (aNext (rNil ⟨hro, hto, (if_pos hA ▸ stepA) ▸ rfl, (if_pos hB ▸ stepB) ▸ rfl⟩))
   ·refine rIfF (tCmp (oSub rfl (nSub rfl (oName rfl hto) (nBin (oE rfl (nConst rfl)) (oName rfl rfl) (congrArg (fun z => some (PyData.int z)) e2)) (sub_L (by lia) g2))) (oE rfl (nConst rfl)) ((eq_S (b := [41]) (okL_one (by have := ok2.b; lia)) (okL_one (by decide))).trans (congrArg some (decide_eq_false (by intro q; injection q with q; lia))))) ?_
    refine rCons (sAsg rfl rfl (nFn rfl rfl (by decide) (fun _ => rfl) (xCons (nName rfl hb) xNil) (r_quotedata (by lia)))) ?_
    exact rNil (aNext (rNil ⟨hro, hto, (if_pos hA ▸ stepA) ▸ rfl, (if_neg hB ▸ stepB) ▸ rfl⟩))
  ·refine rIfF (tCmp (oSub rfl (nSub rfl (oName rfl hto) (nName rfl rfl) (sub_L (by exact wk ‹_› rfl) g1))) (oE rfl (nConst rfl)) ((eq_S (b := [40]) (okL_one (by have := ok1.b; lia)) (okL_one (by decide))).trans (congrArg some (decide_eq_false (by intro q; injection q with q; lia))))) ?_
   refine rCons (sAsg rfl rfl (nFn rfl rfl (by decide) (fun _ => rfl) (xCons (nName rfl ha) xNil) (r_quotedata (by lia)))) ?_
   refine rNil (aNext ?_)
   by_cases hB : (sl r (6 - i)).b = 1
   ·refine rIfT (tCmp (oSub rfl (nSub rfl (oName rfl hto) (nBin (oE rfl (nConst rfl)) (oName rfl rfl) (congrArg (fun z => some (PyData.int z)) e2)) (sub_L (by lia) g2))) (oE rfl (nConst rfl)) ((eq_S (b := [41]) (okL_one (by have := ok2.b; lia)) (okL_one (by decide))).trans (congrArg some (decide_eq_true (by rw [hB]))))) ?_
    refine rCons (sAsg rfl rfl (nBin (oE rfl (nBin (oName rfl hb) (oE rfl (nConst rfl)) (add_S (b := [46]) (by show _ + 1 ≤ _; lia)))) (oE rfl (nFn rfl rfl (by decide) (fun _ => rfl) (xCons (nSub rfl (oSub rfl (nSub rfl (oName rfl hro) (nBin (oE rfl (nConst rfl)) (oName rfl rfl) (congrArg (fun z => some (PyData.int z)) e2)) (sub_L (by lia) w2))) (nConst rfl) (sub_T (k := 2) (by decide) rfl)) (xCons (nConst rfl) xNil)) (r_tail _ ok2.w false))) (add_S (by rw [List.length_append]; show _ + 1 + _ ≤ _; lia)))) ?_
    exact rNil (aNext (rNil ⟨hro, hto, (if_neg hA ▸ stepA) ▸ rfl, (if_pos hB ▸ stepB) ▸ rfl⟩))
   ·refine rIfF (tCmp (oSub rfl (nSub rfl (oName rfl hto) (nBin (oE rfl (nConst rfl)) (oName rfl rfl) (congrArg (fun z => some (PyData.int z)) e2)) (sub_L (by lia) g2))) (oE rfl (nConst rfl)) ((eq_S (b := [41]) (okL_one (by have := ok2.b; lia)) (okL_one (by decide))).trans (congrArg some (decide_eq_false (by intro q; injection q with q; lia))))) ?_
    refine rCons (sAsg rfl rfl (nFn rfl rfl (by decide) (fun _ => rfl) (xCons (nName rfl hb) xNil) (r_quotedata (by lia)))) ?_
    exact rNil (aNext (rNil ⟨hro, hto, (if_neg hA ▸ stepA) ▸ rfl, (if_neg hB ▸ stepB) ▸ rfl⟩))
 ·obtain @⟨σ, hro, hto, ha, hb⟩ := h
  exact rRet (oE rfl (nList (eCons (nName rfl ha) (eCons (nName rfl hb) eNil)) rfl)) rfl
end
section
noncomputable def isBr (b : Nat) (p : PyData) : Bool := match p with
 | .tuple [_, .str y, _] => decide (y.cps.toList = [40 + b])
 | _ => false
theorem isBr_slot (b : Nat) (s : Slot) : isBr b (slotD s) = decide (s.b = b) := by
 show decide ([40 + s.b].toArray.toList = [40 + b]) = _
 apply decide_eq_decide.mpr
 constructor
 ·intro q; injection q with q; lia
 ·intro q; rw [q]
noncomputable def laterN (r : List Slot) (k : Nat) : Nat := (((r.drop k).take (7 - k)).filter (fun s => decide (s.b = 1))).length
noncomputable def earlierN (r : List Slot) (k : Nat) : Nat := (((r.drop 1).take (k - 1)).filter (fun s => decide (s.b = 0))).length
noncomputable def dueA (r : List Slot) : Nat → List Nat
 | 0 => []
 | i + 1 => if (sl r (i + 1)).b = 0 then dueA r i ++ (List.replicate (1 + laterN r (i + 1)) 46 ++ tailL (sl r (i + 1)).w (decide (laterN r (i + 1) > 0))) else dueA r i
noncomputable def dueB (r : List Slot) : Nat → List Nat
 | 0 => []
 | i + 1 => if (sl r (i + 1)).b = 0 then dueB r i else (List.replicate (1 + earlierN r (i + 1)) 46 ++ tailL (sl r (i + 1)).w (decide (earlierN r (i + 1) > 0))) ++ dueB r i
theorem later_le (r : List Slot) (k : Nat) : laterN r k ≤ 7 := by
 unfold laterN
 have h1 := List.length_filter_le (fun s : Slot => decide (s.b = 1)) ((r.drop k).take (7 - k))
 have h2 := List.length_take_le (7 - k) (r.drop k)
 exact laL ‹_› ‹_›
theorem earlier_le (r : List Slot) (k : Nat) (h : k ≤ 7) : earlierN r k ≤ 7 := by
 unfold earlierN
 have h1 := List.length_filter_le (fun s : Slot => decide (s.b = 0)) ((r.drop 1).take (k - 1))
 have h2 := List.length_take_le (k - 1) (r.drop 1)
 exact erL ‹_› ‹_› ‹_›
theorem dueA_len (r : List Slot) : ∀ i, (dueA r i).length ≤ 30 * i
 | 0 => Nat.zero_le _
 | i + 1 => by
  have ih := dueA_len r i
  have h1 := later_le r (i + 1)
  have h2 := tail_len (sl r (i + 1)).w (decide (laterN r (i + 1) > 0))
  unfold dueA
  split
  ·rw [List.length_append, List.length_append, List.length_replicate]; lia
  ·lia
theorem dueB_len (r : List Slot) : ∀ i, i ≤ 6 → (dueB r i).length ≤ 30 * i
 | 0, _ => Nat.zero_le _
 | i + 1, h => by
  have ih := dueB_len r i (by exact Nat.le_of_lt ‹_›)
  have h1 := earlier_le r (i + 1) (by exact Nat.le_succ_of_le ‹_›)
  have h2 := tail_len (sl r (i + 1)).w (decide (earlierN r (i + 1) > 0))
  unfold dueB
  split
  ·lia
  ·rw [List.length_append, List.length_append, List.length_replicate]; lia
theorem filt_slots (b : Nat) (l : List Slot) : (((l.map slotD).filter (isBr b)).map fun p => p).length = (l.filter (fun s => decide (s.b = b))).length := by
 rw [List.map_id', List.filter_map, List.length_map]
 congr 1
 apply List.filter_congr
 intro s _
 exact isBr_slot b s
inductive DS (r : List Slot) (i : Nat) : St → Prop
 | mk {σ : Sig} (ro : σ "row" = some (.d (rowD r))) (a : σ "along" = some (.d (S (dueA r i)))) (b : σ "back" = some (.d (S (dueB r i)))) : DS r i ⟨σ, []⟩
theorem r_due (r : List Slot) (hr : r.length = 8) (hok : ∀ s ∈ r, s.Ok) : runFn T13 d_due.1.1 d_due.1.2.1 d_due.1.2.2 [] [] [.d (rowD r)] = some (.d (.list [S (dueA r 6), S (dueB r 6)])) := by
 refine runFn_run rfl ?_
 refine rCons (sAsg rfl rfl (nConst rfl)) ?_
 refine rCons (sAsg rfl rfl (nConst rfl)) ?_
 refine rFor (I := DS r) rfl (iRange rfl (eCons (nConst rfl) (eCons (nConst rfl) eNil)) range16) ⟨rfl, rfl, rfl⟩ (fun i p Z hp h => ?_) fun Z h => ?_
 ·obtain ⟨hi, rfl⟩ := range16_get hp
  obtain @⟨σ, hro, ha, hb⟩ := h
  have la := dueA_len r i
  have lb := dueB_len r i (by exact Nat.le_of_lt ‹_›)
  have ok1 := sl_ok hok (k := i + 1) (by lia)
  have w1 : (r.map slotD)[i + 1]? = some (slotD (sl r (i + 1))) := rget (r := r) (k := i + 1) (by lia)
  have e1 : ((1 + i : Nat) : Int) = ((i + 1 : Nat) : Int) := by lia
  rw [e1]
  refine ⟨_, rfl, ?_⟩
  have stepA : dueA r (i + 1) = if (sl r (i + 1)).b = 0 then dueA r i ++ (List.replicate (1 + laterN r (i + 1)) 46 ++ tailL (sl r (i + 1)).w (decide (laterN r (i + 1) > 0))) else dueA r i := rfl
  have stepB : dueB r (i + 1) = if (sl r (i + 1)).b = 0 then dueB r i else (List.replicate (1 + earlierN r (i + 1)) 46 ++ tailL (sl r (i + 1)).w (decide (earlierN r (i + 1) > 0))) ++ dueB r i := rfl
  have rl : (rowD r) = .list (r.map slotD) := rfl
  by_cases hA : (sl r (i + 1)).b = 0
  ·refine rIfT (tCmp (oE rfl (nSub rfl (oSub rfl (nSub rfl (oName rfl hro) (nName rfl rfl) (sub_L (by exact wk ‹_› rfl) w1))) (nConst rfl) (sub_T (k := 1) (by decide) rfl))) (oE rfl (nConst rfl)) ((eq_S (b := [40]) (okL_one (by have := ok1.b; lia)) (okL_one (by decide))).trans (congrArg some (decide_eq_true (by rw [hA]))))) ?_
   have ll := later_le r (i + 1)
   have cut : cutL (r.map slotD) (some (i + 1)) (some 7) = ((r.drop (i + 1)).take (7 - (i + 1))).map slotD := by
    unfold cutL; simp [List.map_drop, List.map_take]
   refine rCons (sAsg rfl rfl (nBuilt (l := [.list ((((((r.drop (i + 1)).take (7 - (i + 1))).map slotD).filter (isBr 1)).map fun p => p))]) rfl rfl (by decide) (oCons (oE rfl (nComp (ecomp_of (items := ((r.drop (i + 1)).take (7 - (i + 1))).map slotD) rfl (iO rfl (oSub rfl (nSlice (oName rfl hro) (pSome (nName rfl rfl) rfl (by show i + 1 ≤ 1048576; exact wk ‹_› rfl)) (pSome (k := 7) (nConst rfl) rfl (by decide)) ((slice_L (by rw [List.length_map]; lia)).trans (by rw [cut])))) rfl) (short_of (by rw [List.length_map, List.length_take]; exact wkN rfl)) (compL_all _ fun p hp => ?_)))) oNil) (by rw [len_L (by rw [filt_slots]; show laterN r (i + 1) ≤ _; exact wk ‹_› rfl), filt_slots]))) ?_
   ·obtain ⟨s, hs, rfl⟩ := List.mem_map.mp hp
    have hs' : s ∈ r := List.mem_of_mem_drop (List.mem_of_mem_take hs)
    refine ⟨_, rfl, cOne (tCmp (oSub rfl (nSub rfl (oName rfl rfl) (nConst rfl) (sub_T (k := 1) (by decide) rfl))) (oE rfl (nConst rfl)) ((eq_S (b := [41]) (okL_one (by have := (hok s hs').b; lia)) (okL_one (by decide))).trans ?_)), fun _ => eltOf (nName rfl rfl)⟩
    rw [isBr_slot]
    congr 1
    apply decide_eq_decide.mpr
    constructor
    ·intro q; injection q with q; lia
    ·intro q; rw [q]
   ·refine rCons (sAug rfl ha (nBin (oE rfl (nBin (oE rfl (nConst rfl)) (oE rfl (nBin (oE rfl (nConst rfl)) (oName rfl rfl) (show binD .Add (.int 1) (.int (laterN r (i + 1))) = some (.int ((1 + laterN r (i + 1) : Nat) : Int)) from congrArg (fun z => some (PyData.int z)) (by rfl)))) (dots_S (c := 46) (by exact adc' ‹_› rfl)))) (oE rfl (nFn rfl rfl (by decide) (fun _ => rfl) (xCons (nSub rfl (oSub rfl (nSub rfl (oName rfl hro) (nName rfl rfl) (sub_L (by exact wk ‹_› rfl) w1))) (nConst rfl) (sub_T (k := 2) (by decide) rfl)) (xCons (nCmp (oName rfl rfl) (oE rfl (nConst rfl)) (show cmpD .Gt (.int (laterN r (i + 1))) (.int 0) = some (decide (laterN r (i + 1) > 0)) from congrArg some (decide_eq_decide.mpr (by exact c0I)))) xNil)) (r_tail _ ok1.w _))) (add_S (by rw [List.length_replicate]; have := tail_len (sl r (i + 1)).w (decide (laterN r (i + 1) > 0)); lia))) (aug_S (by rw [List.length_append, List.length_replicate]; have := tail_len (sl r (i + 1)).w (decide (laterN r (i + 1) > 0)); lia))) ?_
    exact rNil (aNext (rNil ⟨hro, (if_pos hA ▸ stepA) ▸ rfl, (if_pos hA ▸ stepB) ▸ hb⟩))
  ·have hA1 : (sl r (i + 1)).b = 1 := by have := ok1.b; lia
   refine rIfF (tCmp (oE rfl (nSub rfl (oSub rfl (nSub rfl (oName rfl hro) (nName rfl rfl) (sub_L (by exact wk ‹_› rfl) w1))) (nConst rfl) (sub_T (k := 1) (by decide) rfl))) (oE rfl (nConst rfl)) ((eq_S (b := [40]) (okL_one (by have := ok1.b; lia)) (okL_one (by decide))).trans (congrArg some (decide_eq_false (by intro q; injection q with q; lia))))) ?_
   have ll := earlier_le r (i + 1) (by exact Nat.le_succ_of_le ‹_›)
   have cut : cutL (r.map slotD) (some 1) (some (i + 1)) = ((r.drop 1).take (i + 1 - 1)).map slotD := by
    unfold cutL; simp [List.map_drop, List.map_take]
   refine rCons (sAsg rfl rfl (nBuilt (l := [.list ((((((r.drop 1).take (i + 1 - 1)).map slotD).filter (isBr 0)).map fun p => p))]) rfl rfl (by decide) (oCons (oE rfl (nComp (ecomp_of (items := ((r.drop 1).take (i + 1 - 1)).map slotD) rfl (iO rfl (oSub rfl (nSlice (oName rfl hro) (pSome (k := 1) (nConst rfl) rfl (by decide)) (pSome (nName rfl rfl) rfl (by show i + 1 ≤ 1048576; exact wk ‹_› rfl)) ((slice_L (by rw [List.length_map]; lia)).trans (by rw [cut])))) rfl) (short_of (by rw [List.length_map, List.length_take]; exact wkK ‹_› rfl)) (compL_all _ fun p hp => ?_)))) oNil) (by rw [len_L (by rw [filt_slots]; show earlierN r (i + 1) ≤ _; exact wk ‹_› rfl), filt_slots]))) ?_
   ·obtain ⟨s, hs, rfl⟩ := List.mem_map.mp hp
    have hs' : s ∈ r := List.mem_of_mem_drop (List.mem_of_mem_take hs)
    refine ⟨_, rfl, cOne (tCmp (oSub rfl (nSub rfl (oName rfl rfl) (nConst rfl) (sub_T (k := 1) (by decide) rfl))) (oE rfl (nConst rfl)) ((eq_S (b := [40]) (okL_one (by have := (hok s hs').b; lia)) (okL_one (by decide))).trans ?_)), fun _ => eltOf (nName rfl rfl)⟩
    rw [isBr_slot]
    congr 1
    apply decide_eq_decide.mpr
    constructor
    ·intro q; injection q with q; lia
    ·intro q; rw [q]
   ·have ev : earlierN r (i + 1) = (((r.drop 1).take (i + 1 - 1)).filter (fun s => decide (s.b = 0))).length := rfl
    have bl := dueB_len r i (by exact Nat.le_of_lt ‹_›)
    refine rCons (sAsg rfl rfl (nBin (oE rfl (nBin (oE rfl (nBin (oE rfl (nConst rfl)) (oE rfl (nBin (oE rfl (nConst rfl)) (oName rfl rfl) (show binD .Add (.int 1) (.int (earlierN r (i + 1))) = some (.int ((1 + earlierN r (i + 1) : Nat) : Int)) from congrArg (fun z => some (PyData.int z)) (by rfl)))) (dots_S (c := 46) (by exact adc' ‹_› rfl)))) (oE rfl (nFn rfl rfl (by decide) (fun _ => rfl) (xCons (nSub rfl (oSub rfl (nSub rfl (oName rfl hro) (nName rfl rfl) (sub_L (by exact wk ‹_› rfl) w1))) (nConst rfl) (sub_T (k := 2) (by decide) rfl)) (xCons (nCmp (oName rfl rfl) (oE rfl (nConst rfl)) (show cmpD .Gt (.int (earlierN r (i + 1))) (.int 0) = some (decide (earlierN r (i + 1) > 0)) from congrArg some (decide_eq_decide.mpr (by exact c0I)))) xNil)) (r_tail _ ok1.w _))) (add_S (by rw [List.length_replicate]; have := tail_len (sl r (i + 1)).w (decide (earlierN r (i + 1) > 0)); lia)))) (oName rfl hb) (add_S (by rw [List.length_append, List.length_replicate]; have := tail_len (sl r (i + 1)).w (decide (earlierN r (i + 1) > 0)); lia)))) ?_
    exact rNil (aNext (rNil ⟨hro, (if_neg hA ▸ stepA) ▸ ha, (if_neg hA ▸ stepB) ▸ rfl⟩))
 ·obtain @⟨σ, hro, ha, hb⟩ := h
  exact rRet (oE rfl (nList (eCons (nName rfl ha) (eCons (nName rfl hb) eNil)) rfl)) rfl
end
section
theorem eq_I (a b : Int) : cmpD .Eq (.int a) (.int b) = some (decide (a = b)) := by
 have : cmpD .Eq (.int a) (.int b) = if SeqAt.shaped (.int a) && SeqAt.shaped (.int b) then some (PyData.eqv (.int a) (.int b)) else none := rfl
 have sh : ∀ a : Int, SeqAt.shaped (.int a) = true := fun a => by simp [SeqAt.shaped, PyData.canLay0, PyData.depth]
 rw [this, sh, sh]
 show some (a == b) = _
 congr 1
noncomputable abbrev pt (P : List (List Nat)) (k : Nat) : List Nat := P.getD k []
theorem pget {P : List (List Nat)} {k : Nat} (h : k < P.length) : (P.map S)[k]? = some (S (pt P k)) := by
 rw [List.getElem?_map, List.getElem?_eq_getElem h, pt, List.getD_eq_getElem?_getD, List.getElem?_eq_getElem h]; rfl
noncomputable def wantA (P : List (List Nat)) (i j : Nat) : List Nat := [46, 46, 46] ++ pt P i ++ [46, 46, 46] ++ pt P j ++ [46, 46, 46]
noncomputable def wantB (P : List (List Nat)) (i j : Nat) : List Nat := (P.take (i + 1)).flatten ++ [46, 46, 46] ++ (P.drop j).flatten
noncomputable def wantIJ (P : List (List Nat)) (i j : Nat) : List Nat := if (i + j) % 4 > 1 then wantB P i j else wantA P i j
noncomputable def ellR (want got : List Nat) (v : Bool) : Prop := runFn T2 d_ellipsis.1.1 d_ellipsis.1.2.1 d_ellipsis.1.2.2 ["ws"] [] [.d (S want), .d (S got)] = some (.d (.bool v))
noncomputable def openL (r : List Slot) : List Nat := (List.range 8).filter fun k => decide ((sl r k).b = 0)
noncomputable def closeL (r : List Slot) (i : Nat) : List Nat := (List.range 8).filter fun k => decide ((sl r k).b = 1) || decide (k = i)
noncomputable def jn (i j : Nat) : PyData := .tuple [.int i, .int j]
noncomputable def jl (i : Nat) (js : List Nat) : List PyData := (js.filter fun j => decide (i < j)).map (jn i)
noncomputable def joinsTo (r : List Slot) (m : Nat) : List PyData := ((openL r).take m).flatMap fun i => jl i (closeL r i)
inductive J1 (P : List (List Nat)) (r : List Slot) (i : Nat) : St → Prop
 | mk {σ : Sig} (pa : σ "parts" = some (.d (.list (P.map S)))) (ro : σ "row" = some (.d (rowD r))) (te : σ "text" = some (.d (S P.flatten))) : J1 P r i ⟨σ, []⟩
inductive J2 (P : List (List Nat)) (r : List Slot) (m : Nat) : St → Prop
 | mk {σ : Sig} (pa : σ "parts" = some (.d (.list (P.map S)))) (ro : σ "row" = some (.d (rowD r))) (te : σ "text" = some (.d (S P.flatten))) (jo : σ "joints" = some (.d (.list (joinsTo r m)))) : J2 P r m ⟨σ, [("joints" : Str)]⟩
inductive J3 (P : List (List Nat)) (r : List Slot) (m i t : Nat) : St → Prop
 | mk {σ : Sig} (pa : σ "parts" = some (.d (.list (P.map S)))) (ro : σ "row" = some (.d (rowD r))) (te : σ "text" = some (.d (S P.flatten))) (ii : σ "i" = some (.d (.int i))) (jo : σ "joints" = some (.d (.list (joinsTo r m ++ jl i ((closeL r i).take t))))) : J3 P r m i t ⟨σ, [("joints" : Str)]⟩
theorem mapInt_get {L : List Nat} {i : Nat} {p : PyData} (h : (natsL L)[i]? = some p) : ∃ k, L[i]? = some k ∧ p = .int k := by
 unfold natsL at h
 rw [List.getElem?_map] at h
 cases q : L[i]? with
 | none => rw [q] at h; cases h
 | some k => rw [q] at h; obtain rfl := sm_ h; exact ⟨k, rfl, rfl⟩
theorem join_len (r : List Slot) (m : Nat) : (joinsTo r m).length ≤ 64 := by
 unfold joinsTo
 have h1 : ∀ (L : List Nat), (L.flatMap fun i => jl i (closeL r i)).length ≤ 8 * L.length := by
  intro L
  induction L with
  | nil => exact Nat.le_refl _
  | cons i L ih =>
   rw [List.flatMap_cons, List.length_append, List.length_cons]
   have : (jl i (closeL r i)).length ≤ 8 := by
    unfold jl closeL
    rw [List.length_map]
    have a := List.length_filter_le (fun j => decide (i < j)) ((List.range 8).filter fun k => decide ((sl r k).b = 1) || decide (k = i))
    have b := List.length_filter_le (fun k => decide ((sl r k).b = 1) || decide (k = i)) (List.range 8)
    rw [List.length_range] at b; exact Nat.le_trans ‹_› ‹_›
   lia
 have h2 := h1 ((openL r).take m)
 have h3 : ((openL r).take m).length ≤ 8 := by
  have a := List.length_take_le' m (openL r)
  have b : (openL r).length ≤ 8 := by
   unfold openL
   have := List.length_filter_le (fun k => decide ((sl r k).b = 0)) (List.range 8)
   rw [List.length_range] at this; exact this
  exact Nat.le_trans ‹_› ‹_›
 lia
noncomputable def gI (q : Nat → Bool) (p : PyData) : Bool := match p with
 | .int k => q k.toNat
 | _ => false
theorem natsD_filter (n : Nat) (q : Nat → Bool) : (((natsD n).filter (gI q)).map fun p => p) = natsL ((List.range n).filter q) := by
 rw [List.map_id']
 unfold natsD natsL
 rw [List.filter_map]
 congr 1
theorem open_len (r : List Slot) : (openL r).length ≤ 8 := by
 unfold openL
 have := List.length_filter_le (fun k => decide ((sl r k).b = 0)) (List.range 8)
 rw [List.length_range] at this; exact this
theorem close_len (r : List Slot) (i : Nat) : (closeL r i).length ≤ 8 := by
 unfold closeL
 have := List.length_filter_le (fun k => decide ((sl r k).b = 1) || decide (k = i)) (List.range 8)
 rw [List.length_range] at this; exact this
theorem joins_succ {r : List Slot} {m i : Nat} (h : (openL r)[m]? = some i) : joinsTo r (m + 1) = joinsTo r m ++ jl i (closeL r i) := by
 unfold joinsTo
 rw [List.take_add_one, h, List.flatMap_append]
 congr 1
 show jl i (closeL r i) ++ [] = _
 rw [List.append_nil]
theorem jl_succ {i t j : Nat} {L : List Nat} (h : L[t]? = some j) : jl i (L.take (t + 1)) = if i < j then jl i (L.take t) ++ [jn i j] else jl i (L.take t) := by
 unfold jl
 rw [List.take_add_one, h, List.filter_append, List.map_append]
 by_cases q : i < j
 ·rw [if_pos q, show (some j).toList.filter (fun j => decide (i < j)) = [j] by simp [q]]; rfl
 ·rw [if_neg q, show (some j).toList.filter (fun j => decide (i < j)) = [] by simp [q]]; simp
theorem r_joints {P : List (List Nat)} {r : List Slot} (hP : P.length = 8) (hr : r.length = 8) (hok : ∀ s ∈ r, s.Ok) (pl : ∀ x ∈ P, x.length ≤ 10)
  (h1 : ∀ k, k < 8 → ellR (pt P k ++ [46, 46, 46]) P.flatten (decide (k = 0))) (h2 : ∀ k, k < 8 → ellR ([46, 46, 46] ++ pt P k) P.flatten (decide (k = 7)))
  (h3 : ∀ i j, i < 8 → j < 8 → ellR (wantIJ P i j) P.flatten (decide (i < j))) :
  runFn T16 d_joints.1.1 d_joints.1.2.1 d_joints.1.2.2 ["joints"] [] [.d (.list (P.map S)), .d (rowD r)] = some (.d (.list (joinsTo r 8))) := by
 have flat : ∀ (L : List (List Nat)), (∀ x ∈ L, x.length ≤ 10) → L.flatten.length ≤ 10 * L.length := by
  intro L
  induction L with
  | nil => intro _; exact Nat.zero_le _
  | cons x L ih =>
   intro hx
   rw [List.flatten_cons, List.length_append, List.length_cons]
   have := ih fun y hy => hx y (.tail _ hy)
   have := hx x (.head _)
   lia
 have fl := flat P pl
 have ptl : ∀ k, (pt P k).length ≤ 10 := fun k => by
  rw [pt, List.getD_eq_getElem?_getD]
  cases q : P[k]? with
  | none => exact Nat.zero_le _
  | some x => exact pl x (List.mem_of_getElem? q)
 refine runFn_run rfl ?_
 refine rCons (sAsg rfl rfl (nMeth rfl (by decide) (nConst rfl) (oCons (oName rfl rfl) oNil) (join_S (by lia) (by lia)))) ?_
 refine rForRange (I := J1 P r) (items := natsD 8) (iRange rfl (eCons (nConst rfl) eNil) (rangeD_N (n := 8) (by decide))) ⟨rfl, rfl, rfl⟩ (fun i p Z hp h => ?_) fun Z h => ?_
 ·obtain ⟨hi, rfl⟩ := natsD_get hp
  obtain @⟨σ, hpa, hro, hte⟩ := h
  have g := pget (P := P) (k := i) (by lia)
  have l1 := ptl i
  refine ⟨_, rfl, ?_⟩
  refine rIfF (tCmp (oE rfl (nFn rfl rfl (by decide) (fun _ => rfl) (xCons (nBin (oSub rfl (nSub rfl (oName rfl hpa) (nName rfl rfl) (sub_L (by exact wk (Nat.le_of_lt ‹_›) rfl) g))) (oE rfl (nConst rfl)) (add_S (b := [46, 46, 46]) (by show _ + 3 ≤ _; exact adc ‹_› rfl))) (xCons (nName rfl hte) xNil)) (h1 i hi))) (oE rfl (nCmp (oName rfl rfl) (oE rfl (nConst rfl)) (eq_I _ _))) (show some (!(decide (i = 0) == decide ((i : Int) = 0))) = some false from congrArg some (by rw [show decide ((i : Int) = 0) = decide (i = 0) from decide_eq_decide.mpr (by lia)]; simp))) ?_
  refine rNil (aNext ?_)
  refine rIfF (tCmp (oE rfl (nFn rfl rfl (by decide) (fun _ => rfl) (xCons (nBin (oE rfl (nConst rfl)) (oSub rfl (nSub rfl (oName rfl hpa) (nName rfl rfl) (sub_L (by exact wk (Nat.le_of_lt ‹_›) rfl) g))) (add_S (a := [46, 46, 46]) (by show 3 + _ ≤ _; exact adc' ‹_› rfl))) (xCons (nName rfl hte) xNil)) (h2 i hi))) (oE rfl (nCmp (oName rfl rfl) (oE rfl (nConst rfl)) (eq_I _ _))) (show some (!(decide (i = 7) == decide ((i : Int) = 7))) = some false from congrArg some (by rw [show decide ((i : Int) = 7) = decide (i = 7) from decide_eq_decide.mpr (by lia)]; simp))) ?_
  exact rNil (aNext (rNil ⟨hpa, hro, hte⟩))
 ·obtain @⟨σ, hpa, hro, hte⟩ := h
  refine rCons (sOwn rfl rfl rfl (nList eNil rfl)) ?_
  have brk : ∀ k, k < 8 → (sl r k).b < 2 := fun k hk => (sl_ok hok (k := k) (by lia)).b
  have rg : ∀ k, k < 8 → (r.map slotD)[k]? = some (slotD (sl r k)) := fun k hk => rget (r := r) (k := k) (by lia)
  refine rFor (I := J2 P r) (items := natsL (openL r)) rfl (iE rfl (nComp (ecomp_of (items := natsD 8) rfl (iRange rfl (eCons (nConst rfl) eNil) (rangeD_N (n := 8) (by decide))) rfl ((compL_all (g := gI fun k => decide ((sl r k).b = 0)) (f := fun p => p) _ fun p hp => ?_).trans (by rw [natsD_filter]; rfl)))) rfl) ⟨hpa, hro, hte, rfl⟩ (fun m p Z hp h => ?_) fun Z h => ?_
  ·obtain ⟨k, hk, rfl⟩ := List.mem_map.mp hp
   have hk := List.mem_range.mp hk
   refine ⟨_, rfl, cOne (tCmp (oE rfl (nSub rfl (oSub rfl (nSub rfl (oName rfl hro) (nName rfl rfl) (sub_L (by exact wk (Nat.le_of_lt ‹_›) rfl) (rg k hk)))) (nConst rfl) (sub_T (k := 1) (by decide) rfl))) (oE rfl (nConst rfl)) ((eq_S (b := [40]) (okL_one (by have := brk k hk; lia)) (okL_one (by decide))).trans ?_)), fun _ => eltOf (nName rfl rfl)⟩
   show some (decide ([40 + (sl r k).b] = [40])) = some (decide ((sl r k).b = 0))
   congr 1
   apply decide_eq_decide.mpr
   constructor
   ·intro q; injection q with q; lia
   ·intro q; rw [q]
  ·obtain ⟨i, hi, rfl⟩ := mapInt_get hp
   obtain @⟨σ, hpa, hro, hte, hjo⟩ := h
   have i8 : i < 8 := by
    have := List.mem_of_getElem? hi
    unfold openL at this
    exact List.mem_range.mp (List.mem_filter.mp this).1
   have gi := pget (P := P) (k := i) (by lia)
   have li := ptl i
   refine ⟨_, rfl, ?_⟩
   refine rFor (I := J3 P r m i) (items := natsL (closeL r i)) rfl (iE rfl (nComp (ecomp_of (items := natsD 8) rfl (iRange rfl (eCons (nConst rfl) eNil) (rangeD_N (n := 8) (by decide))) rfl ((compL_all (g := gI fun k => decide ((sl r k).b = 1) || decide (k = i)) (f := fun p => p) _ fun p hp => ?_).trans (by rw [natsD_filter]; rfl)))) rfl) ⟨hpa, hro, hte, rfl, by rw [show jl i ((closeL r i).take 0) = [] from rfl, List.append_nil]; exact hjo⟩ (fun t p Z hp h => ?_) fun Z h => ?_
   ·obtain ⟨k, hk, rfl⟩ := List.mem_map.mp hp
    have hk := List.mem_range.mp hk
    have e1 : decide ([40 + (sl r k).b] = [41]) = decide ((sl r k).b = 1) := by
     apply decide_eq_decide.mpr
     constructor
     ·intro q; injection q with q; lia
     ·intro q; rw [q]
    refine ⟨_, rfl, cOne (tBool ?_), fun _ => eltOf (nName rfl rfl)⟩
    show Mine.etB _ _ _ _ _ = some (decide ((sl r k).b = 1) || decide (k = i))
    by_cases q1 : (sl r k).b = 1
    ·rw [decide_eq_true q1, Bool.true_or]
     exact bOrT (tCmp (oE rfl (nSub rfl (oSub rfl (nSub rfl (oName rfl hro) (nName rfl rfl) (sub_L (by exact wk (Nat.le_of_lt ‹_›) rfl) (rg k hk)))) (nConst rfl) (sub_T (k := 1) (by decide) rfl))) (oE rfl (nConst rfl)) ((eq_S (b := [41]) (okL_one (by have := brk k hk; lia)) (okL_one (by decide))).trans (by rw [e1, decide_eq_true q1])))
    ·rw [decide_eq_false q1, Bool.false_or]
     refine bOrF (tCmp (oE rfl (nSub rfl (oSub rfl (nSub rfl (oName rfl hro) (nName rfl rfl) (sub_L (by exact wk (Nat.le_of_lt ‹_›) rfl) (rg k hk)))) (nConst rfl) (sub_T (k := 1) (by decide) rfl))) (oE rfl (nConst rfl)) ((eq_S (b := [41]) (okL_one (by have := brk k hk; lia)) (okL_one (by decide))).trans (by rw [e1, decide_eq_false q1]))) ?_
     have e2 : decide ((k : Int) = (i : Int)) = decide (k = i) := decide_eq_decide.mpr (by lia)
     by_cases q2 : k = i
     ·rw [decide_eq_true q2]
      exact bOrT (tCmp (oName rfl rfl) (oName rfl rfl) ((eq_I _ _).trans (by rw [e2, decide_eq_true q2])))
     ·rw [decide_eq_false q2]
      exact bOrF (tCmp (oName rfl rfl) (oName rfl rfl) ((eq_I _ _).trans (by rw [e2, decide_eq_false q2]))) bNil
   ·obtain ⟨j, hj, rfl⟩ := mapInt_get hp
    obtain @⟨σ, hpa, hro, hte, hii, hjo⟩ := h
    have jm := List.mem_of_getElem? hj
    have j8 : j < 8 := by
     unfold closeL at jm
     exact List.mem_range.mp (List.mem_filter.mp jm).1
    have gj := pget (P := P) (k := j) (by lia)
    have lj := ptl j
    have step := jl_succ (i := i) hj
    have jlen := join_len r m
    have jl2 : (jl i ((closeL r i).take t)).length ≤ 8 := by
     unfold jl
     rw [List.length_map]
     have a := List.length_filter_le (fun j => decide (i < j)) ((closeL r i).take t)
     have b := List.length_take_le' t (closeL r i)
     have c := close_len r i
     lia
    have la : ∀ (L : List (List Nat)), (∀ x ∈ L, x ∈ P) → L.length ≤ 8 → L.flatten.length ≤ 80 := fun L h hl => by
     have := flat L fun x hx => pl x (h x hx)
     lia
    have lt := la (P.take (i + 1)) (fun x hx => List.mem_of_mem_take hx) (by rw [List.length_take]; lia)
    have ld := la (P.drop j) (fun x hx => List.mem_of_mem_drop hx) (by rw [List.length_drop]; exact wkE ‹_› rfl)
    refine ⟨_, rfl, ?_⟩
    refine rCons (sAsg rfl rfl (nBin (oE rfl (nBin (oE rfl (nBin (oE rfl (nBin (oE rfl (nConst rfl)) (oSub rfl (nSub rfl (oName rfl hpa) (nName rfl hii) (sub_L (by exact wk (Nat.le_of_lt ‹_›) rfl) gi))) (add_S (a := [46, 46, 46]) (by show 3 + _ ≤ _; exact adc' ‹_› rfl)))) (oE rfl (nConst rfl)) (add_S (b := [46, 46, 46]) (by rw [List.length_append]; show 3 + _ + 3 ≤ _; lia)))) (oSub rfl (nSub rfl (oName rfl hpa) (nName rfl rfl) (sub_L (by exact wk (Nat.le_of_lt ‹_›) rfl) gj))) (add_S (by rw [List.length_append, List.length_append]; show 3 + _ + 3 + _ ≤ _; lia)))) (oE rfl (nConst rfl)) (add_S (b := [46, 46, 46]) (by rw [List.length_append, List.length_append, List.length_append]; show 3 + _ + 3 + _ + 3 ≤ _; lia)))) ?_
    have hw := h3 i j i8 j8
    unfold wantIJ at hw
    have emod : (((i : Int) + (j : Int))) = ((i + j : Nat) : Int) := by rfl
    by_cases hm : (i + j) % 4 > 1
    ·rw [if_pos hm] at hw
     refine rIfT (tCmp (oE rfl (nBin (oE rfl (nBin (oName rfl hii) (oName rfl rfl) (show binD .Add (.int i) (.int j) = some (.int ((i + j : Nat) : Int)) from rfl))) (oE rfl (nConst rfl)) (mod_N (b := 4) (by decide) (by decide)))) (oE rfl (nConst rfl)) (congrArg some (decide_eq_true (show (((i + j) % 4 : Nat) : Int) > 1 by exact Int.ofNat_lt.mpr ‹_›)))) ?_
     refine rCons (sAsg rfl rfl (nBin (oE rfl (nBin (oE rfl (nMeth rfl (by decide) (nConst rfl) (oCons (oSub rfl (nSlice (oName rfl hpa) pNone (pSome (k := i + 1) (nBin (oName rfl hii) (oE rfl (nConst rfl)) rfl) rfl (by show i + 1 ≤ 1048576; exact wk ‹_› rfl)) ((slice_L (by rw [List.length_map]; lia)).trans (show some (PyData.list (cutL (P.map S) none (some (i + 1)))) = some (.list ((P.take (i + 1)).map S)) by rw [cut_take, List.map_take])))) oNil) (join_S (by rw [List.length_take]; lia) (by exact wk ‹_› rfl)))) (oE rfl (nConst rfl)) (add_S (b := [46, 46, 46]) (by show _ + 3 ≤ _; exact adc ‹_› rfl)))) (oE rfl (nMeth rfl (by decide) (nConst rfl) (oCons (oSub rfl (nSlice (oName rfl hpa) (pSome (k := j) (nName rfl rfl) rfl (by show j ≤ 1048576; exact wk (Nat.le_of_lt ‹_›) rfl)) pNone ((slice_L (by rw [List.length_map]; lia)).trans (show some (PyData.list (cutL (P.map S) (some j) none)) = some (.list ((P.drop j).map S)) by rw [cut_drop, List.map_drop])))) oNil) (join_S (by rw [List.length_drop]; exact wkE ‹_› rfl) (by exact wk ‹_› rfl)))) (add_S (by rw [List.length_append]; show _ + 3 + _ ≤ _; lia)))) ?_
     refine rNil (aNext ?_)
     refine rCons (sAsg rfl rfl (nFn rfl rfl (by decide) (fun _ => rfl) (xCons (nName rfl rfl) (xCons (nName rfl hte) xNil)) hw)) ?_
     by_cases hlt : i < j
     ·refine rIfT (tBool (bAndT (tCmp (oName rfl rfl) (oE rfl (nConst rfl)) (show some (decide (i < j) == true) = some true from congrArg some (by simp [hlt]))) (bAndT (tCmp (oName rfl rfl) (oName rfl hii) ((ne_I _ _).trans (congrArg some (decide_eq_true (by lia))))) bNil))) ?_
      refine rCons (sAppend rfl rfl hjo (nTuple (eCons (nName rfl hii) (eCons (nName rfl rfl) eNil)) rfl) (short_of (by rw [List.length_append]; exact ad2 ‹_› ‹_› rfl))) ?_
      refine rNil (aNext (rNil ⟨hpa, hro, hte, hii, ?_⟩))
      rw [step, if_pos hlt, ← List.append_assoc]; rfl
     ·refine rIfF (tBool (bAndF (tCmp (oName rfl rfl) (oE rfl (nConst rfl)) (show some (decide (i < j) == true) = some false from congrArg some (by simp [hlt]))))) ?_
      refine rIfF (tCmp (oName rfl rfl) (oE rfl (nConst rfl)) (show some (!(decide (i < j) == false)) = some false from congrArg some (by simp [hlt]))) ?_
      refine rNil (aNext (rNil (aNext (rNil ⟨hpa, hro, hte, hii, ?_⟩))))
      rw [step, if_neg hlt]; exact hjo
    ·rw [if_neg hm] at hw
     refine rIfF (tCmp (oE rfl (nBin (oE rfl (nBin (oName rfl hii) (oName rfl rfl) (show binD .Add (.int i) (.int j) = some (.int ((i + j : Nat) : Int)) from rfl))) (oE rfl (nConst rfl)) (mod_N (b := 4) (by decide) (by decide)))) (oE rfl (nConst rfl)) (congrArg some (decide_eq_false (show ¬ (((i + j) % 4 : Nat) : Int) > 1 by lia)))) ?_
     refine rNil (aNext ?_)
     refine rCons (sAsg rfl rfl (nFn rfl rfl (by decide) (fun _ => rfl) (xCons (nName rfl rfl) (xCons (nName rfl hte) xNil)) hw)) ?_
     by_cases hlt : i < j
     ·refine rIfT (tBool (bAndT (tCmp (oName rfl rfl) (oE rfl (nConst rfl)) (show some (decide (i < j) == true) = some true from congrArg some (by simp [hlt]))) (bAndT (tCmp (oName rfl rfl) (oName rfl hii) ((ne_I _ _).trans (congrArg some (decide_eq_true (by lia))))) bNil))) ?_
      refine rCons (sAppend rfl rfl hjo (nTuple (eCons (nName rfl hii) (eCons (nName rfl rfl) eNil)) rfl) (short_of (by rw [List.length_append]; exact ad2 ‹_› ‹_› rfl))) ?_
      refine rNil (aNext (rNil ⟨hpa, hro, hte, hii, ?_⟩))
      rw [step, if_pos hlt, ← List.append_assoc]; rfl
     ·refine rIfF (tBool (bAndF (tCmp (oName rfl rfl) (oE rfl (nConst rfl)) (show some (decide (i < j) == true) = some false from congrArg some (by simp [hlt]))))) ?_
      refine rIfF (tCmp (oName rfl rfl) (oE rfl (nConst rfl)) (show some (!(decide (i < j) == false)) = some false from congrArg some (by simp [hlt]))) ?_
      refine rNil (aNext (rNil (aNext (rNil ⟨hpa, hro, hte, hii, ?_⟩))))
      rw [step, if_neg hlt]; exact hjo
   ·obtain @⟨σ, hpa, hro, hte, hii, hjo⟩ := h
    have el : (natsL (closeL r i)).length = (closeL r i).length := by unfold natsL; rw [List.length_map]
    rw [el, List.take_length] at hjo
    exact rNil ⟨hpa, hro, hte, by rw [joins_succ hi]; exact hjo⟩
  ·obtain @⟨σ, hpa, hro, hte, hjo⟩ := h
   have el : (natsL (openL r)).length = (openL r).length := by unfold natsL; rw [List.length_map]
   have e2 : joinsTo r (openL r).length = joinsTo r 8 := by
    unfold joinsTo
    rw [List.take_length, List.take_of_length_le (open_len r)]
   rw [el, e2] at hjo
   exact rRet (oOwn rfl hjo) rfl
end
section
open Builtin.Str in
theorem subAt_L {x w : List Nat} {i : Nat} : Builtin.Str.subAt (str x) (str w) i = true ↔ (x.drop i).take w.length = w := by
 unfold Builtin.Str.subAt
 rw [slen]
 constructor
 ·intro h
  have h := eq_of_beq h
  have := congrArg Array.toList h
  simpa using this
 ·intro h
  have : (str x).cps.extract i (i + w.length) = (str w).cps := by
   apply Array.ext'
   simpa using h
  rw [this]; exact beq_self_eq_true _
noncomputable def AtL (x w : List Nat) (e i : Nat) : Prop := i + w.length ≤ e ∧ (x.drop i).take w.length = w
theorem at_iff {x w : List Nat} {e i : Nat} : StrLaws.At (str x) (str w) e i ↔ AtL x w e i := by
 unfold StrLaws.At AtL
 rw [slen, subAt_L]
theorem fnd_cases (got w : List Nat) (s e : Nat) : (fnd got w s e = -1 ∧ ∀ i, s ≤ i → ¬ AtL got w e i) ∨ ∃ k : Nat, fnd got w s e = k ∧ s ≤ k ∧ AtL got w e k ∧ ∀ i, s ≤ i → i < k → ¬ AtL got w e i := by
 unfold fnd findAt
 rw [StrLaws.occ_eq]
 rcases StrLaws.occ_first (str got) (str w) e 1 (Nat.le_refl _) (List.range' s (e + 1 - s)) s (fun i hi => by simp [List.mem_range'] at hi; lia) with ⟨h0, hn⟩ | ⟨pre, a, post, ee, h0, ha, hn⟩
 ·left
  rw [h0]
  refine ⟨rfl, fun i hi h => hn i (by simp [List.mem_range']; have := h.1; refine ⟨i - s, ?_, ?_⟩ <;> lia) (at_iff.mpr h)⟩
 ·right
  refine ⟨a, ?_, ?_, at_iff.mp ha, fun i h1 h2 h3 => hn i ?_ (at_iff.mpr h3)⟩
  ·generalize (forIn (List.range' s (e + 1 - s)) ((#[] : Array Nat), s) (StrLaws.occBody (str got) (str w) e 1)).run.fst = arr at h0
   have h1 : arr.toList[0]? = some a := by simpa using h0
   cases hL : arr.toList with
   | nil => rw [hL] at h1; cases h1
   | cons b r => rw [hL] at h1; obtain rfl := sm_ h1; rfl
  ·have : a ∈ List.range' s (e + 1 - s) := by rw [ee]; simp
   simp [List.mem_range'] at this; lia
  ·-- smaller ones stand ahead
   have hlen : (List.range' s (e + 1 - s))[pre.length]? = some a := by rw [ee]; simp
   have hp : pre.length < e + 1 - s := by
    have := congrArg List.length ee
    simp at this; lia
   rw [List.getElem?_range' hp] at hlen
   have ea : a = s + pre.length := by have := Option.some.inj hlen; lia
   have hi : (List.range' s (e + 1 - s))[i - s]? = pre[i - s]? := by rw [ee, List.getElem?_append_left (by exact fnB ‹_› ‹_› ‹_›)]
   rw [List.getElem?_range' (by exact fnC ‹_› ‹_› ‹_› ‹_›)] at hi
   have : pre[i - s]? = some i := by rw [← hi]; congr 1; lia
   exact List.mem_of_getElem? this
theorem fnd_some {got w : List Nat} {s e k : Nat} (h1 : s ≤ k) (h2 : AtL got w e k) (h3 : ∀ i, s ≤ i → i < k → ¬ AtL got w e i) : fnd got w s e = k := by
 rcases fnd_cases got w s e with ⟨_, h⟩ | ⟨j, h, a, b, c⟩
 ·exact absurd h2 (h k h1)
 ·rw [h]
  rcases Nat.lt_trichotomy j k with q | q | q
  ·exact absurd b (h3 j a q)
  ·rw [q]
  ·exact absurd h2 (c k h1 q)
theorem fnd_none {got w : List Nat} {s e : Nat} (h : ∀ i, s ≤ i → ¬ AtL got w e i) : fnd got w s e < 0 := by
 rcases fnd_cases got w s e with ⟨q, _⟩ | ⟨j, _, a, b, _⟩
 ·rw [q]; decide
 ·exact absurd b (h j a)
theorem starts_iff {x w : List Nat} : Txt.startswith (str x) (str w) = true ↔ AtL x w x.length 0 := by
 unfold Txt.startswith AtL
 rw [slen, slen]
 simp only [Bool.and_eq_true, decide_eq_true_eq]
 rw [subAt_L]
theorem ends_iff {x w : List Nat} : Txt.endswith (str x) (str w) = true ↔ w.length ≤ x.length ∧ (x.drop (x.length - w.length)).take w.length = w := by
 unfold Txt.endswith
 rw [slen, slen]
 simp only [Bool.and_eq_true, decide_eq_true_eq]
 rw [subAt_L, Nat.zero_add]
noncomputable def dots3 : List Nat := [46, 46, 46]
noncomputable def joinD : List (List Nat) → List Nat
 | [] => []
 | [w] => w
 | w :: r => w ++ dots3 ++ joinD r
theorem joinD_cons {w : List Nat} {r : List (List Nat)} (h : r ≠ []) : joinD (w :: r) = w ++ dots3 ++ joinD r := by
 cases r with
 | nil => exact absurd rfl h
 | cons => rfl
theorem at_dot {x : List Nat} {e i : Nat} (h : AtL x dots3 e i) : x[i]? = some 46 := by
 have := h.2
 have h0 : ((x.drop i).take 3)[0]? = some 46 := by rw [show (x.drop i).take 3 = dots3 from this]; rfl
 rw [List.getElem?_take_of_lt (by decide), List.getElem?_drop] at h0
 simpa using h0
theorem str_of {s : Str} {l : List Nat} (h : s.cps.toList = l) : s = str l := by
 obtain ⟨c⟩ := s
 subst h
 show (⟨c⟩ : Str) = ⟨c.toList.toArray⟩
 rw [Array.toArray_toList]
theorem at_here {u v w : List Nat} : AtL (u ++ v ++ w) v (u ++ v ++ w).length u.length := by
 unfold AtL
 refine ⟨by simp, ?_⟩
 rw [List.append_assoc, List.drop_left, List.take_left]
theorem chain_parts : ∀ (W : List (List Nat)) (pre x : List Nat) (cuts : List Nat) (f : Nat), W ≠ [] → (∀ w ∈ W, 46 ∉ w) → x = pre ++ joinD W → StrLaws.ChainG (str x) (str dots3) x.length pre.length cuts f → (∀ k, f ≤ k → ¬ AtL x dots3 x.length k) →
  StrLaws.partsFrom (str x) 3 pre.length cuts = W.map str
 | [], _, _, _, _, h, _, _, _, _ => absurd rfl h
 | [w], pre, x, cuts, f, _, hw, hx, hc, hf => by
  have hx : x = pre ++ w := hx
  have none : ∀ k, pre.length ≤ k → ¬ AtL x dots3 x.length k := fun k hk h => by
   have := at_dot h
   rw [hx, List.getElem?_append_right hk] at this
   exact hw w (.head _) (List.mem_of_getElem? this)
  cases cuts with
  | cons c r => exact absurd (at_iff.mp hc.2.1) (none c hc.1)
  | nil =>
   show [Builtin.Str.strSub (str x) pre.length (str x).length] = [str w]
   congr 1
   refine str_of ?_
   rw [StrLaws.strSub_toList, slen]
   show (x.drop pre.length).take (x.length - pre.length) = w
   rw [hx, List.drop_left, List.length_append, Nat.add_sub_cancel_left, List.take_length]
 | w :: v :: r, pre, x, cuts, f, _, hw, hx, hc, hf => by
  have hx : x = pre ++ (w ++ dots3 ++ joinD (v :: r)) := hx
  have hx2 : x = (pre ++ w) ++ dots3 ++ joinD (v :: r) := by rw [hx]; simp
  have here : AtL x dots3 x.length (pre.length + w.length) := by
   have := at_here (u := pre ++ w) (v := dots3) (w := joinD (v :: r))
   rw [← hx2, List.length_append] at this; exact this
  have none : ∀ k, pre.length ≤ k → k < pre.length + w.length → ¬ AtL x dots3 x.length k := fun k h1 h2 h => by
   have := at_dot h
   rw [hx, List.getElem?_append_right h1, List.append_assoc, List.getElem?_append_left (by exact fnD ‹_› ‹_›)] at this
   exact hw w (.head _) (List.mem_of_getElem? this)
  cases cuts with
  | nil =>
   have e : f = pre.length := hc
   exact absurd here (hf _ (by lia))
  | cons c q =>
   obtain ⟨c1, c2, c3, c4⟩ := hc
   have hcc : c = pre.length + w.length := by
    rcases Nat.lt_trichotomy c (pre.length + w.length) with z | z | z
    ·exact absurd (at_iff.mp c2) (none c c1 z)
    ·exact z
    ·exact absurd (at_iff.mpr here) (c3 _ (Nat.le_add_right _ _) z)
   subst hcc
   show Builtin.Str.strSub (str x) pre.length (pre.length + w.length) :: StrLaws.partsFrom (str x) 3 (pre.length + w.length + 3) q = str w :: (v :: r).map str
   congr 1
   ·refine str_of ?_
    rw [StrLaws.strSub_toList]
    show (x.drop pre.length).take (pre.length + w.length - pre.length) = w
    rw [hx, List.drop_left, Nat.add_sub_cancel_left, List.append_assoc, List.take_left]
   ·have := chain_parts (v :: r) (pre ++ w ++ dots3) x q f (by simp) (fun y hy => hw y (.tail _ hy)) (by rw [hx]; simp) (by
     rw [show (pre ++ w ++ dots3).length = pre.length + w.length + 3 by simp [dots3]; rfl]
     exact c4) hf
    rw [show (pre ++ w ++ dots3).length = pre.length + w.length + 3 by simp [dots3]; rfl] at this
    exact this
theorem split_dots {W : List (List Nat)} (h2 : 2 ≤ W.length) (hw : ∀ w ∈ W, 46 ∉ w) : Txt.split (str (joinD W)) (str dots3) = W.map str := by
 match W, h2 with
 | w :: v :: r, _ =>
  have hne : AtL (joinD (w :: v :: r)) dots3 (joinD (w :: v :: r)).length w.length := by
   have := at_here (u := w) (v := dots3) (w := joinD (v :: r))
   exact this
  obtain ⟨f, ch, hf⟩ := StrLaws.occ_tight (str (joinD (w :: v :: r))) (str dots3) (by rw [slen]; decide)
  rw [slen] at ch hf
  have key := chain_parts (w :: v :: r) [] (joinD (w :: v :: r)) _ f (by simp) hw rfl ch fun k hk h => hf k hk (at_iff.mpr h)
  unfold Txt.split
  rw [slen, slen]
  have k1 : Builtin.Str.strKind (str dots3) = 1 := by decide +kernel
  have k2 : 1 ≤ Builtin.Str.strKind (str (joinD (w :: v :: r))) := by
   unfold Builtin.Str.strKind
   split
   ·exact Nat.le_refl _
   ·split <;> decide
  have l3 : dots3.length ≤ (joinD (w :: v :: r)).length := by have := hne.1; lia
  rw [if_neg (by rw [k1]; simp only [Bool.or_eq_true, decide_eq_true_eq]; lia)]
  have hno : ¬ (Builtin.Str.occurrences (str (joinD (w :: v :: r))) (str dots3) 0 (joinD (w :: v :: r)).length ((joinD (w :: v :: r)).length + 1)).isEmpty = true := by
   intro q
   have q := List.isEmpty_iff.mp q
   rw [q] at ch
   have e : f = 0 := ch
   exact hf _ (by lia) (at_iff.mpr hne)
  rw [if_neg hno, StrLaws.partsBetween_eq]
  exact key
theorem notin_dots {W : List (List Nat)} (h2 : 2 ≤ W.length) (hl : (joinD W).length ≤ 1000) : cmpD .NotIn (S dots3) (S (joinD W)) = some false := by
 match W, h2 with
 | w :: v :: r, _ =>
  have hne : AtL (joinD (w :: v :: r)) dots3 (joinD (w :: v :: r)).length w.length := at_here (u := w) (v := dots3) (w := joinD (v :: r))
  show (if short (str dots3).length && short (str (joinD (w :: v :: r))).length then some ((Builtin.Str.occurrences (str (joinD (w :: v :: r))) (str dots3) 0 (str (joinD (w :: v :: r))).length 1).isEmpty) else none) = _
  have := (StrLaws.found_iff (str (joinD (w :: v :: r))) (str dots3)).mpr ⟨w.length, by rw [slen, slen]; exact hne.1, (at_iff.mpr hne).2⟩
  rw [show short (str dots3).length = true from rfl, slen (joinD _), short_of (by exact wk ‹_› rfl)]
  rw [slen] at this
  show some _ = _
  congr 1
  simpa using this
end
section
noncomputable def partAt (s : Slot) (k : Nat) : List Nat := thing s.t ++ [40 + s.b] ++ [97 + k]
noncomputable def keptAt (s : Slot) (k : Nat) : List Nat := (if (thing s.t).take 1 = [92] then thing s.t else []) ++ [40 + s.b, 97 + k]
noncomputable def textFrom : List Slot → Nat → List Nat
 | [], _ => []
 | s :: r, k => partAt s k ++ textFrom r (k + 1)
noncomputable def keptFrom : List Slot → Nat → List Nat
 | [], _ => []
 | s :: r, k => keptAt s k ++ keptFrom r (k + 1)
theorem escL_c {p c : Nat} {r : List Nat} (h : c ≠ 92) : outL false p (c :: r) = (p, [c]) :: outL false (p + 1) r := outL_ff h
theorem escL_e {p c : Nat} {r : List Nat} : outL false p (92 :: c :: r) = (p + 1, [92, c]) :: outL false (p + 2) r := rfl
theorem thing_cases {s : Slot} (h : s.Ok) : s.t = 0 ∨ s.t = 1 ∨ s.t = 2 ∨ s.t = 3 ∨ s.t = 4 ∨ s.t = 5 := by have := h.t; lia
theorem cutR_app {a : List Nat} {i j k : Nat} (h1 : i ≤ j) (h2 : j ≤ k) : cutR a i j ++ cutR a j k = cutR a i k := by
 unfold cutR
 have e1 : a.drop j = (a.drop i).drop (j - i) := by rw [List.drop_drop]; congr 1; exact adS' ‹_›
 have e2 : k - i = (j - i) + (k - j) := by exact sb3 ‹_› ‹_›
 rw [e1, e2, List.take_add]
theorem cutR_here {u v w : List Nat} : cutR (u ++ v ++ w) u.length (u.length + v.length) = v := by
 unfold cutR
 rw [List.append_assoc, List.drop_left, Nat.add_sub_cancel_left, List.take_left]
theorem cutR_self {a : List Nat} {i : Nat} : cutR a i i = [] := by unfold cutR; rw [Nat.sub_self, List.take_zero]
theorem strip_slot {a pre rest : List Nat} {s : Slot} {k : Nat} {z : Sp} {K : List Nat} (hs : s.Ok) (hk : k < 8) (ha : a = pre ++ partAt s k ++ rest) (ho : z.op = none) (hst : z.start ≤ pre.length) (hK : z.res.flatten ++ cutR a z.start pre.length = K) :
  ∃ z', (∀ tail, ((outL false pre.length (partAt s k ++ tail)).foldl (spStep a) z = (outL false (pre ++ partAt s k).length tail).foldl (spStep a) z')) ∧ z'.op = none ∧ z'.start ≤ (pre ++ partAt s k).length ∧ z'.res.flatten ++ cutR a z'.start (pre ++ partAt s k).length = K ++ keptAt s k := by
 obtain ⟨t, b, w⟩ := s
 obtain ⟨st, op, res⟩ := z
 have hb : b < 2 := hs.b
 have b1 : 40 + b ≠ 92 := by lia
 have k1 : 97 + k ≠ 92 := by lia
 have nb : [40 + b] ≠ [34] := by intro q; injection q with q; lia
 have nk : [97 + k] ≠ [34] := by intro q; injection q with q; lia
 have ho : op = none := ho
 subst ho
 have hst : st ≤ pre.length := hst
 have hK : res.flatten ++ cutR a st pre.length = K := hK
 have keep : ∀ (L : List Nat), partAt ⟨t, b, w⟩ k = L → keptAt ⟨t, b, w⟩ k = L → res.flatten ++ cutR a st (pre ++ partAt ⟨t, b, w⟩ k).length = K ++ keptAt ⟨t, b, w⟩ k := fun L e1 e2 => by
  rw [e2, ← hK, List.append_assoc]
  congr 1
  rw [List.length_append, e1, ← cutR_app (j := pre.length) hst (Nat.le_add_right _ _)]
  congr 1
  rw [ha, e1]; exact cutR_here
 have cutoff : ∀ (q L : List Nat), partAt ⟨t, b, w⟩ k = q ++ L → keptAt ⟨t, b, w⟩ k = L → (if st ≠ pre.length then res ++ [cutR a st pre.length] else res).flatten ++ cutR a (pre.length + q.length) (pre ++ partAt ⟨t, b, w⟩ k).length = K ++ keptAt ⟨t, b, w⟩ k := fun q L e1 e2 => by
  have e3 : cutR a (pre.length + q.length) (pre ++ partAt ⟨t, b, w⟩ k).length = L := by
   rw [List.length_append, e1, List.length_append, ha, e1]
   have := cutR_here (u := pre ++ q) (v := L) (w := rest)
   rw [List.length_append] at this
   rw [show pre ++ (q ++ L) ++ rest = pre ++ q ++ L ++ rest by simp, show pre.length + (q.length + L.length) = pre.length + q.length + L.length by exact (Nat.add_assoc _ _ _).symm]
   exact this
  rw [e3, e2, ← hK]
  congr 1
  by_cases h : st = pre.length
  ·rw [if_neg (by simpa using h), h, cutR_self, List.append_nil]
  ·rw [if_pos h, List.flatten_append]; simp
 rcases thing_cases hs with e | e | e | e | e | e <;> (have e : t = _ := e; subst e)
 ·refine ⟨⟨st, none, res⟩, fun tail => ?_, rfl, by show st ≤ _; rw [List.length_append]; lia, keep [40 + b, 97 + k] rfl rfl⟩
  show (outL false pre.length ((40 + b) :: (97 + k) :: tail)).foldl _ _ = _
  rw [escL_c b1, escL_c k1, List.foldl_cons, List.foldl_cons]
  rw [show spStep a ⟨st, none, res⟩ (pre.length, [40 + b]) = ⟨st, none, res⟩ from if_neg nb, show spStep a ⟨st, none, res⟩ (pre.length + 1, [97 + k]) = ⟨st, none, res⟩ from if_neg nk]
  rw [List.length_append]; rfl
 ·refine ⟨⟨pre.length + 3, none, if st ≠ pre.length then res ++ [cutR a st pre.length] else res⟩, fun tail => ?_, rfl, by show pre.length + 3 ≤ _; rw [List.length_append]; exact Nat.add_le_add_left (by decide : 3 ≤ 5) _, cutoff [34, 41, 34] [40 + b, 97 + k] rfl rfl⟩
  show (outL false pre.length (34 :: 41 :: 34 :: (40 + b) :: (97 + k) :: tail)).foldl _ _ = _
  rw [escL_c (by decide), escL_c (by decide), escL_c (by decide), escL_c b1, escL_c k1, List.foldl_cons, List.foldl_cons, List.foldl_cons, List.foldl_cons, List.foldl_cons]
  rw [show spStep a ⟨st, none, res⟩ (pre.length, [34]) = ⟨st, some pre.length, res⟩ from if_pos rfl, show spStep a ⟨st, some pre.length, res⟩ (pre.length + 1, [41]) = ⟨st, some pre.length, res⟩ from if_neg (show ¬ ([41] : List Nat) = [34] by decide),
   show spStep a ⟨st, some pre.length, res⟩ (pre.length + 1 + 1, [34]) = ⟨pre.length + 3, none, if st ≠ pre.length then res ++ [cutR a st pre.length] else res⟩ from if_pos rfl]
  rw [show ∀ z p, spStep a z (p, [40 + b]) = z from fun z p => if_neg nb, show ∀ z p, spStep a z (p, [97 + k]) = z from fun z p => if_neg nk]
  rw [List.length_append]; rfl
 ·refine ⟨⟨st, none, res⟩, fun tail => ?_, rfl, by show st ≤ _; rw [List.length_append]; lia, keep [92, 40, 40 + b, 97 + k] rfl rfl⟩
  show (outL false pre.length (92 :: 40 :: (40 + b) :: (97 + k) :: tail)).foldl _ _ = _
  rw [escL_e, escL_c b1, escL_c k1, List.foldl_cons, List.foldl_cons, List.foldl_cons]
  rw [show spStep a ⟨st, none, res⟩ (pre.length + 1, [92, 40]) = ⟨st, none, res⟩ from if_neg (show ¬ ([92, 40] : List Nat) = [34] by decide), show spStep a ⟨st, none, res⟩ (pre.length + 2, [40 + b]) = ⟨st, none, res⟩ from if_neg nb, show spStep a ⟨st, none, res⟩ (pre.length + 2 + 1, [97 + k]) = ⟨st, none, res⟩ from if_neg nk]
  rw [List.length_append]; rfl
 ·refine ⟨⟨st, none, res⟩, fun tail => ?_, rfl, by show st ≤ _; rw [List.length_append]; lia, keep [92, 92, 40 + b, 97 + k] rfl rfl⟩
  show (outL false pre.length (92 :: 92 :: (40 + b) :: (97 + k) :: tail)).foldl _ _ = _
  rw [escL_e, escL_c b1, escL_c k1, List.foldl_cons, List.foldl_cons, List.foldl_cons]
  rw [show spStep a ⟨st, none, res⟩ (pre.length + 1, [92, 92]) = ⟨st, none, res⟩ from if_neg (show ¬ ([92, 92] : List Nat) = [34] by decide), show spStep a ⟨st, none, res⟩ (pre.length + 2, [40 + b]) = ⟨st, none, res⟩ from if_neg nb, show spStep a ⟨st, none, res⟩ (pre.length + 2 + 1, [97 + k]) = ⟨st, none, res⟩ from if_neg nk]
  rw [List.length_append]; rfl
 ·refine ⟨⟨st, none, res⟩, fun tail => ?_, rfl, by show st ≤ _; rw [List.length_append]; lia, keep [92, 34, 40 + b, 97 + k] rfl rfl⟩
  show (outL false pre.length (92 :: 34 :: (40 + b) :: (97 + k) :: tail)).foldl _ _ = _
  rw [escL_e, escL_c b1, escL_c k1, List.foldl_cons, List.foldl_cons, List.foldl_cons]
  rw [show spStep a ⟨st, none, res⟩ (pre.length + 1, [92, 34]) = ⟨st, none, res⟩ from if_neg (show ¬ ([92, 34] : List Nat) = [34] by decide), show spStep a ⟨st, none, res⟩ (pre.length + 2, [40 + b]) = ⟨st, none, res⟩ from if_neg nb, show spStep a ⟨st, none, res⟩ (pre.length + 2 + 1, [97 + k]) = ⟨st, none, res⟩ from if_neg nk]
  rw [List.length_append]; rfl
 ·refine ⟨⟨pre.length + 5, none, if st ≠ pre.length then res ++ [cutR a st pre.length] else res⟩, fun tail => ?_, rfl, by show pre.length + 5 ≤ _; rw [List.length_append]; exact Nat.add_le_add_left (by decide : 5 ≤ 7) _, cutoff [34, 92, 34, 40, 34] [40 + b, 97 + k] rfl rfl⟩
  show (outL false pre.length (34 :: 92 :: 34 :: 40 :: 34 :: (40 + b) :: (97 + k) :: tail)).foldl _ _ = _
  rw [escL_c (by decide), escL_e, escL_c (by decide), escL_c (by decide), escL_c b1, escL_c k1, List.foldl_cons, List.foldl_cons, List.foldl_cons, List.foldl_cons, List.foldl_cons, List.foldl_cons]
  rw [show spStep a ⟨st, none, res⟩ (pre.length, [34]) = ⟨st, some pre.length, res⟩ from if_pos rfl, show spStep a ⟨st, some pre.length, res⟩ (pre.length + 1 + 1, [92, 34]) = ⟨st, some pre.length, res⟩ from if_neg (show ¬ ([92, 34] : List Nat) = [34] by decide),
   show spStep a ⟨st, some pre.length, res⟩ (pre.length + 1 + 2, [40]) = ⟨st, some pre.length, res⟩ from if_neg (show ¬ ([40] : List Nat) = [34] by decide),
   show spStep a ⟨st, some pre.length, res⟩ (pre.length + 1 + 2 + 1, [34]) = ⟨pre.length + 5, none, if st ≠ pre.length then res ++ [cutR a st pre.length] else res⟩ from if_pos rfl]
  rw [show ∀ z p, spStep a z (p, [40 + b]) = z from fun z p => if_neg nb, show ∀ z p, spStep a z (p, [97 + k]) = z from fun z p => if_neg nk]
  rw [List.length_append]; rfl
theorem strip_all {a : List Nat} {fin : List Nat} : ∀ (r : List Slot) (k : Nat) (pre : List Nat) (z : Sp) (K : List Nat), (∀ s ∈ r, s.Ok) → k + r.length ≤ 8 → a = pre ++ textFrom r k ++ fin → z.op = none → z.start ≤ pre.length → z.res.flatten ++ cutR a z.start pre.length = K →
  ∃ z', (outL false pre.length (textFrom r k ++ fin)).foldl (spStep a) z = (outL false (pre ++ textFrom r k).length fin).foldl (spStep a) z' ∧ z'.op = none ∧ z'.start ≤ (pre ++ textFrom r k).length ∧ z'.res.flatten ++ cutR a z'.start (pre ++ textFrom r k).length = K ++ keptFrom r k
 | [], k, pre, z, K, hok, hk, ha, ho, hst, hK => by
  refine ⟨z, ?_, ho, ?_, ?_⟩
  ·show (outL false pre.length ([] ++ fin)).foldl _ _ = (outL false (pre ++ []).length fin).foldl _ _
   rw [List.append_nil, List.nil_append]
  ·show z.start ≤ (pre ++ []).length
   rw [List.append_nil]; exact hst
  ·show z.res.flatten ++ cutR a z.start (pre ++ []).length = K ++ []
   rw [List.append_nil, List.append_nil]; exact hK
 | s :: r, k, pre, z, K, hok, hk, ha, ho, hst, hK => by
  have hk' : k < 8 := by rw [List.length_cons] at hk; lia
  obtain ⟨z1, e1, o1, s1, k1⟩ := strip_slot (a := a) (pre := pre) (rest := textFrom r (k + 1) ++ fin) (s := s) (k := k) (hok s (.head _)) hk' (by rw [ha]; show pre ++ (partAt s k ++ textFrom r (k + 1)) ++ fin = _; simp) ho hst hK
  obtain ⟨z2, e2, o2, s2, k2⟩ := strip_all (a := a) (fin := fin) r (k + 1) (pre ++ partAt s k) z1 (K ++ keptAt s k) (fun x hx => hok x (.tail _ hx)) (by rw [List.length_cons] at hk; lia) (by rw [ha]; show pre ++ (partAt s k ++ textFrom r (k + 1)) ++ fin = _; simp) o1 s1 k1
  have ep : pre ++ textFrom (s :: r) k = pre ++ partAt s k ++ textFrom r (k + 1) := by show pre ++ (partAt s k ++ textFrom r (k + 1)) = _; simp
  refine ⟨z2, ?_, o2, by rw [ep]; exact s2, ?_⟩
  ·show (outL false pre.length (partAt s k ++ textFrom r (k + 1) ++ fin)).foldl _ _ = _
   rw [List.append_assoc, e1, ep]; exact e2
  ·rw [ep, k2]
   show K ++ keptAt s k ++ keptFrom r (k + 1) = K ++ (keptAt s k ++ keptFrom r (k + 1))
   rw [List.append_assoc]
theorem strip_law {r : List Slot} (hok : ∀ s ∈ r, s.Ok) (hr : r.length = 8) : stripL (textFrom r 0 ++ [34, 122, 92]) = keptFrom r 0 ++ [34, 122, 92] := by
 obtain ⟨z, e1, o1, s1, k1⟩ := strip_all (a := textFrom r 0 ++ [34, 122, 92]) (fin := [34, 122, 92]) r 0 [] ⟨0, none, []⟩ [] hok (by lia) (by rw [List.nil_append]) rfl (Nat.le_refl _) rfl
 rw [List.nil_append] at e1 s1 k1
 have e1 : (outL false 0 (textFrom r 0 ++ [34, 122, 92])).foldl (spStep (textFrom r 0 ++ [34, 122, 92])) ⟨0, none, []⟩ = _ := e1
 unfold stripL
 rw [e1]
 obtain ⟨st, op, res⟩ := z
 have o1 : op = none := o1
 subst o1
 have e : outL false (textFrom r 0).length [34, 122, 92] = [((textFrom r 0).length, [34]), ((textFrom r 0).length + 1, [122]), ((textFrom r 0).length + 2, [92])] := by
  rw [escL_c (by decide), escL_c (by decide)]; rfl
 rw [e]
 have s1 : st ≤ (textFrom r 0).length := s1
 have k1 : res.flatten ++ cutR (textFrom r 0 ++ [34, 122, 92]) st (textFrom r 0).length = keptFrom r 0 := k1
 show spEnd _ ⟨st, some (textFrom r 0).length, res⟩ = _
 unfold spEnd
 rw [if_pos (by show st < (textFrom r 0 ++ [34, 122, 92]).length; rw [List.length_append]; show st < _ + 3; lia), List.flatten_append]
 rw [← k1, List.append_assoc]
 congr 1
 show (textFrom r 0 ++ [34, 122, 92]).drop st ++ [] = _
 unfold cutR
 rw [List.append_nil]
 have h := List.take_append_drop ((textFrom r 0).length - st) ((textFrom r 0 ++ [34, 122, 92]).drop st)
 rw [List.drop_drop, show st + ((textFrom r 0).length - st) = (textFrom r 0).length by exact adS ‹_›, List.drop_left] at h
 exact h.symm
end
section
noncomputable def shownOf (s : Slot) (k : Nat) : List (List Nat) := (if (thing s.t).take 1 = [92] then [thing s.t] else []) ++ [[40 + s.b], [97 + k]]
noncomputable def shownFrom : List Slot → Nat → List (List Nat)
 | [], _ => []
 | s :: r, k => shownOf s k ++ shownFrom r (k + 1)
theorem consS {α : Type} {n : Nat} {r : List α} (h : r.length = n + 1) : ∃ a t, r = a :: t ∧ t.length = n := by
 cases r with
 | nil => cases h
 | cons a t => exact ⟨a, t, rfl, Nat.succ.inj h⟩
theorem eight {r : List Slot} (h : r.length = 8) : ∃ a0 a1 a2 a3 a4 a5 a6 a7, r = [a0, a1, a2, a3, a4, a5, a6, a7] := by
 obtain ⟨a0, r0, e0, h0⟩ := consS h
 obtain ⟨a1, r1, e1, h1⟩ := consS h0
 obtain ⟨a2, r2, e2, h2⟩ := consS h1
 obtain ⟨a3, r3, e3, h3⟩ := consS h2
 obtain ⟨a4, r4, e4, h4⟩ := consS h3
 obtain ⟨a5, r5, e5, h5⟩ := consS h4
 obtain ⟨a6, r6, e6, h6⟩ := consS h5
 obtain ⟨a7, r7, e7, h7⟩ := consS h6
 exact ⟨a0, a1, a2, a3, a4, a5, a6, a7, by rw [e0, e1, e2, e3, e4, e5, e6, e7, List.length_eq_zero_iff.mp h7]⟩
theorem shown_eq {r : List Slot} (h : r.length = 8) : shownTo r 8 = shownFrom r 0 := by
 obtain ⟨a0, a1, a2, a3, a4, a5, a6, a7, rfl⟩ := eight h
 rfl
theorem shown_flat : ∀ (r : List Slot) (k : Nat), (shownFrom r k).flatten = keptFrom r k
 | [], _ => rfl
 | s :: r, k => by
  show (shownOf s k ++ shownFrom r (k + 1)).flatten = keptAt s k ++ keptFrom r (k + 1)
  rw [List.flatten_append, shown_flat r (k + 1)]
  congr 1
  delta shownOf keptAt
  split <;> simp
noncomputable def Unit1 (u : List Nat) : Prop := (∃ c, c ≠ 92 ∧ u = [c]) ∨ ∃ c, u = [92, c]
theorem shown_units {r : List Slot} : ∀ {k : Nat}, (∀ s ∈ r, s.Ok) → k + r.length ≤ 8 → ∀ u ∈ shownFrom r k, Unit1 u := by
 induction r with
 | nil => intro k _ _ u hu; cases hu
 | cons s r ih =>
  intro k hok hk u hu
  rw [List.length_cons] at hk
  have hs := hok s (.head _)
  rcases List.mem_append.mp hu with hu | hu
  ·delta shownOf at hu
   rcases List.mem_append.mp hu with hu | hu
   ·split at hu
    ·rename_i h92
     rw [List.mem_singleton.mp hu]
     rcases thing_cases hs with e | e | e | e | e | e <;> rw [e] at h92 ⊢
     ·cases h92
     ·exact absurd h92 (by decide)
     ·exact .inr ⟨40, rfl⟩
     ·exact .inr ⟨92, rfl⟩
     ·exact .inr ⟨34, rfl⟩
     ·exact absurd h92 (by decide)
    ·cases hu
   ·have := hs.b
    rcases List.mem_cons.mp hu with q | q
    ·exact .inl ⟨_, by lia, q⟩
    ·exact .inl ⟨_, by lia, List.mem_singleton.mp q⟩
  ·exact ih (k := k + 1) (fun x hx => hok x (.tail _ hx)) (by lia) u hu
noncomputable def placed : Nat → List (List Nat) → List (Nat × List Nat)
 | _, [] => []
 | p, u :: r => (p + u.length - 1, u) :: placed (p + u.length) r
theorem esc_units : ∀ (L : List (List Nat)) (p : Nat), (∀ u ∈ L, Unit1 u) → outL false p (L.flatten ++ [92]) = placed p (L ++ [[92]])
 | [], p, _ => by
  show outL false p [92] = [(p + 1 - 1, [92])]
  rfl
 | u :: r, p, h => by
  have ih := fun p => esc_units r p fun x hx => h x (.tail _ hx)
  rcases h u (.head _) with ⟨c, hc, rfl⟩ | ⟨c, rfl⟩
  ·show outL false p (c :: (r.flatten ++ [92])) = (p + 1 - 1, [c]) :: placed (p + 1) (r ++ [[92]])
   rw [escL_c hc, ih, Nat.add_sub_cancel]
  ·show outL false p (92 :: c :: (r.flatten ++ [92])) = (p + 2 - 1, [92, c]) :: placed (p + 2) (r ++ [[92]])
   rw [escL_e, ih]; rfl
theorem placed_get : ∀ (L : List (List Nat)) (p j : Nat), (placed p L)[j]? = (L[j]?).map fun u => (p + ((L.take (j + 1)).map List.length).sum - 1, u)
 | [], _, _ => by simp [placed]
 | u :: r, p, 0 => by simp [placed]
 | u :: r, p, j + 1 => by
  show (placed (p + u.length) r)[j]? = _
  rw [placed_get r (p + u.length) j]
  show _ = (r[j]?).map _
  congr 1
  funext v
  congr 1
  show p + u.length + ((r.take (j + 1)).map List.length).sum - 1 = p + (u.length + ((r.take (j + 1)).map List.length).sum) - 1
  lia
theorem placed_out (L : List (List Nat)) (h : ∀ u ∈ L, 1 ≤ u.length) : outD (placed 0 L) = unitsTo L L.length := by
 apply List.ext_getElem?
 intro j
 delta outD unitsTo
 rw [List.getElem?_map, placed_get, List.getElem?_map]
 cases hq : L[j]? with
 | none =>
  rw [List.getElem?_eq_none (List.length_range ▸ (List.getElem?_eq_none_iff.mp hq))]; rfl
 | some u =>
  have hj := (List.getElem?_eq_some_iff.mp hq).1
  rw [List.getElem?_range hj]
  show some (PyData.tuple [.int ((0 + ((L.take (j + 1)).map List.length).sum - 1 : Nat) : Int), S u]) = some (PyData.tuple [.int (plc L (j + 1)), S (L.getD j [])])
  have e1 : L.getD j [] = u := by rw [List.getD_eq_getElem?_getD, hq]; rfl
  have e2 : 1 ≤ ((L.take (j + 1)).map List.length).sum := by
   rw [List.take_add_one, hq, List.map_append, List.sum_append]
   have := h u (List.mem_of_getElem? hq)
   simp; lia
  rw [e1]
  delta plc
  congr 4
  exact zU ‹_›
theorem units_law {r : List Slot} (hok : ∀ s ∈ r, s.Ok) (hr : r.length = 8) : outD (outL false 0 (stripL (textFrom r 0 ++ [34, 122, 92]))) = unitsTo (allUnits r) (allUnits r).length := by
 rw [strip_law hok hr]
 have e : keptFrom r 0 ++ [34, 122, 92] = (shownFrom r 0 ++ [[34], [122]]).flatten ++ [92] := by
  rw [List.flatten_append, shown_flat]; simp
 have hu : ∀ u ∈ shownFrom r 0 ++ [[34], [122]], Unit1 u := fun u hu => by
  rcases List.mem_append.mp hu with q | q
  ·exact shown_units hok (by lia) u q
  ·rcases List.mem_cons.mp q with q | q
   ·exact .inl ⟨34, by decide, q⟩
   ·exact .inl ⟨122, by decide, List.mem_singleton.mp q⟩
 rw [e, esc_units _ 0 hu]
 have e2 : shownFrom r 0 ++ [[34], [122]] ++ [[92]] = allUnits r := by
  delta allUnits
  rw [shown_eq hr]; simp
 rw [e2]
 refine placed_out _ fun u hu' => ?_
 rw [← e2] at hu'
 rcases List.mem_append.mp hu' with q | q
 ·rcases hu u q with ⟨c, _, rfl⟩ | ⟨c, rfl⟩
  ·exact Nat.le_refl _
  ·exact Nat.le_succ _
 ·exact (List.mem_singleton.mp q) ▸ (Nat.le_refl _)
noncomputable def brU (u : List Nat) : Bool := decide (u = [40]) || decide (u = [41])
theorem shown_br {s : Slot} {k : Nat} (hs : s.Ok) (hk : k < 8) : (shownOf s k).filter brU = [[40 + s.b]] := by
 have hb := hs.b
 have e1 : brU [40 + s.b] = true := by
  delta brU
  match s.b, hb with
  | 0, _ => rfl
  | 1, _ => rfl
 have e2 : brU [97 + k] = false := by
  delta brU
  rw [decide_eq_false (by intro q; injection q with q; lia), decide_eq_false (by intro q; injection q with q; lia)]; rfl
 delta shownOf
 rw [List.filter_append]
 have e3 : ((if (thing s.t).take 1 = [92] then [thing s.t] else []) : List (List Nat)).filter brU = [] := by
  rcases thing_cases hs with e | e | e | e | e | e <;> rw [e] <;> rfl
 rw [e3, List.filter_cons_of_pos e1, List.filter_cons_of_neg (by rw [e2]; simp)]; rfl
theorem shown_brs : ∀ (r : List Slot) (k : Nat), (∀ s ∈ r, s.Ok) → k + r.length ≤ 8 → (shownFrom r k).filter brU = r.map fun s => [40 + s.b]
 | [], _, _, _ => rfl
 | s :: r, k, hok, hk => by
  rw [List.length_cons] at hk
  show (shownOf s k ++ shownFrom r (k + 1)).filter brU = _
  rw [List.filter_append, shown_br (hok s (.head _)) (by lia), shown_brs r (k + 1) (fun x hx => hok x (.tail _ hx)) (by lia)]; rfl
theorem told_law {r : List Slot} (hok : ∀ s ∈ r, s.Ok) (hr : r.length = 8) : (allUnits r).filter brU = r.map fun s => [40 + s.b] := by
 delta allUnits
 rw [shown_eq hr, List.filter_append, shown_brs r 0 hok (by lia)]
 show _ ++ [] = _
 rw [List.append_nil]
end
section
noncomputable def pts : List Slot → Nat → List (List Nat)
 | [], _ => []
 | s :: r, k => partAt s k :: pts r (k + 1)
theorem pts_flat : ∀ (r : List Slot) (k : Nat), (pts r k).flatten = textFrom r k
 | [], _ => rfl
 | s :: r, k => by show partAt s k ++ (pts r (k + 1)).flatten = partAt s k ++ textFrom r (k + 1); rw [pts_flat r (k + 1)]
theorem pts_len : ∀ (r : List Slot) (k : Nat), (pts r k).length = r.length
 | [], _ => rfl
 | s :: r, k => by show (pts r (k + 1)).length + 1 = r.length + 1; rw [pts_len r (k + 1)]
theorem thing_small {s : Slot} (h : s.Ok) : ∀ c ∈ thing s.t, c < 97 ∧ c ≠ 46 := by
 rcases thing_cases h with e | e | e | e | e | e <;> rw [e] <;> decide
theorem body_small {s : Slot} (h : s.Ok) : ∀ c ∈ thing s.t ++ [40 + s.b], c < 97 ∧ c ≠ 46 := fun c hc => by
 rcases List.mem_append.mp hc with q | q
 ·exact thing_small h c q
 ·have := h.b; rw [List.mem_singleton.mp q]; lia
theorem part_len (s : Slot) (k : Nat) : (partAt s k).length = (thing s.t).length + 2 := by delta partAt; simp
theorem letter_at : ∀ (r : List Slot) (k n i : Nat), (∀ s ∈ r, s.Ok) → (textFrom r k)[n]? = some (97 + i) → k ≤ i ∧ i < k + r.length ∧ n + 1 = ((pts r k).take (i - k + 1)).flatten.length
 | [], k, n, i, _, h => by cases n <;> exact none_ h
 | s :: r, k, n, i, hok, h => by
  have h : (partAt s k ++ textFrom r (k + 1))[n]? = some (97 + i) := h
  rw [List.length_cons]
  by_cases hn : n < (partAt s k).length
  ·rw [List.getElem?_append_left hn] at h
   have hb : partAt s k = (thing s.t ++ [40 + s.b]) ++ [97 + k] := rfl
   rw [hb] at h
   by_cases hb2 : n < (thing s.t ++ [40 + s.b]).length
   ·rw [List.getElem?_append_left hb2] at h
    have := (body_small (hok s (.head _)) _ (List.mem_of_getElem? h)).1
    lia
   ·rw [List.getElem?_append_right (by exact Nat.le_of_not_lt ‹_›)] at h
    have hz : n - (thing s.t ++ [40 + s.b]).length = 0 := by
     rw [part_len] at hn
     simp at hb2 ⊢; exact fnE ‹_›
    rw [hz] at h
    have h := Option.some.inj h
    have hik : i = k := by lia
    subst hik
    refine ⟨Nat.le_refl _, by lia, ?_⟩
    rw [Nat.sub_self]
    show n + 1 = (partAt s i ++ []).length
    rw [List.append_nil, part_len]
    rw [part_len] at hn
    simp at hb2
    lia
  ·rw [List.getElem?_append_right (by exact Nat.le_of_not_lt ‹_›)] at h
   obtain ⟨a, b, c⟩ := letter_at r (k + 1) (n - (partAt s k).length) i (fun x hx => hok x (.tail _ hx)) h
   refine ⟨by exact Nat.le_of_lt ‹_›, by lia, ?_⟩
   have e : i - k + 1 = (i - (k + 1) + 1) + 1 := by exact sb1' ‹_›
   rw [e]
   show n + 1 = (partAt s k ++ ((pts r (k + 1)).take (i - (k + 1) + 1)).flatten).length
   rw [List.length_append]; exact fnF ‹_› ‹_›
section
variable {r : List Slot} (hok : ∀ s ∈ r, s.Ok) (hr : r.length = 8)
noncomputable def posL (P : List (List Nat)) (k : Nat) : Nat := (P.take k).flatten.length
theorem posL_succ {P : List (List Nat)} {k : Nat} (h : k < P.length) : posL P (k + 1) = posL P k + (pt P k).length := by
 delta posL
 rw [List.take_add_one, List.getElem?_eq_getElem h, List.flatten_append, List.length_append]
 congr 1
 rw [pt, List.getD_eq_getElem?_getD, List.getElem?_eq_getElem h]
 simp
include hr in
theorem pt_is {k : Nat} (h : k < 8) : pt (pts r 0) k = partAt (sl r k) k := by
 obtain ⟨a0, a1, a2, a3, a4, a5, a6, a7, rfl⟩ := eight hr
 exact lt_8 (P := fun k => pt (pts [a0, a1, a2, a3, a4, a5, a6, a7] 0) k = partAt (sl [a0, a1, a2, a3, a4, a5, a6, a7] k) k) rfl rfl rfl rfl rfl rfl rfl rfl k h
theorem split_at {P : List (List Nat)} {k : Nat} (h : k < P.length) : P.flatten = (P.take k).flatten ++ pt P k ++ (P.drop (k + 1)).flatten := by
 have e : P = P.take k ++ pt P k :: P.drop (k + 1) := by
  rw [pt, List.getD_eq_getElem?_getD, List.getElem?_eq_getElem h]
  show P = P.take k ++ P[k] :: P.drop (k + 1)
  rw [← List.drop_eq_getElem_cons h, List.take_append_drop]
 calc P.flatten = (P.take k ++ pt P k :: P.drop (k + 1)).flatten := by rw [← e]
  _ = _ := by rw [List.flatten_append, List.flatten_cons, List.append_assoc]
theorem here_part {P : List (List Nat)} {k : Nat} (h : k < P.length) {e : Nat} (he : posL P (k + 1) ≤ e) : AtL P.flatten (pt P k) e (posL P k) := by
 have := at_here (u := (P.take k).flatten) (v := pt P k) (w := (P.drop (k + 1)).flatten)
 rw [← split_at h] at this
 exact ⟨by rw [posL_succ h] at he; exact he, this.2⟩
include hok hr in
theorem only_part {k : Nat} (h : k < 8) {e q : Nat} (ha : AtL (pts r 0).flatten (pt (pts r 0) k) e q) : q = posL (pts r 0) k := by
 have hl := pts_len r 0
 rw [pt_is hr h] at ha
 have h2 := ha.2
 have lp := part_len (sl r k) k
 have last : (partAt (sl r k) k)[(thing (sl r k).t).length + 1]? = some (97 + k) := by
  delta partAt
  rw [List.getElem?_append_right (by simp)]
  simp
 rw [← h2, List.getElem?_take_of_lt (by exact Nat.le_of_eq (Eq.symm ‹_›)), List.getElem?_drop, pts_flat] at last
 obtain ⟨_, _, c⟩ := letter_at r 0 _ k hok last
 rw [Nat.sub_zero] at c
 have c : q + ((thing (sl r k).t).length + 1) + 1 = posL (pts r 0) (k + 1) := c
 rw [posL_succ (by lia), pt_is hr h, lp] at c
 lia
include hr in
theorem posL_lt {i j : Nat} (h : i < j) (hj : j ≤ 8) : posL (pts r 0) (i + 1) ≤ posL (pts r 0) j := by
 have hl := pts_len r 0
 induction j with
 | zero => exact absurd ‹_› (Nat.not_lt_zero _)
 | succ j ih =>
  by_cases q : i = j
  ·exact q ▸ (Nat.le_refl _)
  ·have := ih (by lia) (by exact Nat.le_of_lt ‹_›)
   rw [posL_succ (k := j) (by lia)]; lia
include hr in
theorem pos_part {i : Nat} (hi : i < 8) : 2 ≤ (pt (pts r 0) i).length := by rw [pt_is hr hi, part_len]; exact Nat.le_add_left _ _
include hr in
theorem posL_8 : posL (pts r 0) 8 = (pts r 0).flatten.length := by
 delta posL
 rw [List.take_of_length_le (by rw [pts_len]; exact Nat.le_of_eq ‹_›)]
theorem ell_empty {got : List Nat} {e s : Nat} (h : s ≤ e) : ellLoop got e [[]] s = true := by
 have h2 : fnd got [] s e = s := fnd_some (Nat.le_refl _) ⟨h, by simp⟩ fun i h1 h2 => by lia
 show (if fnd got [] s e < 0 then false else ellLoop got e [] _) = true
 rw [if_neg (by rw [h2]; lia)]; rfl
include hok hr in
theorem no46 {k : Nat} (h : k < 8) : 46 ∉ pt (pts r 0) k := by
 rw [pt_is hr h]
 intro q
 have hm : (sl r k).Ok := sl_ok hok (by lia)
 have q : 46 ∈ (thing (sl r k).t ++ [40 + (sl r k).b]) ++ [97 + k] := q
 rcases List.mem_append.mp q with q | q
 ·exact (body_small hm _ q).2 rfl
 ·have := List.mem_singleton.mp q; lia
include hr in
theorem small_part {k : Nat} (h : k < 8) : (pt (pts r 0) k).length ≤ 7 := by
 rw [pt_is hr h, part_len]
 have := thing_len (sl r k).t; exact adc ‹_› rfl
include hr in
theorem text_small : (pts r 0).flatten.length ≤ 56 := by
 have hl := pts_len r 0
 have : ∀ k, k ≤ 8 → posL (pts r 0) k ≤ 7 * k := by
  intro k
  induction k with
  | zero => intro _; exact Nat.zero_le _
  | succ k ih =>
   intro h
   rw [posL_succ (by lia)]
   have := ih (by exact Nat.le_of_lt ‹_›)
   have := small_part hr (k := k) (by assumption)
   lia
 rw [← posL_8 hr]
 exact this 8 (Nat.le_refl _)
theorem ellR_of {W : List (List Nat)} {got : List Nat} (h2 : 2 ≤ W.length) (h10 : W.length ≤ 10) (hw : ∀ w ∈ W, 46 ∉ w) (hl : ∀ w ∈ W, w.length ≤ 200) (hg : got.length ≤ 200) (hj : (joinD W).length ≤ 200) : ellR (joinD W) got (ellP got W) :=
 r_ellipsis (notin_dots h2 (by exact wk ‹_› rfl)) (split_dots h2 hw) hg hj hl h10 h2
include hok hr in
theorem ell1 (k : Nat) (h : k < 8) : ellR (pt (pts r 0) k ++ [46, 46, 46]) (pts r 0).flatten (decide (k = 0)) := by
 have hl := pts_len r 0
 have ts := text_small hr
 have sp := small_part hr h
 have pp := pos_part hr h
 have e : pt (pts r 0) k ++ [46, 46, 46] = joinD [pt (pts r 0) k, []] := by show _ = _ ++ dots3 ++ []; rw [List.append_nil]; rfl
 have v : ellP (pts r 0).flatten [pt (pts r 0) k, []] = decide (k = 0) := by
  cases hp : pt (pts r 0) k with
  | nil => rw [hp] at pp; exact absurd pp (by decide)
  | cons c q =>
   show (if Txt.startswith (str (pts r 0).flatten) (str (c :: q)) then ellEnd (pts r 0).flatten (c :: q).length [[]] else false) = _
   rw [← hp]
   by_cases hk : k = 0
   ·have hs : Txt.startswith (str (pts r 0).flatten) (str (pt (pts r 0) k)) = true := starts_iff.mpr (by
     have := here_part (P := pts r 0) (k := k) (by lia) (e := (pts r 0).flatten.length) ((posL_8 hr).symm ▸ (posL_lt hr h (Nat.le_refl _)))
     rw [hk] at this ⊢
     exact this)
    rw [if_pos hs, decide_eq_true hk]
    show ellFin (pts r 0).flatten (pt (pts r 0) k).length (pts r 0).flatten.length [[]] = true
    have : (pt (pts r 0) k).length ≤ (pts r 0).flatten.length := by have := (starts_iff.mp hs).1; lia
    delta ellFin
    rw [if_neg (by exact Nat.not_lt.mpr ‹_›)]
    exact ell_empty this
   ·have hs : ¬ Txt.startswith (str (pts r 0).flatten) (str (pt (pts r 0) k)) = true := fun q => by
     have := only_part hok hr h (starts_iff.mp q)
     have p1 := posL_lt hr (i := 0) (j := k) (by exact Nat.pos_of_ne_zero ‹_›) (by exact Nat.le_of_lt ‹_›)
     rw [posL_succ (by lia)] at p1
     have := pos_part hr (i := 0) (by exact Nat.succ_pos _)
     lia
    rw [if_neg hs, decide_eq_false hk]
 rw [e, ← v]
 refine ellR_of (Nat.le_refl 2) (show 2 ≤ 10 by decide) (fun w hw => ?_) (fun w hw => ?_) (by exact wk ‹_› rfl) (by rw [← e, List.length_append]; show _ + 3 ≤ _; exact adc ‹_› rfl)
 ·rcases List.mem_cons.mp hw with q | q
  ·exact q ▸ (no46 hok hr h)
  ·rw [List.mem_singleton.mp q]; simp
 ·rcases List.mem_cons.mp hw with q | q
  ·exact q ▸ (Nat.le_trans ‹_› (by decide))
  ·exact (List.mem_singleton.mp q) ▸ (Nat.zero_le _)
include hok hr in
theorem ell2 (k : Nat) (h : k < 8) : ellR ([46, 46, 46] ++ pt (pts r 0) k) (pts r 0).flatten (decide (k = 7)) := by
 have hl := pts_len r 0
 have ts := text_small hr
 have sp := small_part hr h
 have pp := pos_part hr h
 have e : [46, 46, 46] ++ pt (pts r 0) k = joinD [[], pt (pts r 0) k] := rfl
 have v : ellP (pts r 0).flatten [[], pt (pts r 0) k] = decide (k = 7) := by
  have p8 := posL_8 hr
  have ps := posL_succ (P := pts r 0) (k := k) (by lia)
  have pl := posL_lt hr (i := k) (j := 8) h (Nat.le_refl _)
  have unf : ellP (pts r 0).flatten [[], pt (pts r 0) k] = if Txt.endswith (str (pts r 0).flatten) (str (pt (pts r 0) k)) then ellFin (pts r 0).flatten 0 ((pts r 0).flatten.length - (pt (pts r 0) k).length) [[]] else false := by
   cases hp : pt (pts r 0) k with
   | nil => rw [hp] at pp; exact absurd pp (by decide)
   | cons c q => rfl
  rw [unf]
  by_cases hk : k = 7
  ·have hs : Txt.endswith (str (pts r 0).flatten) (str (pt (pts r 0) k)) = true := by
    refine ends_iff.mpr ⟨by lia, ?_⟩
    have := (here_part (P := pts r 0) (k := k) (by lia) (e := (pts r 0).flatten.length) (by lia)).2
    have e7 : (pts r 0).flatten.length - (pt (pts r 0) k).length = posL (pts r 0) k := by
     rw [hk] at ps ⊢
     have : posL (pts r 0) (7 + 1) = (pts r 0).flatten.length := p8
     lia
    exact e7 ▸ this
   rw [if_pos hs, decide_eq_true hk]
   delta ellFin
   rw [if_neg (by lia)]
   exact ell_empty (Nat.zero_le _)
  ·have hs : ¬ Txt.endswith (str (pts r 0).flatten) (str (pt (pts r 0) k)) = true := fun q => by
    have q := ends_iff.mp q
    have := only_part hok hr h (e := (pts r 0).flatten.length) (q := (pts r 0).flatten.length - (pt (pts r 0) k).length) ⟨by exact fdP ‹_›, q.2⟩
    have p2 := posL_lt hr (i := k + 1) (j := 8) (by lia) (Nat.le_refl _)
    have p3 := posL_succ (P := pts r 0) (k := k + 1) (by lia)
    have p4 := pos_part hr (i := k + 1) (by lia)
    lia
   rw [if_neg hs, decide_eq_false hk]
 rw [e, ← v]
 refine ellR_of (Nat.le_refl 2) (show 2 ≤ 10 by decide) (fun w hw => ?_) (fun w hw => ?_) (by exact wk ‹_› rfl) (by rw [← e, List.length_append]; show 3 + _ ≤ 200; exact adc' ‹_› rfl)
 ·rcases List.mem_cons.mp hw with q | q
  ·rw [q]; simp
  ·exact (List.mem_singleton.mp q) ▸ (no46 hok hr h)
 ·rcases List.mem_cons.mp hw with q | q
  ·exact q ▸ (Nat.zero_le _)
  ·exact (List.mem_singleton.mp q) ▸ (Nat.le_trans ‹_› (by decide))
include hok hr in
theorem ell3A (i j : Nat) (hi : i < 8) (hj : j < 8) : ellR (wantA (pts r 0) i j) (pts r 0).flatten (decide (i < j)) := by
 have hl := pts_len r 0
 have ts := text_small hr
 have si := small_part hr hi
 have sj := small_part hr hj
 have e : wantA (pts r 0) i j = joinD [[], pt (pts r 0) i, pt (pts r 0) j, []] := by
  delta wantA
  show _ = [] ++ dots3 ++ (pt (pts r 0) i ++ dots3 ++ (pt (pts r 0) j ++ dots3 ++ []))
  simp [dots3]
 have p8 := posL_8 hr
 have li := posL_lt hr (i := i) (j := 8) hi (Nat.le_refl _)
 have lj := posL_lt hr (i := j) (j := 8) hj (Nat.le_refl _)
 have pi := posL_succ (P := pts r 0) (k := i) (by lia)
 have pj := posL_succ (P := pts r 0) (k := j) (by lia)
 have v : ellP (pts r 0).flatten [[], pt (pts r 0) i, pt (pts r 0) j, []] = decide (i < j) := by
  show ellFin (pts r 0).flatten 0 (pts r 0).flatten.length [[], pt (pts r 0) i, pt (pts r 0) j, []] = _
  delta ellFin
  rw [if_neg (by lia)]
  have f0 : fnd (pts r 0).flatten [] 0 (pts r 0).flatten.length = (0 : Nat) := fnd_some (Nat.le_refl _) ⟨Nat.zero_le _, by simp⟩ fun i h1 h2 => by exact absurd ‹_› (Nat.not_lt_zero _)
  have f1 : fnd (pts r 0).flatten (pt (pts r 0) i) 0 (pts r 0).flatten.length = (posL (pts r 0) i : Nat) := fnd_some (Nat.zero_le _) (here_part (by lia) (by lia)) fun q _ h2 h3 => by
   have := only_part hok hr hi h3; lia
  show (if fnd (pts r 0).flatten [] 0 (pts r 0).flatten.length < 0 then false else ellLoop (pts r 0).flatten (pts r 0).flatten.length [pt (pts r 0) i, pt (pts r 0) j, []] ((fnd (pts r 0).flatten [] 0 (pts r 0).flatten.length).toNat + 0)) = _
  rw [f0, if_neg (by decide), Int.toNat_natCast]
  show (if fnd (pts r 0).flatten (pt (pts r 0) i) 0 (pts r 0).flatten.length < 0 then false else ellLoop (pts r 0).flatten (pts r 0).flatten.length [pt (pts r 0) j, []] ((fnd (pts r 0).flatten (pt (pts r 0) i) 0 (pts r 0).flatten.length).toNat + (pt (pts r 0) i).length)) = _
  rw [f1, if_neg (by lia), Int.toNat_natCast, ← pi]
  show (if fnd (pts r 0).flatten (pt (pts r 0) j) (posL (pts r 0) (i + 1)) (pts r 0).flatten.length < 0 then false else ellLoop (pts r 0).flatten (pts r 0).flatten.length [[]] ((fnd (pts r 0).flatten (pt (pts r 0) j) (posL (pts r 0) (i + 1)) (pts r 0).flatten.length).toNat + (pt (pts r 0) j).length)) = _
  by_cases hlt : i < j
  ·have f2 : fnd (pts r 0).flatten (pt (pts r 0) j) (posL (pts r 0) (i + 1)) (pts r 0).flatten.length = (posL (pts r 0) j : Nat) := fnd_some (posL_lt hr hlt (by exact Nat.le_of_lt ‹_›)) (here_part (by lia) (by lia)) fun q _ h2 h3 => by
    have := only_part hok hr hj h3; lia
   rw [f2, if_neg (by lia), Int.toNat_natCast, decide_eq_true hlt]
   exact ell_empty (by lia)
  ·have f2 : fnd (pts r 0).flatten (pt (pts r 0) j) (posL (pts r 0) (i + 1)) (pts r 0).flatten.length < 0 := fnd_none fun q h1 h2 => by
    have := only_part hok hr hj h2
    have pp := pos_part hr hi
    by_cases hij : i = j
    ·subst hij; lia
    ·have := posL_lt hr (i := j) (j := i) (by lia) (by exact Nat.le_of_lt ‹_›)
     have := pos_part hr hj
     lia
   rw [if_pos f2, decide_eq_false hlt]
 rw [e, ← v]
 refine ellR_of (show 2 ≤ 4 by decide) (show 4 ≤ 10 by decide) (fun w hw => ?_) (fun w hw => ?_) (by exact wk ‹_› rfl) (by rw [← e]; delta wantA; simp only [List.length_append]; show 3 + _ + 3 + _ + 3 ≤ 200; lia)
 ·rcases List.mem_cons.mp hw with q | hw
  ·rw [q]; simp
  ·rcases List.mem_cons.mp hw with q | hw
   ·exact q ▸ (no46 hok hr hi)
   ·rcases List.mem_cons.mp hw with q | hw
    ·exact q ▸ (no46 hok hr hj)
    ·rw [List.mem_singleton.mp hw]; simp
 ·rcases List.mem_cons.mp hw with q | hw
  ·exact q ▸ (Nat.zero_le _)
  ·rcases List.mem_cons.mp hw with q | hw
   ·exact q ▸ (Nat.le_trans ‹_› (by decide))
   ·rcases List.mem_cons.mp hw with q | hw
    ·exact q ▸ (Nat.le_trans ‹_› (by decide))
    ·exact (List.mem_singleton.mp hw) ▸ (Nat.zero_le _)
include hok hr in
theorem ell3B (i j : Nat) (hi : i < 8) (hj : j < 8) : ellR (wantB (pts r 0) i j) (pts r 0).flatten (decide (i < j)) := by
 have hl := pts_len r 0
 have ts := text_small hr
 have e : wantB (pts r 0) i j = joinD [((pts r 0).take (i + 1)).flatten, ((pts r 0).drop j).flatten] := rfl
 have p8 := posL_8 hr
 have full : ∀ k, ((pts r 0).take k).flatten ++ ((pts r 0).drop k).flatten = (pts r 0).flatten := fun k => by rw [← List.flatten_append, List.take_append_drop]
 have lens : ∀ k, posL (pts r 0) k + ((pts r 0).drop k).flatten.length = (pts r 0).flatten.length := fun k => by
  rw [← full k, List.length_append]; rfl
 have lpre : ((pts r 0).take (i + 1)).flatten.length = posL (pts r 0) (i + 1) := rfl
 have ps := posL_succ (P := pts r 0) (k := i) (by lia)
 have ppi := pos_part hr hi
 have lj := posL_lt hr (i := j) (j := 8) hj (Nat.le_refl _)
 have pjs := posL_succ (P := pts r 0) (k := j) (by lia)
 have ppj := pos_part hr hj
 have l1 := lens (i + 1)
 have l2 := lens j
 have v : ellP (pts r 0).flatten [((pts r 0).take (i + 1)).flatten, ((pts r 0).drop j).flatten] = decide (i < j) := by
  have hs : Txt.startswith (str (pts r 0).flatten) (str ((pts r 0).take (i + 1)).flatten) = true := starts_iff.mpr ⟨by lia, by rw [List.drop_zero]; conv => lhs; rw [← full (i + 1)]; rw [List.take_left]⟩
  have he : Txt.endswith (str (pts r 0).flatten) (str ((pts r 0).drop j).flatten) = true := ends_iff.mpr ⟨by lia, by
   rw [show (pts r 0).flatten.length - ((pts r 0).drop j).flatten.length = ((pts r 0).take j).flatten.length by show _ = posL (pts r 0) j; exact fdE ‹_›]
   conv => lhs; rw [← full j]
   rw [List.drop_left, List.take_length]⟩
  have unf : ellP (pts r 0).flatten [((pts r 0).take (i + 1)).flatten, ((pts r 0).drop j).flatten] = ellFin (pts r 0).flatten (posL (pts r 0) (i + 1)) ((pts r 0).flatten.length - ((pts r 0).drop j).flatten.length) [] := by
   rw [← lpre]
   cases hp : ((pts r 0).take (i + 1)).flatten with
   | nil => rw [hp] at lpre; have : 0 = posL (pts r 0) (i + 1) := lpre; lia
   | cons c q =>
    rw [hp] at hs
    show (if Txt.startswith (str (pts r 0).flatten) (str (c :: q)) then ellEnd (pts r 0).flatten (c :: q).length [((pts r 0).drop j).flatten] else false) = _
    rw [if_pos hs]
    cases hq : ((pts r 0).drop j).flatten with
    | nil => rw [hq] at l2; have : posL (pts r 0) j + 0 = (pts r 0).flatten.length := l2; lia
    | cons d z =>
     rw [hq] at he
     show (if Txt.endswith (str (pts r 0).flatten) (str (d :: z)) then _ else _) = _
     exact if_pos he
  rw [unf]
  delta ellFin
  by_cases hlt : i < j
  ·have := posL_lt hr hlt (by exact Nat.le_of_lt ‹_›)
   rw [if_neg (by exact fdN ‹_› ‹_›), decide_eq_true hlt]; rfl
  ·have : posL (pts r 0) j < posL (pts r 0) (i + 1) := by
    by_cases hij : i = j
    ·subst hij; lia
    ·have := posL_lt hr (i := j) (j := i) (by lia) (by exact Nat.le_of_lt ‹_›)
     lia
   rw [if_pos (by exact fdL ‹_› ‹_›), decide_eq_false hlt]
 rw [e, ← v]
 have n46 : 46 ∉ (pts r 0).flatten := fun q => by
  obtain ⟨w, hw, q⟩ := List.mem_flatten.mp q
  obtain ⟨k, hk, rfl⟩ := List.mem_iff_getElem.mp hw
  have := no46 hok hr (k := k) (by lia)
  rw [pt, List.getD_eq_getElem?_getD, List.getElem?_eq_getElem hk] at this
  exact this q
 refine ellR_of (Nat.le_refl 2) (show 2 ≤ 10 by decide) (fun w hw => ?_) (fun w hw => ?_) (by exact wk ‹_› rfl) (by rw [← e]; delta wantB; simp only [List.length_append]; rw [lpre]; show _ + 3 + _ ≤ 200; lia)
 ·rcases List.mem_cons.mp hw with q | hw
  ·exact q ▸ (fun z => n46 ((full (i + 1)).symm ▸ (List.mem_append_left _ z)))
  ·exact (List.mem_singleton.mp hw) ▸ (fun z => n46 ((full j).symm ▸ (List.mem_append_right _ z)))
 ·rcases List.mem_cons.mp hw with q | hw
  ·rw [q, lpre]; lia
  ·rw [List.mem_singleton.mp hw]; lia
include hok hr in
theorem ell3 (i j : Nat) (hi : i < 8) (hj : j < 8) : ellR (wantIJ (pts r 0) i j) (pts r 0).flatten (decide (i < j)) := by
 delta wantIJ
 split
 ·exact ell3B hok hr i j hi hj
 ·exact ell3A hok hr i j hi hj
include hok hr in
theorem joints_law : runFn T16 d_joints.1.1 d_joints.1.2.1 d_joints.1.2.2 ["joints"] [] [.d (.list ((pts r 0).map S)), .d (rowD r)] = some (.d (.list (joinsTo r 8))) := by
 refine r_joints (by rw [pts_len]; exact hr) hr hok (fun x hx => ?_) (ell1 hok hr) (ell2 hok hr) (ell3 hok hr)
 obtain ⟨k, hk, rfl⟩ := List.mem_iff_getElem.mp hx
 have hl := pts_len r 0
 have := small_part hr (k := k) (by lia)
 rw [pt, List.getD_eq_getElem?_getD, List.getElem?_eq_getElem hk] at this
 have : (pts r 0)[k].length ≤ 7 := this
 exact wk ‹_› rfl
end
end
section
noncomputable def blk (q : Nat × Nat) : List Nat := List.replicate (1 + q.1) 46 ++ tailL q.2 (decide (q.1 > 0))
noncomputable def fblk (q : Nat × Nat) : List Nat := List.replicate (1 + q.1) 46 ++ tailL q.2 true
noncomputable def inc (q : Nat × Nat) : Nat × Nat := (q.1 + 1, q.2)
theorem fix_app (a z : List Nat) : ∀ b, fixB b (a ++ 46 :: z) = fixB b a ++ fixB false (46 :: z) := by
 induction a with
 | nil => exact fun _ => rfl
 | cons c r ih =>
  intro b
  by_cases h : c = 10
  ·subst h; cases b
   ·exact congrArg (fun x => 13 :: 10 :: x) (ih false)
   ·exact ih false
  ·by_cases h2 : c = 13
   ·subst h2; exact congrArg (fun x => 13 :: 10 :: x) (ih true)
   ·exact (fixB_c h h2).trans ((congrArg (c :: ·) (ih false)).trans (congrArg (· ++ fixB false (46 :: z)) (fixB_c h h2).symm))
theorem fix_dot (r : List Nat) : fixB false (46 :: r) = 46 :: fixB false r := rfl
theorem fix_dots (n : Nat) (r : List Nat) : fixB false (List.replicate n 46 ++ r) = List.replicate n 46 ++ fixB false r := by
 induction n with
 | zero => rfl
 | succ n ih =>
  show fixB false (46 :: (List.replicate n 46 ++ r)) = 46 :: (List.replicate n 46 ++ fixB false r)
  rw [fix_dot, ih]
theorem fix_tail (w : Nat) (h : w < 9) (b : Bool) : fixB false (tailL w b) = tailL w true := by
 exact (by decide +kernel : ∀ (w : Fin 9) (b : Bool), fixB false (tailL w.1 b) = tailL w.1 true) ⟨w, h⟩ b
theorem blk_dot (q : Nat × Nat) : ∃ r, blk q = 46 :: r := ⟨List.replicate q.1 46 ++ tailL q.2 (decide (q.1 > 0)), by
 unfold blk; rw [Nat.add_comm 1, List.replicate_succ]; rfl⟩
theorem fix_blk {q : Nat × Nat} (h : q.2 < 9) : fixB false (blk q) = fblk q := by unfold blk fblk; rw [fix_dots, fix_tail _ h]
theorem fix_blks : ∀ (L : List (Nat × Nat)), (∀ q ∈ L, q.2 < 9) → fixB false (L.flatMap blk) = L.flatMap fblk
 | [], _ => rfl
 | [q], h => by
  show fixB false (blk q ++ []) = fblk q ++ []
  rw [List.append_nil, List.append_nil, fix_blk (h q (.head _))]
 | q :: p :: L, h => by
  have ih := fix_blks (p :: L) fun x hx => h x (.tail _ hx)
  obtain ⟨r, hr⟩ := blk_dot p
  have e : (p :: L).flatMap blk = 46 :: (r ++ L.flatMap blk) := by rw [List.flatMap_cons, hr]; rfl
  show fixB false (blk q ++ (p :: L).flatMap blk) = fblk q ++ (p :: L).flatMap fblk
  rw [e, fix_app, fix_blk (h q (.head _)), ← e, ih]
theorem dot_f46 (r : List Nat) : dotL false (46 :: r) = 46 :: dotL false r := rfl
theorem dot_t46 (r : List Nat) : dotL true (46 :: r) = 46 :: 46 :: dotL false r := rfl
theorem dot_fdots (n : Nat) (r : List Nat) : dotL false (List.replicate n 46 ++ r) = List.replicate n 46 ++ dotL false r := by
 induction n with
 | zero => rfl
 | succ n ih =>
  show dotL false (46 :: (List.replicate n 46 ++ r)) = 46 :: (List.replicate n 46 ++ dotL false r)
  rw [dot_f46, ih]
theorem dot_tdots (n : Nat) (r : List Nat) : dotL true (List.replicate (1 + n) 46 ++ r) = List.replicate (1 + (n + 1)) 46 ++ dotL false r := by
 rw [Nat.add_comm 1 n, List.replicate_succ]
 show 46 :: 46 :: dotL false (List.replicate n 46 ++ r) = _
 rw [dot_fdots, show 1 + (n + 1) = n + 1 + 1 by lia, List.replicate_succ, List.replicate_succ]; rfl
theorem dot_10 (b : Bool) (r : List Nat) : dotL b (10 :: r) = 10 :: dotL true r := by cases b <;> rfl
theorem dot_app (a b : List Nat) : ∀ s, dotL s (a ++ 10 :: b) = dotL s (a ++ [10]) ++ dotL true b := by
 induction a with
 | nil => intro s; cases s <;> rfl
 | cons c a ih =>
  intro s
  by_cases h46 : s = true ∧ c = 46
  ·obtain ⟨rfl, rfl⟩ := h46; exact congrArg (fun x => 46 :: 46 :: x) (ih false)
  ·have h : ∀ r, dotL s (c :: r) = c :: dotL (c == 10) r := fun r => dot_step fun q z => h46 ⟨q, z⟩
   exact (h _).trans ((congrArg (c :: ·) (ih _)).trans (congrArg (· ++ dotL true b) (h _).symm))
theorem tail_end (w : Nat) : ∃ t, tailL w true = t ++ [10] := ⟨([[], [12, 46], [120, 13, 10, 13, 10, 13, 10, 13, 10, 32, 46]] : List (List Nat)).getD (w % 3) [] ++ [13], by
 unfold tailL; rw [if_pos rfl, List.append_assoc]; rfl⟩
theorem dot_tail (w : Nat) (h : w < 9) : dotL false (tailL w true) = tailL w true := by
 exact (by decide +kernel : ∀ w : Fin 9, dotL false (tailL w.1 true) = tailL w.1 true) ⟨w, h⟩
theorem dot_fblk {q : Nat × Nat} (h : q.2 < 9) : dotL true (fblk q) = blk (inc q) := by
 unfold fblk blk inc
 rw [dot_tdots, dot_tail _ h, decide_eq_true (by show q.1 + 1 > 0; lia)]
theorem dot_fblks : ∀ (L : List (Nat × Nat)), (∀ q ∈ L, q.2 < 9) → dotL true (L.flatMap fblk) = (L.map inc).flatMap blk
 | [], _ => rfl
 | q :: L, h => by
  have ih := dot_fblks L fun x hx => h x (.tail _ hx)
  obtain ⟨t, ht⟩ := tail_end q.2
  have e : fblk q = (List.replicate (1 + q.1) 46 ++ t) ++ [10] := by unfold fblk; rw [ht, List.append_assoc]
  show dotL true (fblk q ++ L.flatMap fblk) = blk (inc q) ++ (L.map inc).flatMap blk
  rw [← ih, ← dot_fblk (h q (.head _)), e, List.append_assoc]
  exact dot_app _ _ _
theorem quote_blks {L : List (Nat × Nat)} (h : ∀ q ∈ L, q.2 < 9) : quote (L.flatMap blk) = (L.map inc).flatMap blk := by
 unfold quote
 rw [fix_blks L h, dot_fblks L h]
theorem quote_dots {d : Nat} (h : 1 ≤ d) : quote (List.replicate d 46) = List.replicate (d + 1) 46 := by
 obtain ⟨n, rfl⟩ : ∃ n, d = 1 + n := ⟨d - 1, by exact adS' ‹_›⟩
 unfold quote
 have := fix_dots (1 + n) []
 rw [List.append_nil] at this
 rw [this]
 show dotL true (List.replicate (1 + n) 46 ++ []) = _
 rw [dot_tdots, show dotL false [] = [] from rfl, List.append_nil]
 congr 1
noncomputable def AL (r : List Slot) : Nat → List (Nat × Nat)
 | 0 => []
 | i + 1 => if (sl r (i + 1)).b = 0 then AL r i ++ [(0, (sl r (i + 1)).w)] else (AL r i).map inc
noncomputable def BL (r : List Slot) : Nat → List (Nat × Nat)
 | 0 => []
 | i + 1 => if (sl r (6 - i)).b = 1 then BL r i ++ [(0, (sl r (6 - i)).w)] else (BL r i).map inc
noncomputable def dAL (r : List Slot) : Nat → List (Nat × Nat)
 | 0 => []
 | i + 1 => if (sl r (i + 1)).b = 0 then dAL r i ++ [(laterN r (i + 1), (sl r (i + 1)).w)] else dAL r i
noncomputable def dBL (r : List Slot) : Nat → List (Nat × Nat)
 | 0 => []
 | i + 1 => if (sl r (i + 1)).b = 0 then dBL r i else (earlierN r (i + 1), (sl r (i + 1)).w) :: dBL r i
section
variable {r : List Slot} (hok : ∀ s ∈ r, s.Ok) (hr : r.length = 8)
include hok hr in
theorem AL_w : ∀ i, i ≤ 6 → ∀ q ∈ AL r i, q.2 < 9
 | 0, _ => fun q hq => (nomatch hq)
 | i + 1, h => fun q hq => by
  have ih := AL_w i (by exact Nat.le_of_lt ‹_›)
  unfold AL at hq
  split at hq
  ·rcases List.mem_append.mp hq with z | z
   ·exact ih q z
   ·rw [List.mem_singleton.mp z]; exact (sl_ok hok (by lia)).w
  ·obtain ⟨p, hp, rfl⟩ := List.mem_map.mp hq
   exact ih p hp
include hok hr in
theorem BL_w : ∀ i, i ≤ 6 → ∀ q ∈ BL r i, q.2 < 9
 | 0, _ => fun q hq => (nomatch hq)
 | i + 1, h => fun q hq => by
  have ih := BL_w i (by exact Nat.le_of_lt ‹_›)
  unfold BL at hq
  split at hq
  ·rcases List.mem_append.mp hq with z | z
   ·exact ih q z
   ·rw [List.mem_singleton.mp z]; exact (sl_ok hok (by exact ltC ‹_› rfl)).w
  ·obtain ⟨p, hp, rfl⟩ := List.mem_map.mp hq
   exact ih p hp
include hok hr in
theorem along_blks : ∀ i, i ≤ 6 → alongTo r i = (AL r i).flatMap blk
 | 0, _ => rfl
 | i + 1, h => by
  have ih := along_blks i (by exact Nat.le_of_lt ‹_›)
  unfold alongTo AL
  rw [ih]
  split
  ·rw [List.flatMap_append, List.append_assoc]
   congr 1
   show [46] ++ tailL (sl r (i + 1)).w false = blk (0, (sl r (i + 1)).w) ++ []
   rw [List.append_nil]; rfl
  ·exact quote_blks (AL_w hok hr i (by exact Nat.le_of_lt ‹_›))
include hok hr in
theorem back_blks : ∀ i, i ≤ 6 → backTo2 r i = (BL r i).flatMap blk
 | 0, _ => rfl
 | i + 1, h => by
  have ih := back_blks i (by exact Nat.le_of_lt ‹_›)
  unfold backTo2 BL
  rw [ih]
  split
  ·rw [List.flatMap_append, List.append_assoc]
   congr 1
   show [46] ++ tailL (sl r (6 - i)).w false = blk (0, (sl r (6 - i)).w) ++ []
   rw [List.append_nil]; rfl
  ·exact quote_blks (BL_w hok hr i (by exact Nat.le_of_lt ‹_›))
end
theorem dueA_blks (r : List Slot) : ∀ i, dueA r i = (dAL r i).flatMap blk
 | 0 => rfl
 | i + 1 => by
  have ih := dueA_blks r i
  unfold dueA dAL
  rw [ih]
  split
  ·rw [List.flatMap_append]
   congr 1
   show blk (laterN r (i + 1), (sl r (i + 1)).w) = blk _ ++ []
   rw [List.append_nil]
  ·rfl
theorem dueB_blks (r : List Slot) : ∀ i, dueB r i = (dBL r i).flatMap blk
 | 0 => rfl
 | i + 1 => by
  have ih := dueB_blks r i
  unfold dueB dBL
  rw [ih]
  split
  ·rfl
  ·rfl
@[elab_as_elim] theorem bitE {P : Nat → Prop} {b : Nat} (h : b < 2) (h0 : P 0) (h1 : P 1) : P b := by
 rcases Nat.lt_succ_iff_lt_or_eq.mp h with q | q
 ·rw [Nat.lt_one_iff.mp q]; exact h0
 ·rw [q]; exact h1
noncomputable def mk8 (a0 a7 : Slot) (t w : Nat → Nat) (b1 b2 b3 b4 b5 b6 : Nat) : List Slot := [a0, ⟨t 1, b1, w 1⟩, ⟨t 2, b2, w 2⟩, ⟨t 3, b3, w 3⟩, ⟨t 4, b4, w 4⟩, ⟨t 5, b5, w 5⟩, ⟨t 6, b6, w 6⟩, a7]
noncomputable def Same (r : List Slot) : Prop := AL r 6 = dAL r 6 ∧ BL r 6 = dBL r 6
theorem same_i {r : List Slot} (h1 : AL r 6 = dAL r 6) (h2 : BL r 6 = dBL r 6) : Same r := ⟨h1, h2⟩
set_option maxHeartbeats 8000000 in
theorem same_bits {a0 a7 : Slot} {t w : Nat → Nat} {b1 b2 b3 b4 b5 b6 : Nat} (h1 : b1 < 2) (h2 : b2 < 2) (h3 : b3 < 2) (h4 : b4 < 2) (h5 : b5 < 2) (h6 : b6 < 2) : Same (mk8 a0 a7 t w b1 b2 b3 b4 b5 b6) := by
 refine bitE h1 ?_ ?_ <;> refine bitE h2 ?_ ?_ <;> refine bitE h3 ?_ ?_ <;> refine bitE h4 ?_ ?_ <;> refine bitE h5 ?_ ?_ <;> refine bitE h6 ?_ ?_ <;> exact same_i rfl rfl
theorem blocks_same {r : List Slot} (hok : ∀ s ∈ r, s.Ok) (hr : r.length = 8) : Same r := by
 obtain ⟨a0, a1, a2, a3, a4, a5, a6, a7, rfl⟩ := eight hr
 have hb : ∀ i (h : i < 8), ([a0, a1, a2, a3, a4, a5, a6, a7][i]'h).b < 2 := fun i h => (hok _ (List.getElem_mem h)).b
 exact same_bits (a0 := a0) (a7 := a7) (t := fun i => (sl [a0, a1, a2, a3, a4, a5, a6, a7] i).t) (w := fun i => (sl [a0, a1, a2, a3, a4, a5, a6, a7] i).w) (hb 1 (by decide)) (hb 2 (by decide)) (hb 3 (by decide)) (hb 4 (by decide)) (hb 5 (by decide)) (hb 6 (by decide))
theorem mails_law {r : List Slot} (hok : ∀ s ∈ r, s.Ok) (hr : r.length = 8) : alongTo r 6 = dueA r 6 ∧ backTo2 r 6 = dueB r 6 := by
 obtain ⟨h1, h2⟩ := blocks_same hok hr
 exact ⟨by rw [along_blks hok hr 6 (Nat.le_refl _), dueA_blks, h1], by rw [back_blks hok hr 6 (Nat.le_refl _), dueB_blks, h2]⟩
end
section
noncomputable def crlf2 : List Nat := [13, 10]
noncomputable def joinC : List (List Nat) → List Nat
 | [] => []
 | [w] => w
 | w :: r => w ++ crlf2 ++ joinC r
theorem joinC_cons {w : List Nat} {r : List (List Nat)} (h : r ≠ []) : joinC (w :: r) = w ++ crlf2 ++ joinC r := by
 cases r with
 | nil => exact absurd rfl h
 | cons => rfl
theorem at_cr {x : List Nat} {e i : Nat} (h : AtL x crlf2 e i) : x[i]? = some 13 := by
 have := h.2
 have h0 : ((x.drop i).take 2)[0]? = some 13 := by exact (show (x.drop i).take 2 = crlf2 from this) ▸ rfl
 rw [List.getElem?_take_of_lt (by decide), List.getElem?_drop] at h0
 exact h0
theorem chain_crlf : ∀ (W : List (List Nat)) (pre x : List Nat) (cuts : List Nat) (f : Nat), W ≠ [] → (∀ w ∈ W, 13 ∉ w) → x = pre ++ joinC W → StrLaws.ChainG (str x) (str crlf2) x.length pre.length cuts f → (∀ k, f ≤ k → ¬ AtL x crlf2 x.length k) →
  StrLaws.partsFrom (str x) 2 pre.length cuts = W.map str
 | [], _, _, _, _, h, _, _, _, _ => absurd rfl h
 | [w], pre, x, cuts, f, _, hw, hx, hc, hf => by
  have hx : x = pre ++ w := hx
  have none : ∀ k, pre.length ≤ k → ¬ AtL x crlf2 x.length k := fun k hk h => by
   have := at_cr h
   rw [hx, List.getElem?_append_right hk] at this
   exact hw w (.head _) (List.mem_of_getElem? this)
  cases cuts with
  | cons c r => exact absurd (at_iff.mp hc.2.1) (none c hc.1)
  | nil =>
   show [Builtin.Str.strSub (str x) pre.length (str x).length] = [str w]
   congr 1
   refine str_of ?_
   rw [StrLaws.strSub_toList, slen]
   show (x.drop pre.length).take (x.length - pre.length) = w
   rw [hx, List.drop_left, List.length_append, Nat.add_sub_cancel_left, List.take_length]
 | w :: v :: r, pre, x, cuts, f, _, hw, hx, hc, hf => by
  have hx : x = pre ++ (w ++ crlf2 ++ joinC (v :: r)) := hx
  have hx2 : x = (pre ++ w) ++ crlf2 ++ joinC (v :: r) := by rw [hx]; simp
  have here : AtL x crlf2 x.length (pre.length + w.length) := by
   have := at_here (u := pre ++ w) (v := crlf2) (w := joinC (v :: r))
   rw [← hx2, List.length_append] at this; exact this
  have none : ∀ k, pre.length ≤ k → k < pre.length + w.length → ¬ AtL x crlf2 x.length k := fun k h1 h2 h => by
   have := at_cr h
   rw [hx, List.getElem?_append_right h1, List.append_assoc, List.getElem?_append_left (by exact fnD ‹_› ‹_›)] at this
   exact hw w (.head _) (List.mem_of_getElem? this)
  cases cuts with
  | nil =>
   have e : f = pre.length := hc
   exact absurd here (hf _ (by lia))
  | cons c q =>
   obtain ⟨c1, c2, c3, c4⟩ := hc
   have hcc : c = pre.length + w.length := by
    rcases Nat.lt_trichotomy c (pre.length + w.length) with z | z | z
    ·exact absurd (at_iff.mp c2) (none c c1 z)
    ·exact z
    ·exact absurd (at_iff.mpr here) (c3 _ (Nat.le_add_right _ _) z)
   subst hcc
   show Builtin.Str.strSub (str x) pre.length (pre.length + w.length) :: StrLaws.partsFrom (str x) 2 (pre.length + w.length + 2) q = str w :: (v :: r).map str
   congr 1
   ·refine str_of ?_
    rw [StrLaws.strSub_toList]
    show (x.drop pre.length).take (pre.length + w.length - pre.length) = w
    rw [hx, List.drop_left, Nat.add_sub_cancel_left, List.append_assoc, List.take_left]
   ·have := chain_crlf (v :: r) (pre ++ w ++ crlf2) x q f (fun z => nomatch z) (fun y hy => hw y (.tail _ hy)) (by rw [hx]; simp) (by
     rw [show (pre ++ w ++ crlf2).length = pre.length + w.length + 2 by simp [crlf2]; rfl]
     exact c4) hf
    rw [show (pre ++ w ++ crlf2).length = pre.length + w.length + 2 by simp [crlf2]; rfl] at this
    exact this
theorem split_crlf {W : List (List Nat)} (h2 : 2 ≤ W.length) (hw : ∀ w ∈ W, 13 ∉ w) : Txt.split (str (joinC W)) (str crlf2) = W.map str := by
 match W, h2 with
 | w :: v :: r, _ =>
  have hne : AtL (joinC (w :: v :: r)) crlf2 (joinC (w :: v :: r)).length w.length := by
   have := at_here (u := w) (v := crlf2) (w := joinC (v :: r))
   exact this
  obtain ⟨f, ch, hf⟩ := StrLaws.occ_tight (str (joinC (w :: v :: r))) (str crlf2) (by rw [slen]; decide)
  rw [slen] at ch hf
  have key := chain_crlf (w :: v :: r) [] (joinC (w :: v :: r)) _ f (by simp) hw rfl ch fun k hk h => hf k hk (at_iff.mpr h)
  unfold Txt.split
  rw [slen, slen]
  have k1 : Builtin.Str.strKind (str crlf2) = 1 := by decide +kernel
  have k2 : 1 ≤ Builtin.Str.strKind (str (joinC (w :: v :: r))) := by
   unfold Builtin.Str.strKind
   split
   ·exact Nat.le_refl _
   ·split <;> decide
  have l3 : crlf2.length ≤ (joinC (w :: v :: r)).length := by have := hne.1; lia
  rw [if_neg (by rw [k1]; simp only [Bool.or_eq_true, decide_eq_true_eq]; lia)]
  have hno : ¬ (Builtin.Str.occurrences (str (joinC (w :: v :: r))) (str crlf2) 0 (joinC (w :: v :: r)).length ((joinC (w :: v :: r)).length + 1)).isEmpty = true := by
   intro q
   have q := List.isEmpty_iff.mp q
   rw [q] at ch
   have e : f = 0 := ch
   exact hf _ (by lia) (at_iff.mpr hne)
  rw [if_neg hno, StrLaws.partsBetween_eq]
  exact key
theorem joinC_flat : ∀ (L : List (List Nat)), joinC (L ++ [[]]) = L.flatMap fun x => x ++ crlf2
 | [] => rfl
 | x :: L => by
  show joinC (x :: (L ++ [[]])) = (x ++ crlf2) ++ L.flatMap fun x => x ++ crlf2
  rw [joinC_cons (by simp), joinC_flat L]
theorem lstrip_L (l : List Nat) : Txt.lstripChars (str l) (str [46]) = str (l.drop (l.takeWhile fun c => decide (c = 46)).length) := by
 refine str_of ?_
 delta Txt.lstripChars
 rw [PyProof.Rows.stripBy_eq, StrLaws.strSub_toList]
 have g : (fun c => (str [46]).cps.contains c) = fun c => decide (c = 46) := by
  funext c
  show (#[46] : Array Nat).contains c = _
  by_cases h : c = 46
  ·rw [h]; simp
  ·rw [decide_eq_false h]
   simp [h]
 have lo : stripLo (str [46]).cps.contains true (str l) = (l.takeWhile fun c => decide (c = 46)).length := by
  delta stripLo
  rw [if_pos rfl]
  show (l.takeWhile (fun c => (str [46]).cps.contains c)).length = _
  rw [g]
 have hi : ∀ a, stripHi (str [46]).cps.contains false (str l) a = l.length := fun a => by
  delta stripHi
  rw [if_neg (by decide)]
  rfl
 rw [lo, hi]
 show (l.drop _).take (l.length - _) = _
 exact List.take_of_length_le (List.length_drop ▸ (Nat.le_refl _))
noncomputable def rowsOf (q : Nat × Nat) : List (List Nat) :=
 if q.2 % 3 = 0 then [List.replicate (1 + q.1) 46] else if q.2 % 3 = 1 then [List.replicate (1 + q.1) 46 ++ [12, 46]] else [List.replicate (1 + q.1) 46 ++ [120], [], [], [], [32, 46]]
noncomputable def firstRow (q : Nat × Nat) : List Nat :=
 if q.2 % 3 = 0 then List.replicate (1 + q.1) 46 else if q.2 % 3 = 1 then List.replicate (1 + q.1) 46 ++ [12, 46] else List.replicate (1 + q.1) 46 ++ [120]
theorem fblk_rows (q : Nat × Nat) : fblk q = (rowsOf q).flatMap fun x => x ++ crlf2 := by
 delta fblk rowsOf
 have h : ∀ w, tailL w true = ([[], [12, 46], [120, 13, 10, 13, 10, 13, 10, 13, 10, 32, 46]] : List (List Nat)).getD (w % 3) [] ++ [13, 10] := fun w => if_pos rfl
 rw [h]
 have := Nat.mod_lt q.2 (by decide : 3 > 0)
 rcases (by exact or3 ‹_› : q.2 % 3 = 0 ∨ q.2 % 3 = 1 ∨ q.2 % 3 = 2) with e | e | e <;> rw [e] <;> simp [crlf2]
theorem rows_flat (L : List (Nat × Nat)) : L.flatMap fblk = joinC (L.flatMap rowsOf ++ [[]]) := by
 rw [joinC_flat, List.flatMap_assoc]
 congr 1
 funext q
 exact fblk_rows q
theorem rows_no13 (L : List (Nat × Nat)) : ∀ w ∈ L.flatMap rowsOf ++ [[]], 13 ∉ w := fun w hw => by
 rcases List.mem_append.mp hw with h | h
 ·obtain ⟨q, _, h⟩ := List.mem_flatMap.mp h
  delta rowsOf at h
  have rep : 13 ∉ List.replicate (1 + q.1) 46 := fun z => by have := List.eq_of_mem_replicate z; lia
  split at h
  ·exact (List.mem_singleton.mp h) ▸ rep
  ·split at h
   ·rw [List.mem_singleton.mp h]; simp
   ·simp only [List.mem_cons, List.not_mem_nil, or_false] at h
    rcases h with h | h | h | h | h <;> rw [h] <;> simp
 ·rw [List.mem_singleton.mp h]; simp
theorem split_rows {L : List (Nat × Nat)} (h : L ≠ []) : Txt.split (str (L.flatMap fblk)) (str [13, 10]) = (L.flatMap rowsOf ++ [[]]).map str := by
 rw [rows_flat]
 refine split_crlf ?_ (rows_no13 L)
 rw [List.length_append]
 cases L with
 | nil => exact absurd rfl h
 | cons q r =>
  rw [List.flatMap_cons, List.length_append]
  have : 1 ≤ (rowsOf q).length := by delta rowsOf; split; exact Nat.le_refl _; split; exact Nat.le_refl _; show 1 ≤ 5; decide
  show 2 ≤ _ + _ + 1
  lia
noncomputable def isDot (x : List Nat) : Bool := decide (x.take 1 = [46])
theorem rows_filter (L : List (Nat × Nat)) : (L.flatMap rowsOf ++ [[]]).filter isDot = L.map firstRow := by
 rw [List.filter_append]
 show (L.flatMap rowsOf).filter isDot ++ [] = _
 rw [List.append_nil]
 induction L with
 | nil => rfl
 | cons q r ih =>
  rw [List.flatMap_cons, List.filter_append, ih, List.map_cons]
  have hd : ∀ t, isDot (List.replicate (1 + q.1) 46 ++ t) = true := fun t => by
   rw [Nat.add_comm 1, List.replicate_succ]; rfl
  have hd0 : isDot (List.replicate (1 + q.1) 46) = true := by have := hd []; rw [List.append_nil] at this; exact this
  have : (rowsOf q).filter isDot = [firstRow q] := by
   delta rowsOf firstRow
   split
   ·exact List.filter_cons_of_pos hd0
   ·split
    ·exact List.filter_cons_of_pos (hd _)
    ·exact List.filter_cons_of_pos (hd _)
  exact this ▸ rfl
theorem first_dots (q : Nat × Nat) : ((firstRow q).takeWhile fun c => decide (c = 46)).length = 1 + q.1 := by
 have tw : ∀ (n : Nat) (t : List Nat), (∀ c r, t = c :: r → c ≠ 46) → ((List.replicate n 46 ++ t).takeWhile fun c => decide (c = 46)).length = n := by
  intro n t ht
  induction n with
  | zero =>
   cases t with
   | nil => rfl
   | cons c r =>
    show ((c :: r).takeWhile _).length = 0
    rw [List.takeWhile_cons_of_neg (by simpa using ht c r rfl)]; rfl
  | succ n ih =>
   rw [List.replicate_succ]
   show ((46 :: (List.replicate n 46 ++ t)).takeWhile _).length = n + 1
   rw [List.takeWhile_cons_of_pos (by decide), List.length_cons, ih]
 delta firstRow
 split
 ·have := tw (1 + q.1) [] fun c r h => (nomatch h)
  rw [List.append_nil] at this; exact this
 ·split
  ·exact tw _ _ fun c r h => by cases h; decide
  ·exact tw _ _ fun c r h => by cases h; decide
theorem first_len (q : Nat × Nat) : 1 + q.1 ≤ (firstRow q).length ∧ (firstRow q).length ≤ q.1 + 3 := by
 delta firstRow
 split
 ·rw [List.length_replicate]; lia
 ·split
  ·rw [List.length_append, List.length_replicate]; show _ ≤ _ + 2 ∧ _ + 2 ≤ _; lia
  ·rw [List.length_append, List.length_replicate]; show _ ≤ _ + 1 ∧ _ + 1 ≤ _; lia
end
section
noncomputable def dotsR (r : List Slot) : List Nat := (dAL r 6 ++ dBL r 6).map fun q => 1 + q.1
noncomputable def bitsR (r : List Slot) : List Slot := r.map fun s => ⟨0, s.b, 0⟩
theorem sl_bits (r : List Slot) (k : Nat) : (sl (bitsR r) k).b = (sl r k).b := by
 delta bitsR
 rw [sl, sl, List.getD_eq_getElem?_getD, List.getD_eq_getElem?_getD, List.getElem?_map]
 cases r[k]? <;> rfl
theorem later_bits (r : List Slot) (k : Nat) : laterN (bitsR r) k = laterN r k := by
 delta laterN bitsR
 rw [← List.map_drop, ← List.map_take, List.filter_map, List.length_map]; rfl
theorem earlier_bits (r : List Slot) (k : Nat) : earlierN (bitsR r) k = earlierN r k := by
 delta earlierN bitsR
 rw [← List.map_drop, ← List.map_take, List.filter_map, List.length_map]; rfl
theorem dAL_bits (r : List Slot) : ∀ i, (dAL (bitsR r) i).map (fun q => 1 + q.1) = (dAL r i).map fun q => 1 + q.1
 | 0 => rfl
 | i + 1 => by
  unfold dAL
  rw [sl_bits, later_bits]
  split
  ·rw [List.map_append, List.map_append, dAL_bits r i]; rfl
  ·exact dAL_bits r i
theorem dBL_bits (r : List Slot) : ∀ i, (dBL (bitsR r) i).map (fun q => 1 + q.1) = (dBL r i).map fun q => 1 + q.1
 | 0 => rfl
 | i + 1 => by
  unfold dBL
  rw [sl_bits, earlier_bits]
  split
  ·exact dBL_bits r i
  ·rw [List.map_cons, List.map_cons, dBL_bits r i]
theorem dots_bits (r : List Slot) : dotsR (bitsR r) = dotsR r := by
 delta dotsR
 rw [List.map_append, List.map_append, dAL_bits, dBL_bits]
theorem joins_bits (r : List Slot) (m : Nat) : joinsTo (bitsR r) m = joinsTo r m := by
 delta joinsTo openL closeL
 simp only [sl_bits]
noncomputable def slots6 (b1 b2 b3 b4 b5 b6 : Nat) : List Slot := [⟨0, 0, 0⟩, ⟨0, b1, 0⟩, ⟨0, b2, 0⟩, ⟨0, b3, 0⟩, ⟨0, b4, 0⟩, ⟨0, b5, 0⟩, ⟨0, b6, 0⟩, ⟨0, 1, 0⟩]
noncomputable def cntOf (L : List Nat) : List Int := L.foldl bump []
noncomputable def lessL (L : List Nat) : List Nat := L.map fun c => c - 1
noncomputable def topN (L : List Nat) : Nat := L.foldl (fun a b => if b > a then b else a) 0
noncomputable def hitN (L : List Nat) (s : Nat) : Nat := (L.filter fun c => decide (c % s = 0)).length
noncomputable def hits (L : List Nat) (N : Nat) : List Nat := (List.range N).filter fun i => decide (hitN L (1 + i) ≠ 0)
noncomputable def treesTo (L : List Nat) (W : List Nat) (i : Nat) : Nat := (W.take i).foldl (fun a i => a * primeN (1 + i) ^ hitN L (1 + i)) 1
noncomputable def mulN (L : List Nat) : Nat := L.foldl (· * ·) 1
noncomputable def okCnt (c : List Int) : Bool := decide (c.length ≤ 7) && c.all fun x => decide (0 ≤ x) && decide (x ≤ 1000)
noncomputable def okSize (L : List Nat) (s : Nat) : Bool := decide (indI (cntOf L) 0 6 s = (colTo L s 6 : Int)) && decide (indI (cntOf (lessL L)) 0 6 s = (colTo (lessL L) s 6 : Int)) && decide (colTo L s 6 = colTo (lessL L) s 6 + s * hitN L s)
 && decide (colTo L s 6 < 100) && decide (0 < colTo L s 6)
noncomputable def okBlank (L : List Nat) (b : Nat) : Bool := decide (treesTo L (hits L ((if b > topN L then b else topN L) + 1)) 7 = mulN L)
noncomputable def okDots (L : List Nat) : Bool := decide (L.length = 6) && L.all (fun c => decide (1 ≤ c) && decide (c ≤ 6)) && decide ((cntOf L).length = topN L + 1) && decide ((cntOf (lessL L)).length = topN L) && decide (1 ≤ topN L) && decide (topN L ≤ 6)
 && okCnt (cntOf L) && okCnt (cntOf (lessL L)) && (List.range 7).all (fun i => okSize L (1 + i)) && (List.range 4).all (okBlank L) && decide (mulN L ≤ 46656)
theorem okDots_all : ∀ b1 : Fin 2, ∀ b2 : Fin 2, ∀ b3 : Fin 2, ∀ b4 : Fin 2, ∀ b5 : Fin 2, ∀ b6 : Fin 2, okDots (dotsR (slots6 b1 b2 b3 b4 b5 b6)) = true := by decide +kernel
end
section
noncomputable def runsT (L : List Nat) : List Nat := L.flatMap fun c => List.replicate c 32 ++ [9]
noncomputable def wsT (L : List Nat) (b : Nat) : List Nat := runsT L ++ (List.replicate b 32 ++ [120, 9])
theorem wsL_spaces : ∀ (c : Nat) (r : List Nat) (cnt : List Int) (b n nt : Nat), wsL (List.replicate c 32 ++ r) cnt b n nt = wsL r cnt (b + c) (n + c) nt
 | 0, r, cnt, b, n, nt => rfl
 | c + 1, r, cnt, b, n, nt => by
  rw [List.replicate_succ]
  show wsL (List.replicate c 32 ++ r) cnt (b + 1) (n + 1) nt = _
  rw [wsL_spaces c r cnt (b + 1) (n + 1) nt]
  congr 1 <;> exact Nat.add_right_comm _ _ _
theorem wsL_runs (b : Nat) : ∀ (L : List Nat) (cnt : List Int) (n nt : Nat), ∃ m, wsL (wsT L b) cnt 0 n nt = (L.foldl bump cnt, b, m, nt + L.length)
 | [], cnt, n, nt => by
  refine ⟨n + b, ?_⟩
  show wsL (List.replicate b 32 ++ [120, 9]) cnt 0 n nt = _
  rw [wsL_spaces, Nat.zero_add]; rfl
 | c :: L, cnt, n, nt => by
  obtain ⟨m, h⟩ := wsL_runs b L (bump cnt c) (n + c + 1) (nt + 1)
  refine ⟨m, ?_⟩
  have e : wsT (c :: L) b = List.replicate c 32 ++ (9 :: wsT L b) := by
   delta wsT runsT
   rw [List.flatMap_cons]
   simp only [List.append_assoc]; rfl
  rw [e, wsL_spaces, Nat.zero_add]
  show wsL (wsT L b) (bump cnt c) 0 (n + c + 1) (nt + 1) = _
  rw [h]
  show _ = ((c :: L).foldl bump cnt, b, m, nt + (L.length + 1))
  exact (show nt + 1 + L.length = nt + (L.length + 1) by exact Nat.add_right_comm _ _ _) ▸ rfl
theorem wsOf_runs (L : List Nat) (b : Nat) : ∃ m : Nat, wsOf (str (wsT L b)) = .w (str (wsT L b)) m L.length (cntOf L) b (decide ((cntOf L).length ≤ 1)) := by
 obtain ⟨m, h⟩ := wsL_runs b L [] 0 0
 refine ⟨m, ?_⟩
 delta wsOf
 rw [show (str (wsT L b)).cps.toList = wsT L b from rfl, h, Nat.zero_add]; rfl
theorem runsT_len (L : List Nat) (h : ∀ c ∈ L, c ≤ 6) : (runsT L).length ≤ 7 * L.length := by
 induction L with
 | nil => exact Nat.le_refl _
 | cons c L ih =>
  unfold runsT at ih ⊢
  rw [List.flatMap_cons, List.length_append, List.length_append, List.length_replicate, List.length_cons (a := c)]
  have := ih fun x hx => h x (.tail _ hx)
  have := h c (.head _)
  show c + 1 + _ ≤ _
  lia
theorem wsT_len {L : List Nat} {b : Nat} (h : ∀ c ∈ L, c ≤ 6) (hl : L.length = 6) (hb : b < 4) : (wsT L b).length ≤ 50 := by
 delta wsT
 rw [List.length_append, List.length_append, List.length_replicate]
 have := runsT_len L h
 show _ + (b + 2) ≤ _
 lia
theorem wsT_ok (L : List Nat) (b : Nat) : okL (wsT L b) := by
 intro c hc
 delta wsT runsT at hc
 rcases List.mem_append.mp hc with h | h
 ·obtain ⟨q, _, h⟩ := List.mem_flatMap.mp h
  rcases List.mem_append.mp h with h | h
  ·have := List.eq_of_mem_replicate h; lia
  ·have := List.mem_singleton.mp h; lia
 ·rcases List.mem_append.mp h with h | h
  ·have := List.eq_of_mem_replicate h; lia
  ·simp at h; lia
theorem mk_ws {L : List Nat} {b : Nat} (h : ∀ c ∈ L, c ≤ 6) (hl : L.length = 6) (hb : b < 4) : mkWs [.d (S (wsT L b))] = some (wsOf (str (wsT L b))) := by
 show (if decide ((str (wsT L b)).length ≤ 900) && PyData.strOk (str (wsT L b)) then some (wsOf (str (wsT L b))) else none) = _
 rw [if_pos]
 rw [strOk_S (wsT_ok L b), Bool.and_true, decide_eq_true]
 have := wsT_len h hl hb
 show (wsT L b).length ≤ 900
 exact wk ‹_› rfl
structure DotsOk (L : List Nat) : Prop where
 len : L.length = 6
 each : ∀ c ∈ L, 1 ≤ c ∧ c ≤ 6
 cl : (cntOf L).length = topN L + 1
 cf : (cntOf (lessL L)).length = topN L
 top : 1 ≤ topN L ∧ topN L ≤ 6
 wl : ∀ x ∈ cntOf L, 0 ≤ x ∧ x ≤ 1000
 wf : ∀ x ∈ cntOf (lessL L), 0 ≤ x ∧ x ≤ 1000
 il : ∀ s, 1 ≤ s → s ≤ 7 → indI (cntOf L) 0 6 s = (colTo L s 6 : Int)
 jf : ∀ s, 1 ≤ s → s ≤ 7 → indI (cntOf (lessL L)) 0 6 s = (colTo (lessL L) s 6 : Int)
 more : ∀ s, 1 ≤ s → s ≤ 7 → colTo L s 6 = colTo (lessL L) s 6 + s * hitN L s
 small : ∀ s, 1 ≤ s → s ≤ 7 → colTo L s 6 < 100 ∧ 0 < colTo L s 6
 tree : ∀ b, b < 4 → treesTo L (hits L ((if b > topN L then b else topN L) + 1)) 7 = mulN L
 prod : mulN L ≤ 46656
theorem dotsOk_of {L : List Nat} (h : okDots L = true) : DotsOk L := by
 delta okDots at h
 simp only [Bool.and_eq_true, decide_eq_true_eq, List.all_eq_true] at h
 obtain ⟨⟨⟨⟨⟨⟨⟨⟨⟨⟨h1, h2⟩, h3⟩, h4⟩, h5⟩, h6⟩, h7⟩, h8⟩, h9⟩, h10⟩, h11⟩ := h
 have sz : ∀ s, 1 ≤ s → s ≤ 7 → okSize L s = true := fun s a b => by
  have := h9 (s - 1) (List.mem_range.mpr (by exact s1L ‹_› ‹_›))
  rwa [show 1 + (s - 1) = s by exact adS ‹_›] at this
 delta okSize at sz
 simp only [Bool.and_eq_true, decide_eq_true_eq] at sz
 have c1 : ∀ {c : List Int}, okCnt c = true → ∀ x ∈ c, 0 ≤ x ∧ x ≤ 1000 := fun {c} h x hx => by
  delta okCnt at h
  simp only [Bool.and_eq_true, decide_eq_true_eq, List.all_eq_true] at h
  exact h.2 x hx
 refine ⟨h1, h2, h3, h4, ⟨h5, h6⟩, c1 h7, c1 h8, fun s a b => (sz s a b).1.1.1.1, fun s a b => (sz s a b).1.1.1.2, fun s a b => (sz s a b).1.1.2, fun s a b => ⟨(sz s a b).1.2, (sz s a b).2⟩, fun b hb => ?_, h11⟩
 have := h10 b (List.mem_range.mpr hb)
 unfold okBlank at this
 exact of_decide_eq_true this
theorem two' {b : Nat} (h : b < 2) : ∃ i : Fin 2, b = i := ⟨⟨b, h⟩, rfl⟩
theorem bits_six {r : List Slot} (hok : ∀ s ∈ r, s.Ok) (hr : r.length = 8) (h0 : (sl r 0).b = 0) (h7 : (sl r 7).b = 1) : ∃ b1 b2 b3 b4 b5 b6 : Fin 2, bitsR r = slots6 b1 b2 b3 b4 b5 b6 := by
 obtain ⟨a0, a1, a2, a3, a4, a5, a6, a7, rfl⟩ := eight hr
 have H : ∀ k, k < 8 → (sl [a0, a1, a2, a3, a4, a5, a6, a7] k).b < 2 := fun k hk => (sl_ok hok (k := k) hk).b
 obtain ⟨i1, e1⟩ := two' (H 1 (by decide)); obtain ⟨i2, e2⟩ := two' (H 2 (by decide)); obtain ⟨i3, e3⟩ := two' (H 3 (by decide))
 obtain ⟨i4, e4⟩ := two' (H 4 (by decide)); obtain ⟨i5, e5⟩ := two' (H 5 (by decide)); obtain ⟨i6, e6⟩ := two' (H 6 (by decide))
 refine ⟨i1, i2, i3, i4, i5, i6, ?_⟩
 have f0 : a0.b = 0 := h0
 have f7 : a7.b = 1 := h7
 have f1 : a1.b = i1 := e1
 have f2 : a2.b = i2 := e2
 have f3 : a3.b = i3 := e3
 have f4 : a4.b = i4 := e4
 have f5 : a5.b = i5 := e5
 have f6 : a6.b = i6 := e6
 show [(⟨0, a0.b, 0⟩ : Slot), ⟨0, a1.b, 0⟩, ⟨0, a2.b, 0⟩, ⟨0, a3.b, 0⟩, ⟨0, a4.b, 0⟩, ⟨0, a5.b, 0⟩, ⟨0, a6.b, 0⟩, ⟨0, a7.b, 0⟩] = [_, _, _, _, _, _, _, _]
 rw [f0, f1, f2, f3, f4, f5, f6, f7]
theorem dots_ok {r : List Slot} (hok : ∀ s ∈ r, s.Ok) (hr : r.length = 8) (h0 : (sl r 0).b = 0) (h7 : (sl r 7).b = 1) : DotsOk (dotsR r) := by
 obtain ⟨b1, b2, b3, b4, b5, b6, e⟩ := bits_six hok hr h0 h7
 rw [← dots_bits, e]
 exact dotsOk_of (okDots_all b1 b2 b3 b4 b5 b6)
end
section
noncomputable def flatD (k : Nat) (p : PyData) : Prop := p.canLay0 = true ∧ p.depth ≤ k
theorem flat_int (i : Int) : flatD 0 (.int i) := ⟨rfl, Nat.le_refl _⟩
theorem flat_S {a : List Nat} (h : okL a) : flatD 0 (S a) := ⟨strOk_S h, Nat.le_refl _⟩
theorem flat_all : ∀ {l : List PyData} {k : Nat}, (∀ p ∈ l, flatD k p) → PyData.canLayAll0 l = true ∧ PyData.depthAll l ≤ k
 | [], k, _ => ⟨rfl, Nat.zero_le _⟩
 | p :: l, k, h => by
  have a := h p (.head _)
  have b := flat_all fun q hq => h q (.tail _ hq)
  refine ⟨?_, ?_⟩
  ·show (p.canLay0 && PyData.canLayAll0 l) = true
   rw [a.1, b.1]; rfl
  ·show max p.depth (PyData.depthAll l) ≤ k
   exact Nat.max_le.mpr ⟨a.2, b.2⟩
theorem flat_list {l : List PyData} {k : Nat} (h : ∀ p ∈ l, flatD k p) : flatD (k + 1) (.list l) := ⟨(flat_all h).1, Nat.succ_le_succ (flat_all h).2⟩
theorem flat_tuple {l : List PyData} {k : Nat} (h : ∀ p ∈ l, flatD k p) : flatD (k + 1) (.tuple l) := ⟨(flat_all h).1, Nat.succ_le_succ (flat_all h).2⟩
theorem flat_up {k m : Nat} {p : PyData} (h : flatD k p) (hm : k ≤ m) : flatD m p := ⟨h.1, Nat.le_trans h.2 hm⟩
theorem ne_same {a : PyData} {k : Nat} (h : flatD k a) (hk : k ≤ 64) : cmpD .NotEq a a = some false := by
 show (if SeqAt.shaped a && SeqAt.shaped a then some (!PyData.eqv a a) else none) = _
 have s : SeqAt.shaped a = true := by
  delta SeqAt.shaped
  rw [h.1, Bool.true_and, decide_eq_true_eq]
  exact Nat.le_trans h.2 hk
 rw [s, Bool.and_true, if_pos rfl, SeqAt.eqv_refl a h.1]; rfl
theorem flat_tri (a b c : Int) : flatD 1 (.tuple [.int a, .int b, .int c]) := flat_tuple (k := 0) fun p hp => by
 rcases List.mem_cons.mp hp with rfl | hp
 ·exact flat_int _
 ·rcases List.mem_cons.mp hp with rfl | hp
  ·exact flat_int _
  ·exact (List.mem_singleton.mp hp) ▸ (flat_int _)
theorem flat_pair {a : Int} {l : List Nat} (h : okL l) : flatD 1 (.tuple [.int a, S l]) := flat_tuple (k := 0) fun p hp => by
 rcases List.mem_cons.mp hp with rfl | hp
 ·exact flat_int _
 ·exact (List.mem_singleton.mp hp) ▸ (flat_S h)
noncomputable def tri (a b c : Nat) : PyData := .tuple [.int a, .int b, .int c]
noncomputable def colB (L : List Nat) (s b : Nat) : Nat := colTo L s 6 + b
noncomputable def sizesN (L : List Nat) (b : Nat) : Nat := (if b > topN L then b else topN L) + 1
noncomputable def unlikeL (L : List Nat) (b i : Nat) : List PyData := ((List.range i).filter fun j => decide (hitN L (1 + j) ≠ 0)).map fun j => tri (1 + j) (colB (lessL L) (1 + j) b) (colB L (1 + j) b)
noncomputable def alikeL (L : List Nat) (b i : Nat) : List PyData := ((List.range i).filter fun j => !decide (hitN L (1 + j) ≠ 0)).map fun j => tri (1 + j) (colB (lessL L) (1 + j) b) (colB L (1 + j) b)
noncomputable def everyL (L : List Nat) (b i : Nat) : List PyData := (List.range i).map fun j => tri (1 + j) (colB L (1 + j) b) 0
noncomputable def turnedL (L : List Nat) (b i : Nat) : List PyData := (List.range i).map fun j => tri (1 + j) 0 (colB L (1 + j) b)
theorem sizes_le {L : List Nat} {b : Nat} (h : DotsOk L) (hb : b < 4) : 2 ≤ sizesN L b ∧ sizesN L b ≤ 7 := by
 have := h.top
 delta sizesN
 split <;> lia
theorem witD_is {f g : Nat → Int} {p q : Nat → Bool} {u v : Nat → Nat} {N : Nat} (hp : ∀ i, i < N → p (1 + i) = q i) (hf : ∀ i, i < N → f (1 + i) = u (1 + i)) (hg : ∀ i, i < N → g (1 + i) = v (1 + i)) :
  witD f g p N = ((List.range N).filter q).map fun j => tri (1 + j) (u (1 + j)) (v (1 + j)) := by
 delta witD
 have e : (List.range N).filter (fun i => p (1 + i)) = (List.range N).filter q := List.filter_congr fun i hi => hp i (List.mem_range.mp hi)
 rw [e]
 refine List.map_congr_left fun i hi => ?_
 have hi := List.mem_range.mp (List.mem_filter.mp hi).1
 show PyData.tuple _ = PyData.tuple _
 rw [hf i hi, hg i hi]
theorem indI_b (cnt : List Int) (b s : Nat) : indI cnt b 6 s = indI cnt 0 6 s + b := by delta indI; lia
theorem indI_nil (s : Nat) : indI [] 0 0 s = 0 := by
 delta indI ilI
 rw [show ([] : List Int).length - s = 0 from Nat.zero_sub s]
 show (0 : Int) + s * ((0 : Int) + 0) = 0
 simp
section
variable {L : List Nat} {b : Nat} {raw raw' : Str} {n n' : Int} {sm sm' : Bool}
theorem len_less (L : List Nat) : (lessL L).length = L.length := List.length_map _
theorem indL (h : DotsOk L) (hb : b < 4) {i : Nat} (hi : i < sizesN L b) : indI (cntOf L) b 6 (1 + i) = (colB L (1 + i) b : Int) := by
 have := sizes_le h hb
 rw [indI_b, h.il _ (by exact Nat.le_add_right _ _) (by lia)]; rfl
theorem indF (h : DotsOk L) (hb : b < 4) {i : Nat} (hi : i < sizesN L b) : indI (cntOf (lessL L)) b 6 (1 + i) = (colB (lessL L) (1 + i) b : Int) := by
 have := sizes_le h hb
 rw [indI_b, h.jf _ (by exact Nat.le_add_right _ _) (by lia)]; rfl
theorem more_b (h : DotsOk L) (hb : b < 4) {i : Nat} (hi : i < sizesN L b) : colB L (1 + i) b = colB (lessL L) (1 + i) b + (1 + i) * hitN L (1 + i) := by
 have := sizes_le h hb
 delta colB
 rw [h.more _ (by exact Nat.le_add_right _ _) (by lia)]; exact Nat.add_right_comm _ _ _
theorem cols_pos (h : DotsOk L) (hb : b < 4) {i : Nat} (hi : i < sizesN L b) : 0 < colB L (1 + i) b := by
 have := sizes_le h hb
 have := (h.small (1 + i) (by exact Nat.le_add_right _ _) (by lia)).2
 delta colB; lia
theorem wok_L (h : DotsOk L) : WOk (cntOf L) 6 := ⟨by have := h.cl; have := h.top; lia, h.wl, by decide⟩
theorem wok_F (h : DotsOk L) : WOk (cntOf (lessL L)) 6 := ⟨by have := h.cf; have := h.top; lia, h.wf, by decide⟩
theorem wok_0 : WOk [] 0 := ⟨by decide, fun x hx => (nomatch hx), by decide⟩
theorem longL (h : DotsOk L) : longI (cntOf L) b + 1 = (sizesN L b : Int) := by
 delta longI sizesN
 rw [h.cl]
 split <;> split <;> lia
theorem longF (h : DotsOk L) : longI (cntOf (lessL L)) b ≤ longI (cntOf L) b := by
 delta longI
 rw [h.cl, h.cf]
 split <;> split <;> lia
theorem long0 (h : DotsOk L) : longI [] 0 ≤ longI (cntOf L) b := by
 have := h.top
 delta longI
 rw [h.cl]
 show (if (0 : Int) > 0 - 1 then (0 : Int) else 0 - 1) ≤ _
 rw [if_pos (by decide)]
 split <;> lia
theorem hit_iff (h : DotsOk L) (hb : b < 4) {i : Nat} (hi : i < sizesN L b) : (colB (lessL L) (1 + i) b < colB L (1 + i) b ↔ hitN L (1 + i) ≠ 0) ∧ colB (lessL L) (1 + i) b ≤ colB L (1 + i) b := by
 have e := more_b h hb hi
 generalize hitN L (1 + i) = z at *
 generalize colB L (1 + i) b = x at *
 generalize colB (lessL L) (1 + i) b = y at *
 subst e
 refine ⟨⟨fun q e => ?_, fun q => ?_⟩, Nat.le_add_right _ _⟩
 ·subst e; exact absurd ‹_› (Nat.lt_irrefl _)
 ·have : 1 ≤ (1 + i) * z := Nat.mul_pos (by exact Nat.le_add_right _ _) (by exact Nat.pos_of_ne_zero ‹_›)
  exact Nat.lt_add_of_pos_right ‹_›
theorem w_unlike (h : DotsOk L) (hb : b < 4) : runFn T6 d_unequal.1.1 d_unequal.1.2.1 d_unequal.1.2.2 ["a"] [] [.w raw n 6 (cntOf (lessL L)) b sm, .w raw' n' 6 (cntOf L) b sm'] = some (.d (.list (unlikeL L b (sizesN L b)))) := by
 have z := sizes_le h hb
 have f := longF (b := b) h
 have l := longL (b := b) h
 refine (r_unequal (wok_F h) (wok_L h) (N := sizesN L b) (by split <;> lia) (by lia)).trans ?_
 congr 3
 refine witD_is (u := fun s => colB (lessL L) s b) (v := fun s => colB L s b) (fun i hi => ?_) (fun i hi => indF h hb hi) (fun i hi => indL h hb hi)
 rw [indF h hb hi, indL h hb hi]
 apply decide_eq_decide.mpr
 have := hit_iff h hb hi
 exact csU ‹_›
theorem w_alike (h : DotsOk L) (hb : b < 4) : runFn T7 d_unless.1.1 d_unless.1.2.1 d_unless.1.2.2 ["a"] [] [.w raw n 6 (cntOf (lessL L)) b sm, .w raw' n' 6 (cntOf L) b sm'] = some (.d (.list (alikeL L b (sizesN L b)))) := by
 have z := sizes_le h hb
 have f := longF (b := b) h
 have l := longL (b := b) h
 refine (r_unless (wok_F h) (wok_L h) (N := sizesN L b) (by split <;> lia) (by lia)).trans ?_
 congr 3
 refine witD_is (u := fun s => colB (lessL L) s b) (v := fun s => colB L s b) (fun i hi => ?_) (fun i hi => indF h hb hi) (fun i hi => indL h hb hi)
 rw [indF h hb hi, indL h hb hi, ← decide_not]
 apply decide_eq_decide.mpr
 have := hit_iff h hb hi
 exact csA ‹_›
theorem filt_true {N : Nat} {q : Nat → Bool} (h : ∀ i, i < N → q i = true) : (List.range N).filter q = List.range N := List.filter_eq_self.mpr fun i hi => h i (List.mem_range.mp hi)
theorem w_every (h : DotsOk L) (hb : b < 4) : runFn T6 d_unequal.1.1 d_unequal.1.2.1 d_unequal.1.2.2 ["a"] [] [.w raw n 6 (cntOf L) b sm, .w raw' n' 0 [] 0 sm'] = some (.d (.list (everyL L b (sizesN L b)))) := by
 have z := sizes_le h hb
 have f := long0 (b := b) h
 have l := longL (b := b) h
 refine (r_unequal (wok_L h) wok_0 (N := sizesN L b) (by split <;> omega) (by lia)).trans ?_
 congr 3
 refine (witD_is (q := fun _ => true) (u := fun s => colB L s b) (v := fun s => 0) (fun i hi => ?_) (fun i hi => indL h hb hi) (fun i hi => indI_nil _)).trans ?_
 ·rw [indL h hb hi, indI_nil]
  have := cols_pos h hb hi
  exact decide_eq_true (by lia)
 ·rw [filt_true fun _ _ => rfl]; rfl
theorem w_every2 (h : DotsOk L) (hb : b < 4) : runFn T7 d_unless.1.1 d_unless.1.2.1 d_unless.1.2.2 ["a"] [] [.w raw n 6 (cntOf L) b sm, .w raw' n' 0 [] 0 sm'] = some (.d (.list (everyL L b (sizesN L b)))) := by
 have z := sizes_le h hb
 have f := long0 (b := b) h
 have l := longL (b := b) h
 refine (r_unless (wok_L h) wok_0 (N := sizesN L b) (by split <;> omega) (by lia)).trans ?_
 congr 3
 refine (witD_is (q := fun _ => true) (u := fun s => colB L s b) (v := fun s => 0) (fun i hi => ?_) (fun i hi => indL h hb hi) (fun i hi => indI_nil _)).trans ?_
 ·rw [indL h hb hi, indI_nil]
  have := cols_pos h hb hi
  exact decide_eq_true (by exact Int.natCast_nonneg _)
 ·rw [filt_true fun _ _ => rfl]; rfl
theorem w_turned (h : DotsOk L) (hb : b < 4) : runFn T6 d_unequal.1.1 d_unequal.1.2.1 d_unequal.1.2.2 ["a"] [] [.w raw n 0 [] 0 sm, .w raw' n' 6 (cntOf L) b sm'] = some (.d (.list (turnedL L b (sizesN L b)))) := by
 have z := sizes_le h hb
 have f := long0 (b := b) h
 have l := longL (b := b) h
 refine (r_unequal wok_0 (wok_L h) (N := sizesN L b) (by split <;> lia) (by lia)).trans ?_
 congr 3
 refine (witD_is (q := fun _ => true) (u := fun s => 0) (v := fun s => colB L s b) (fun i hi => ?_) (fun i hi => indI_nil _) (fun i hi => indL h hb hi)).trans ?_
 ·rw [indL h hb hi, indI_nil]
  have := cols_pos h hb hi
  exact decide_eq_true (by lia)
 ·rw [filt_true fun _ _ => rfl]; rfl
end
end
section
set_option maxHeartbeats 4000000
noncomputable abbrev fnL : Fn := ⟨T18, fun y => d_law.1.2.2.names.lookup y, ["unlike", "alike", "every"], []⟩
noncomputable abbrev bodyL : List Stmt := d_law.1.2.1
noncomputable def lawEnd : Fl → St → Prop := fun f _ => f = .ret (.d (.bool true))
structure SD (r : List Slot) (L : List Nat) (b : Nat) (σ : Sig) : Prop where
 ro : σ "row" = some (.d (rowD r))
 pa : σ "parts" = some (.d (.list ((pts r 0).map S)))
 se : ∃ raw n sm, σ "sent" = some (.w raw n 6 (cntOf L) b sm)
 ke : ∃ raw n sm, σ "kept" = some (.w raw n 6 (cntOf (lessL L)) b sm)
 un : σ "unlike" = some (.d (.list (unlikeL L b (sizesN L b))))
 al : σ "alike" = some (.d (.list (alikeL L b (sizesN L b))))
 ev : σ "every" = some (.d (.list (everyL L b (sizesN L b))))
theorem flat_tris {l : List Nat} {f g h : Nat → Nat} : flatD 2 (.list (l.map fun j => tri (f j) (g j) (h j))) := flat_list (k := 1) fun p hp => by
 obtain ⟨j, _, rfl⟩ := List.mem_map.mp hp
 exact flat_tri _ _ _
theorem prime_pos (n : Nat) : 1 ≤ primeN n := by
 delta primeN
 rw [List.getD_eq_getElem?_getD]
 match n with
 | 0 | 1 | 2 | 3 | 4 | 5 | 6 | 7 | 8 | 9 | 10 => decide
 | n + 11 => exact Nat.le_refl _
theorem prime_le (n : Nat) : primeN n ≤ 7 := by
 delta primeN
 rw [List.getD_eq_getElem?_getD]
 match n with
 | 0 | 1 | 2 | 3 | 4 | 5 | 6 | 7 | 8 | 9 | 10 => decide
 | n + 11 => show 1 ≤ 7; decide
theorem trees_succ {L W : List Nat} {i j : Nat} (h : W[i]? = some j) : treesTo L W (i + 1) = treesTo L W i * primeN (1 + j) ^ hitN L (1 + j) := by
 delta treesTo
 rw [List.take_add_one, h, List.foldl_append]; rfl
theorem trees_mono (L W : List Nat) : ∀ i, treesTo L W i ≤ treesTo L W (i + 1) := fun i => by
 cases h : W[i]? with
 | none =>
  delta treesTo
  rw [List.take_add_one, h]
  show _ ≤ List.foldl _ 1 (W.take i ++ [])
  rw [List.append_nil]; exact Nat.le_refl _
 | some j =>
  rw [trees_succ h]
  exact Nat.le_mul_of_pos_right _ (Nat.pow_pos (prime_pos _))
theorem trees_up (L W : List Nat) (i : Nat) : ∀ k, treesTo L W i ≤ treesTo L W (i + k)
 | 0 => Nat.le_refl _
 | k + 1 => Nat.le_trans (trees_up L W i k) (trees_mono L W (i + k))
theorem hits_len (L : List Nat) (N : Nat) : (hits L N).length ≤ N := by
 have := List.length_filter_le (fun i => decide (hitN L (1 + i) ≠ 0)) (List.range N)
 rw [List.length_range] at this; exact this
theorem trees_all (L W : List Nat) {m : Nat} (h : W.length ≤ m) : treesTo L W W.length = treesTo L W m := by
 delta treesTo
 rw [List.take_length, List.take_of_length_le h]
theorem hit_le (L : List Nat) (s : Nat) : hitN L s ≤ L.length := List.length_filter_le _ _
theorem pow_N {p k : Nat} (hp : p ≤ 7) (hk : k ≤ 6) : binD .Pow (.int p) (.int k) = some (.int ((p ^ k : Nat) : Int)) := by
 show (if decide (0 ≤ (k : Int)) && decide ((k : Int) ≤ 1000) && decide ((p : Int).natAbs < 2 ^ 62) then some (PyData.int ((p : Int) ^ (k : Int).toNat)) else none) = _
 rw [decide_eq_true (by exact Int.natCast_nonneg _ : 0 ≤ (k : Int)), decide_eq_true (by lia : (k : Int) ≤ 1000), decide_eq_true (by rw [Int.natAbs_natCast]; exact Nat.lt_of_le_of_lt ‹_› (by decide)), Int.toNat_natCast]
 show some (PyData.int _) = _
 rw [Int.natCast_pow]
theorem aug_mul {a b : Nat} (h1 : a < 2 ^ 62) (h2 : b < 2 ^ 62) : augD .Mult (.int a) (.int b) = some (.int ((a * b : Nat) : Int)) := by
 show (if decide ((a : Int).natAbs < 2 ^ 62) && decide ((b : Int).natAbs < 2 ^ 62) then some (PyData.int ((a : Int) * b)) else none) = _
 rw [Int.natAbs_natCast, Int.natAbs_natCast, decide_eq_true h1, decide_eq_true h2]
 show some (PyData.int _) = _
 rw [Int.natCast_mul]
inductive TS (r : List Slot) (L W : List Nat) (i : Nat) : St → Prop
 | mk {σ : Sig} (ro : σ "row" = some (.d (rowD r))) (pa : σ "parts" = some (.d (.list ((pts r 0).map S)))) (tr : σ "trees" = some (.d (.int (treesTo L W i)))) : TS r L W i ⟨σ, [("every" : Str), ("alike" : Str), ("unlike" : Str)]⟩
noncomputable def turn (p : PyData) : PyData := match p with
 | .tuple [a, b, c] => .tuple [a, c, b]
 | p => p
theorem turned_is (L : List Nat) (b i : Nat) : (everyL L b i).map turn = turnedL L b i := by
 delta everyL turnedL
 exact List.map_map
theorem ws_empty : T18.fn "Whitespace" [.d (.str "")] = some (.w "" 0 0 [] 0 true) := by kernel_rfl
theorem seg_D {r : List Slot} {L : List Nat} {b : Nat} {σ : Sig} (hok : ∀ s ∈ r, s.Ok) (hr : r.length = 8) (hL : DotsOk L) (hb : b < 4) (h : SD r L b σ)
  (htr : runFn T17 d_trees.1.1 d_trees.1.2.1 d_trees.1.2.2 [] ["grid"] [.d (.list (joinsTo r 8))] = some (.d (.int (mulN L)))) :
  Run 43 fnL (bodyL.drop 17) ⟨σ, ["every", "alike", "unlike"]⟩ lawEnd := by
 obtain ⟨hro, hpa, ⟨raw, n, sm, hse⟩, ⟨raw', n', sm', hke⟩, hun, hal, hev⟩ := h
 have z := sizes_le hL hb
 have W1 := w_unlike (raw := raw') (n := n') (sm := sm') (raw' := raw) (n' := n) (sm' := sm) hL hb
 have W2 := w_alike (raw := raw') (n := n') (sm := sm') (raw' := raw) (n' := n) (sm' := sm) hL hb
 have W3 := w_every (raw := raw) (n := n) (sm := sm) (raw' := "") (n' := 0) (sm' := true) hL hb
 have W4 := w_every2 (raw := raw) (n := n) (sm := sm) (raw' := "") (n' := 0) (sm' := true) hL hb
 have W5 := w_turned (raw := "") (n := 0) (sm := true) (raw' := raw) (n' := n) (sm' := sm) hL hb
 have F1 : flatD 2 (.list (unlikeL L b (sizesN L b))) := flat_tris
 have F2 : flatD 2 (.list (alikeL L b (sizesN L b))) := flat_tris
 have F3 : flatD 2 (.list (everyL L b (sizesN L b))) := flat_tris (h := fun _ => 0)
 have F4 : flatD 2 (.list (turnedL L b (sizesN L b))) := flat_tris (g := fun _ => 0)
 have NE : ∀ {a : PyData}, flatD 2 a → cmpD .NotEq a a = some false := fun h => ne_same h (by decide)
 refine rCons (sAsg rfl rfl (nWMeth rfl (by decide) (by decide) (nName rfl hke) (xCons (nName rfl hse) xNil) W1)) ?_
 refine rIfF (tBool (bOrF (tCmp (oName rfl rfl) (oOwn rfl hun) (NE F1)) (bOrF (tCmp (oE rfl (nWMeth rfl (by decide) (by decide) (nName rfl hke) (xCons (nName rfl hse) xNil) W2)) (oOwn rfl hal) (NE F2)) bNil))) ?_
 refine rNil (aNext ?_)
 refine rCons (sAsg rfl rfl (nFn rfl rfl (by decide) (fun _ => rfl) (xCons (nConst rfl) xNil) ws_empty)) ?_
 refine rIfF (tBool (bOrF (tCmp (oE rfl (nWMeth rfl (by decide) (by decide) (nName rfl hse) (xCons (nName rfl rfl) xNil) W3)) (oOwn rfl hev) (NE F3)) (bOrF (tCmp (oE rfl (nWMeth rfl (by decide) (by decide) (nName rfl hse) (xCons (nName rfl rfl) xNil) W4)) (oOwn rfl hev) (NE F3)) bNil))) ?_
 refine rNil (aNext ?_)
 refine rIfF (tCmp (oE rfl (nWMeth rfl (by decide) (by decide) (nName rfl rfl) (xCons (nName rfl hse) xNil) W5)) (oE rfl (nComp (ecomp_of (items := everyL L b (sizesN L b)) rfl (iO rfl (oOwn rfl hev) rfl) (short_of (by unfold everyL; rw [List.length_map, List.length_range]; lia)) ((compL_map (f := turn) _ fun p hp => ?_).trans (by rw [turned_is]))))) (NE F4)) ?_
 ·obtain ⟨j, _, rfl⟩ := List.mem_map.mp hp
  exact ⟨_, rfl, cNone, eltOf (nTuple (eCons (nName rfl rfl) (eCons (nName rfl rfl) (eCons (nName rfl rfl) eNil))) rfl)⟩
 refine rNil (aNext ?_)
 refine rCons (sAsg rfl rfl (nConst rfl)) ?_
 have ul : (unlikeL L b (sizesN L b)) = (hits L (sizesN L b)).map fun j => tri (1 + j) (colB (lessL L) (1 + j) b) (colB L (1 + j) b) := rfl
 have hlen := hits_len L (sizesN L b)
 have tfin : treesTo L (hits L (sizesN L b)) 7 = mulN L := hL.tree b hb
 have tle : ∀ i, treesTo L (hits L (sizesN L b)) i ≤ 46656 := fun i => by
  by_cases q : i ≤ 7
  ·have := trees_up L (hits L (sizesN L b)) i (7 - i)
   rw [show i + (7 - i) = 7 by exact adS ‹_›, tfin] at this
   exact Nat.le_trans this hL.prod
  ·have := trees_up L (hits L (sizesN L b)) 7 (i - 7)
   rw [show 7 + (i - 7) = i by exact adM ‹_›] at this
   have e1 := trees_all L (hits L (sizesN L b)) (m := i) (by lia)
   have e2 := trees_all L (hits L (sizesN L b)) (m := 7) (by lia)
   have := hL.prod
   lia
 refine rForName (I := TS r L (hits L (sizesN L b))) (items := unlikeL L b (sizesN L b)) (iE rfl (nName rfl rfl) rfl) ⟨hro, hpa, rfl⟩ (fun i p Z hp h => ?_) fun Z h => ?_
 ·obtain @⟨τ, kro, kpa, ktr⟩ := h
  rw [ul, List.getElem?_map] at hp
  cases hj : (hits L (sizesN L b))[i]? with
  | none => rw [hj] at hp; cases hp
  | some j =>
   rw [hj] at hp
   obtain rfl := sm_ hp
   have jm := List.mem_of_getElem? hj
   have jl : j < sizesN L b := List.mem_range.mp (List.mem_filter.mp jm).1
   have mo := more_b hL hb jl
   have step := trees_succ (L := L) hj
   have t0 := tle i
   have t1 := tle (i + 1)
   have hl := hit_le L (1 + j)
   rw [hL.len] at hl
   have pp := Nat.pow_le_pow_left (prime_le (1 + j)) (hitN L (1 + j))
   have pq := Nat.pow_le_pow_right (n := 7) (by decide) hl
   have sub : binD .Sub (.int (colB L (1 + j) b)) (.int (colB (lessL L) (1 + j) b)) = some (.int (((1 + j) * hitN L (1 + j) : Nat) : Int)) := congrArg (fun z => some (PyData.int z)) (by
    generalize (1 + j) * hitN L (1 + j) = z at *
    lia)
   have dv : binD .FloorDiv (.int (((1 + j) * hitN L (1 + j) : Nat) : Int)) (.int ((1 + j : Nat) : Int)) = some (.int (hitN L (1 + j))) := (div_N (by lia) (by lia)).trans (by rw [Nat.mul_div_cancel_left _ (by exact Nat.le_add_right _ _)])
   refine ⟨_, rfl, ?_⟩
   refine rCons (sAug rfl ktr (nBin (oE rfl (nFn rfl rfl (by decide) (fun _ => rfl) (xCons (nName rfl rfl) xNil) (r_prime (1 + j) (by lia)))) (oE rfl (nBin (oE rfl (nBin (oName rfl rfl) (oName rfl rfl) sub)) (oName rfl rfl) dv)) (pow_N (prime_le _) hl)) (aug_mul (by exact Nat.lt_of_le_of_lt ‹_› (by decide)) (by exact pwL ‹_› ‹_›))) ?_
   refine rNil ⟨kro, kpa, ?_⟩
   exact step ▸ rfl
 ·obtain @⟨τ, kro, kpa, ktr⟩ := h
  have e : treesTo L (hits L (sizesN L b)) (unlikeL L b (sizesN L b)).length = mulN L := by
   rw [ul, List.length_map, trees_all L _ (m := 7) (by lia)]
   exact tfin
  rw [e] at ktr
  have kj := joints_law (r := r) hok hr
  exact rRet (oE rfl (nCmp (oE rfl (nFn rfl rfl (by decide) (fun _ => rfl) (xCons (nFn rfl rfl (by decide) (fun _ => rfl) (xCons (nName rfl kpa) (xCons (nName rfl kro) xNil)) kj) xNil) htr)) (oName rfl ktr) ((eq_I _ _).trans (congrArg some (decide_eq_true rfl))))) rfl
end
section
set_option maxHeartbeats 4000000
theorem ints_of : ∀ (l : List Nat), intsOf (natsL l) = some (l.map fun (x : Nat) => (x : Int))
 | [] => rfl
 | x :: l => by
  show (intsOf (natsL l)).map ((x : Int) :: ·) = _
  rw [ints_of l]; rfl
theorem maxL_is : ∀ (l : List Nat) (m : Nat), Mine.maxL (l.map fun (x : Nat) => (x : Int)) (m : Int) = ((l.foldl (fun a b => if b > a then b else a) m : Nat) : Int)
 | [], m => rfl
 | x :: l, m => by
  show Mine.maxL (l.map _) (if (m : Int) < x then (x : Int) else m) = _
  rw [show (if (m : Int) < x then (x : Int) else m) = ((if x > m then x else m : Nat) : Int) by split <;> split <;> lia, maxL_is l]; rfl
theorem max_N {L : List Nat} {b : Nat} (h : L ≠ []) : builtD "max" [.list (natsL L ++ [.int b])] = some (.int (((if b > topN L then b else topN L) : Nat) : Int)) := by
 cases L with
 | nil => exact absurd rfl h
 | cons x L =>
  show (intsOf (natsL (x :: L) ++ natsL [b])).bind maxOf = _
  rw [show natsL (x :: L) ++ natsL [b] = natsL (x :: (L ++ [b])) by unfold natsL; rw [← List.map_append]; rfl, ints_of]
  show some (PyData.int (Mine.maxL ((L ++ [b]).map fun (x : Nat) => (x : Int)) (x : Int))) = _
  rw [maxL_is, List.foldl_append]
  have e : topN (x :: L) = L.foldl (fun a b => if b > a then b else a) x := by
   unfold topN
   show L.foldl _ (if x > 0 then x else 0) = _
   rw [show (if x > 0 then x else 0) = x by split <;> lia]
  rw [e]; rfl
theorem comp_nats {L : List Nat} {f : Nat → PyData} {bnd : PyData → Option Sig} {tests : Sig → Option Bool} {elt : Sig → Option PyData} (h : ∀ x ∈ L, ∃ τ, bnd (.int (x : Nat)) = some τ ∧ tests τ = some true ∧ elt τ = some (f x)) : compL bnd tests elt (natsL L) = some (L.map f) := by
 refine (compL_map (f := fun p => match p with | .int k => f k.toNat | p => p) _ fun p hp => ?_).trans ?_
 ·obtain ⟨x, hx, rfl⟩ := List.mem_map.mp hp
  obtain ⟨τ, a, b, c⟩ := h x hx
  exact ⟨τ, a, b, by rw [c]; rfl⟩
 ·unfold natsL
  rw [List.map_map]; rfl
noncomputable def hitP (s : Nat) (p : PyData) : Bool := match p with
 | .int k => decide (k.toNat % s = 0)
 | _ => false
theorem hit_filter (L : List Nat) (s : Nat) : ((natsL L).filter (hitP s)).map (fun p => p) = natsL (L.filter fun c => decide (c % s = 0)) := by
 rw [List.map_id']
 unfold natsL
 rw [List.filter_map]; rfl
theorem ne_nil (X : List Nat) : cmpD .NotEq (.list (natsL X)) (.list []) = some (decide (X.length ≠ 0)) := by
 have f : flatD 1 (.list (natsL X)) := flat_list (k := 0) fun p hp => by
  obtain ⟨j, _, rfl⟩ := List.mem_map.mp hp
  exact flat_int _
 show (if SeqAt.shaped (.list (natsL X)) && SeqAt.shaped (.list []) then some (!PyData.eqv (.list (natsL X)) (.list [])) else none) = _
 have s : SeqAt.shaped (.list (natsL X)) = true := by
  unfold SeqAt.shaped
  rw [f.1, Bool.true_and, decide_eq_true_eq]
  exact Nat.le_trans f.2 (by decide)
 rw [s]
 show some (!PyData.eqv (.list (natsL X)) (.list [])) = _
 cases X <;> rfl
structure SC (r : List Slot) (L : List Nat) (b : Nat) (σ : Sig) : Prop where
 ro : σ "row" = some (.d (rowD r))
 pa : σ "parts" = some (.d (.list ((pts r 0).map S)))
 dt : σ "dots" = some (.d (.list (natsL L)))
 fe : σ "fewer" = some (.d (.list (natsL (lessL L))))
 bl : σ "blanks" = some (.d (.int b))
inductive CI (r : List Slot) (L : List Nat) (b : Nat) (x y : X) (i : Nat) : St → Prop
 | mk {σ : Sig} (sc : SC r L b σ) (se : σ "sent" = some x) (ke : σ "kept" = some y) (un : σ "unlike" = some (.d (.list (unlikeL L b i)))) (al : σ "alike" = some (.d (.list (alikeL L b i)))) (ev : σ "every" = some (.d (.list (everyL L b i)))) : CI r L b x y i ⟨σ, [("every" : Str), ("alike" : Str), ("unlike" : Str)]⟩
theorem hits_succ {q : Nat → Bool} {f : Nat → PyData} {i : Nat} : ((List.range (i + 1)).filter q).map f = if q i then ((List.range i).filter q).map f ++ [f i] else ((List.range i).filter q).map f := by
 rw [List.range_succ, List.filter_append, List.map_append]
 cases h : q i
 ·rw [show [i].filter q = [] by simp [h]]
  simp
 ·rw [show [i].filter q = [i] by simp [h]]; rfl
theorem hits_small {q : Nat → Bool} {f : Nat → PyData} {i : Nat} : (((List.range i).filter q).map f).length ≤ i := by
 rw [List.length_map]
 have := List.length_filter_le q (List.range i)
 rw [List.length_range] at this; exact this
theorem join_runs {L : List Nat} {b : Nat} (h : ∀ c ∈ L, c ≤ 6) (hl : L.length = 6) (hb : b < 4) : methD ⟨#[]⟩ "join" [.list ((L.map fun c => List.replicate c 32 ++ [9]).map S)] = some (S (runsT L)) := by
 have := runsT_len L h
 refine (join_S (by rw [List.length_map]; lia) ?_).trans ?_
 ·show (L.map _).flatten.length ≤ _
  rw [← List.flatMap_def]
  show (runsT L).length ≤ _
  lia
 ·rw [← List.flatMap_def]; rfl
theorem seg_C {r : List Slot} {L : List Nat} {b : Nat} {σ : Sig} (hok : ∀ s ∈ r, s.Ok) (hr : r.length = 8) (hL : DotsOk L) (hb : b < 4) (h : SC r L b σ)
  (htr : runFn T17 d_trees.1.1 d_trees.1.2.1 d_trees.1.2.2 [] ["grid"] [.d (.list (joinsTo r 8))] = some (.d (.int (mulN L)))) :
  Run 49 fnL (bodyL.drop 11) ⟨σ, []⟩ lawEnd := by
 obtain ⟨hro, hpa, hdt, hfe, hbl⟩ := h
 have z := sizes_le hL hb
 have each : ∀ c ∈ L, c ≤ 6 := fun c hc => (hL.each c hc).2
 have eachF : ∀ c ∈ lessL L, c ≤ 6 := fun c hc => by
  obtain ⟨d, hd, rfl⟩ := List.mem_map.mp hc
  have := each d hd
  exact wkS ‹_› rfl
 have lenF : (lessL L).length = 6 := (len_less L).trans hL.len
 obtain ⟨m1, E1⟩ := wsOf_runs L b
 obtain ⟨m2, E2⟩ := wsOf_runs (lessL L) b
 rw [hL.len] at E1
 rw [lenF] at E2
 have l1 : (runsT L).length ≤ 42 := by have := runsT_len L each; rw [hL.len] at this; exact this
 have l2 : (runsT (lessL L)).length ≤ 42 := by have := runsT_len (lessL L) eachF; rw [lenF] at this; exact this
 have K1 := (mk_ws each hL.len hb).trans (congrArg some E1)
 have K2 := (mk_ws eachF lenF hb).trans (congrArg some E2)
 have spaces : ∀ x ≤ 6, binD .Mult (S [32]) (.int (x : Nat)) = some (S (List.replicate x 32)) := fun x hx => dots_S (c := 32) (by exact wk ‹_› rfl)
 have J1 := join_runs each hL.len hb
 have J2 := join_runs eachF lenF hb
 have A1 : ∀ {M : List Nat}, (runsT M).length ≤ 42 → binD .Add (S (runsT M)) (S (List.replicate b 32)) = some (S (runsT M ++ List.replicate b 32)) := fun h => add_S (by rw [List.length_replicate]; lia)
 have A2 : ∀ {M : List Nat}, (runsT M).length ≤ 42 → binD .Add (S (runsT M ++ List.replicate b 32)) (S [120, 9]) = some (S (wsT M b)) := fun {M} h => (add_S (b := [120, 9]) (by rw [List.length_append, List.length_replicate]; show _ + 2 ≤ _; lia)).trans (by unfold wsT; rw [List.append_assoc])
 have lm : ∀ (M : List Nat), (natsL M).length = M.length := fun M => List.length_map _
 refine rCons (sAsg rfl rfl (nFn rfl rfl (by decide) (fun _ => rfl) (xCons (nBin (oE rfl (nBin (oE rfl (nMeth rfl (by decide) (nConst rfl) (oCons (oE rfl (nComp (ecomp_of (items := natsL L) rfl (iO rfl (oName rfl hdt) rfl) (short_of (by rw [lm, hL.len]; decide)) ((comp_nats (f := fun c => S (List.replicate c 32 ++ [9])) fun x hx => ?_).trans (by rw [List.map_map]; rfl))))) oNil) J1)) (oE rfl (nBin (oE rfl (nConst rfl)) (oName rfl hbl) (spaces b (by exact wk (Nat.le_of_lt ‹_›) rfl)))) (A1 (by assumption)))) (oE rfl (nConst rfl)) (A2 (by assumption))) xNil) K1)) ?_
 ·have hx6 := each x hx
  exact ⟨_, rfl, cNone, eltOf (nBin (oE rfl (nBin (oE rfl (nConst rfl)) (oName rfl rfl) (spaces x hx6))) (oE rfl (nConst rfl)) (add_S (b := [9]) (by rw [List.length_replicate]; show _ + 1 ≤ _; exact Nat.lt_of_le_of_lt ‹_› (by decide))))⟩
 refine rCons (sAsg rfl rfl (nFn rfl rfl (by decide) (fun _ => rfl) (xCons (nBin (oE rfl (nBin (oE rfl (nMeth rfl (by decide) (nConst rfl) (oCons (oE rfl (nComp (ecomp_of (items := natsL (lessL L)) rfl (iO rfl (oName rfl hfe) rfl) (short_of (by rw [lm, lenF]; decide)) ((comp_nats (f := fun c => S (List.replicate c 32 ++ [9])) fun x hx => ?_).trans (by rw [List.map_map]; rfl))))) oNil) J2)) (oE rfl (nBin (oE rfl (nConst rfl)) (oName rfl hbl) (spaces b (by exact wk (Nat.le_of_lt ‹_›) rfl)))) (A1 (by assumption)))) (oE rfl (nConst rfl)) (A2 (by assumption))) xNil) K2)) ?_
 ·have hx6 := eachF x hx
  exact ⟨_, rfl, cNone, eltOf (nBin (oE rfl (nBin (oE rfl (nConst rfl)) (oName rfl rfl) (spaces x hx6))) (oE rfl (nConst rfl)) (add_S (b := [9]) (by rw [List.length_replicate]; show _ + 1 ≤ _; exact Nat.lt_of_le_of_lt ‹_› (by decide))))⟩
 refine rCons (sOwn rfl rfl rfl (nList eNil rfl)) ?_
 refine rCons (sOwn rfl rfl rfl (nList eNil rfl)) ?_
 refine rCons (sOwn rfl rfl rfl (nList eNil rfl)) ?_
 have top := hL.top
 have Lne : L ≠ [] := fun e => by have := hL.len; rw [e] at this; cases this
 refine rFor (I := CI r L b (.w (str (wsT L b)) m1 6 (cntOf L) b (decide ((cntOf L).length ≤ 1))) (.w (str (wsT (lessL L) b)) m2 6 (cntOf (lessL L)) b (decide ((cntOf (lessL L)).length ≤ 1)))) rfl (iRange rfl (eCons (nConst rfl) (eCons (nBin (oE rfl (nBuilt rfl rfl (by decide) (oCons (oE rfl (nBin (oName rfl hdt) (oE rfl (nList (eCons (nName rfl hbl) eNil) rfl)) (add_L (by rw [lm, hL.len]; show 6 + 1 ≤ 1048576; decide)))) oNil) (max_N Lne))) (oE rfl (nConst rfl)) (show binD .Add (.int (((if b > topN L then b else topN L) : Nat) : Int)) (.int 2) = some (.int ((sizesN L b + 1 : Nat) : Int)) from rfl)) eNil)) (rangeD_NN (a := 1) (b := sizesN L b + 1) (by decide) (by lia))) ⟨⟨hro, hpa, hdt, hfe, hbl⟩, rfl, rfl, rfl, rfl, rfl⟩ (fun i p Z hp h => ?_) fun Z h => ?_
 ·obtain ⟨hi, rfl⟩ := rangeM_get hp
  rw [Nat.add_sub_cancel] at hi
  obtain @⟨τ, ⟨kro, kpa, kdt, kfe, kbl⟩, kse, kke, kun, kal, kev⟩ := h
  have C1 := r_column L (1 + i) b (by exact Nat.le_add_right _ _) (by lia) (by rw [hL.len]; decide) (fun x hx => Nat.le_trans (each x hx) (by decide)) (by exact wk (Nat.le_of_lt ‹_›) rfl)
  have C2 := r_column (lessL L) (1 + i) b (by exact Nat.le_add_right _ _) (by lia) (by rw [lenF]; decide) (fun x hx => Nat.le_trans (eachF x hx) (by decide)) (by exact wk (Nat.le_of_lt ‹_›) rfl)
  rw [hL.len] at C1
  rw [lenF] at C2
  have tr : PyData.tuple [.int ((1 + i : Nat) : Int), .int ((colTo (lessL L) (1 + i) 6 + b : Nat) : Int), .int ((colTo L (1 + i) 6 + b : Nat) : Int)] = tri (1 + i) (colB (lessL L) (1 + i) b) (colB L (1 + i) b) := rfl
  refine ⟨_, rfl, ?_⟩
  refine rCons (sAsg rfl rfl (nTuple (eCons (nName rfl rfl) (eCons (nFn rfl rfl (by decide) (fun _ => rfl) (xCons (nName rfl kfe) (xCons (nName rfl rfl) (xCons (nName rfl kbl) xNil))) C2) (eCons (nFn rfl rfl (by decide) (fun _ => rfl) (xCons (nName rfl kdt) (xCons (nName rfl rfl) (xCons (nName rfl kbl) xNil))) C1) eNil))) rfl)) ?_
  have evl : (everyL L b i).length ≤ 7 := by unfold everyL; rw [List.length_map, List.length_range]; lia
  have unl : (unlikeL L b i).length ≤ 7 := Nat.le_trans hits_small (by lia)
  have all : (alikeL L b i).length ≤ 7 := Nat.le_trans hits_small (by lia)
  refine rCons (sAppend rfl rfl kev (nTuple (eCons (nName rfl rfl) (eCons (nSub rfl (oName rfl rfl) (nConst rfl) (sub_T (k := 2) (by decide) rfl)) (eCons (nConst rfl) eNil))) rfl) (short_of (by exact wk ‹_› rfl))) ?_
  have evs : everyL L b (i + 1) = everyL L b i ++ [.tuple [.int ((1 + i : Nat) : Int), .int ((colTo L (1 + i) 6 + b : Nat) : Int), .int 0]] := by
   unfold everyL
   rw [List.range_succ, List.map_append]; rfl
  have uns : unlikeL L b (i + 1) = _ := hits_succ
  have als : alikeL L b (i + 1) = _ := hits_succ
  have hc := hit_filter L (1 + i)
  by_cases ht : hitN L (1 + i) ≠ 0
  ·refine rIfT (tCmp (oE rfl (nComp (ecomp_of (items := natsL L) rfl (iO rfl (oName rfl kdt) rfl) (short_of (by rw [lm, hL.len]; decide)) ((compL_all (g := hitP (1 + i)) (f := fun p => p) _ fun p hp => ?_).trans (congrArg some hc))))) (oE rfl (nList eNil rfl)) ((ne_nil _).trans (congrArg some (decide_eq_true ht)))) ?_
   ·obtain ⟨x, hx, rfl⟩ := List.mem_map.mp hp
    refine ⟨_, rfl, cOne (tCmp (oE rfl (nBin (oName rfl rfl) (oName rfl rfl) (mod_N (by lia) (by lia)))) (oE rfl (nConst rfl)) ((eq_I _ _).trans (congrArg some (decide_eq_decide.mpr ?_)))), fun _ => eltOf (nName rfl rfl)⟩
    rw [Int.toNat_natCast]
    lia
   refine rCons (sAppend rfl rfl kun (nName rfl rfl) (short_of (by exact wk ‹_› rfl))) ?_
   refine rNil (aNext (rNil ⟨⟨kro, kpa, kdt, kfe, kbl⟩, kse, kke, ?_, ?_, by rw [evs]; rfl⟩))
   ·rw [uns, if_pos (decide_eq_true ht)]; rfl
   ·rw [als, if_neg (by rw [decide_eq_true ht]; decide)]; exact kal
  ·refine rIfF (tCmp (oE rfl (nComp (ecomp_of (items := natsL L) rfl (iO rfl (oName rfl kdt) rfl) (short_of (by rw [lm, hL.len]; decide)) ((compL_all (g := hitP (1 + i)) (f := fun p => p) _ fun p hp => ?_).trans (congrArg some hc))))) (oE rfl (nList eNil rfl)) ((ne_nil _).trans (congrArg some (decide_eq_false ht)))) ?_
   ·obtain ⟨x, hx, rfl⟩ := List.mem_map.mp hp
    refine ⟨_, rfl, cOne (tCmp (oE rfl (nBin (oName rfl rfl) (oName rfl rfl) (mod_N (by lia) (by lia)))) (oE rfl (nConst rfl)) ((eq_I _ _).trans (congrArg some (decide_eq_decide.mpr ?_)))), fun _ => eltOf (nName rfl rfl)⟩
    rw [Int.toNat_natCast]
    lia
   refine rCons (sAppend rfl rfl kal (nName rfl rfl) (short_of (by exact wk ‹_› rfl))) ?_
   refine rNil (aNext (rNil ⟨⟨kro, kpa, kdt, kfe, kbl⟩, kse, kke, ?_, ?_, by rw [evs]; rfl⟩))
   ·rw [uns, if_neg (by rw [decide_eq_false ht]; decide)]; exact kun
   ·rw [als, if_pos (by rw [decide_eq_false ht]; rfl)]; rfl
 ·obtain @⟨τ, ⟨kro, kpa, kdt, kfe, kbl⟩, kse, kke, kun, kal, kev⟩ := h
  rw [List.length_map, List.length_range, Nat.add_sub_cancel] at kun kal kev
  exact seg_D hok hr hL hb ⟨kro, kpa, ⟨_, _, _, kse⟩, ⟨_, _, _, kke⟩, kun, kal, kev⟩ htr
end
section
set_option maxHeartbeats 4000000
structure SB (r : List Slot) (σ : Sig) : Prop where
 ro : σ "row" = some (.d (rowD r))
 pa : σ "parts" = some (.d (.list ((pts r 0).map S)))
 ma : σ "mails" = some (.d (.list [S (dueA r 6), S (dueB r 6)]))
noncomputable def boxes (r : List Slot) : List (Nat × Nat) := dAL r 6 ++ dBL r 6
theorem split_M {X : List Nat} {W : List (List Nat)} (h : Txt.split (str X) (str [13, 10]) = W.map str) (hl : X.length ≤ 1048576) : methD (str X) "split" [S [13, 10]] = some (.list (W.map S)) := by
 show (if short (str X).length && short (str [13, 10]).length then (if ("split" : Str) = "startswith" then _ else if ("split" : Str) = "endswith" then _ else if ("split" : Str) = "lstrip" then _ else if ("split" : Str) = "split" then (if (str [13, 10]).length = 0 then none else some (PyData.list ((Txt.split (str X) (str [13, 10])).map .str))) else none) else none) = _
 rw [short_of (n := (str X).length) hl, short_of (n := (str [13, 10]).length) (by decide), Bool.and_true, if_pos rfl, if_neg (by decide), if_neg (by decide), if_neg (by decide), if_pos rfl, if_neg (by decide), h, List.map_map]
 rfl
theorem lstrip_M {X : List Nat} (hl : X.length ≤ 1048576) : methD (str X) "lstrip" [S [46]] = some (S (X.drop (X.takeWhile fun c => decide (c = 46)).length)) := by
 show (if short (str X).length && short (str [46]).length then (if ("lstrip" : Str) = "startswith" then _ else if ("lstrip" : Str) = "endswith" then _ else if ("lstrip" : Str) = "lstrip" then some (PyData.str (Txt.lstripChars (str X) (str [46]))) else _) else none) = _
 rw [short_of (n := (str X).length) hl, short_of (n := (str [46]).length) (by decide), Bool.and_true, if_pos rfl, if_neg (by decide), if_neg (by decide), if_pos rfl, lstrip_L]
 rfl
noncomputable def dotG (p : PyData) : Bool := match p with
 | .str y => isDot y.cps.toList
 | _ => false
noncomputable def dotF (p : PyData) : PyData := match p with
 | .str y => .int ((y.cps.toList.takeWhile fun c => decide (c = 46)).length : Nat)
 | p => p
theorem dotG_all (W : List (List Nat)) : ((W.map S).filter dotG).map (fun p => p) = (W.filter isDot).map S := by
 rw [List.map_id', List.filter_map]; rfl
theorem rows_ok {L : List (Nat × Nat)} : ∀ w ∈ L.flatMap rowsOf ++ [[]], okL w := by
 intro w hw c hc
 rcases List.mem_append.mp hw with h | h
 ·obtain ⟨q, _, h⟩ := List.mem_flatMap.mp h
  have rep : c ∈ List.replicate (1 + q.1) 46 → c < 1114112 := fun z => by rw [List.eq_of_mem_replicate z]; decide
  unfold rowsOf at h
  split at h
  ·rw [List.mem_singleton.mp h] at hc; exact rep hc
  ·split at h
   ·rw [List.mem_singleton.mp h] at hc
    rcases List.mem_append.mp hc with hc | hc
    ·exact rep hc
    ·simp at hc; lia
   ·simp only [List.mem_cons, List.not_mem_nil, or_false] at h
    rcases h with h | h | h | h | h <;> rw [h] at hc
    ·rcases List.mem_append.mp hc with hc | hc
     ·exact rep hc
     ·simp at hc; lia
    ·cases hc
    ·cases hc
    ·cases hc
    ·simp at hc; lia
 ·rw [List.mem_singleton.mp h] at hc; cases hc
theorem rowsOf_len (q : Nat × Nat) : (rowsOf q).length ≤ 5 := by
 unfold rowsOf
 split
 ·show 1 ≤ 5; decide
 ·split
  ·show 1 ≤ 5; decide
  ·exact Nat.le_refl _
theorem rows_len (L : List (Nat × Nat)) : (L.flatMap rowsOf).length ≤ 5 * L.length := by
 induction L with
 | nil => exact Nat.le_refl _
 | cons q r ih =>
  rw [List.flatMap_cons, List.length_append, List.length_cons (a := q)]
  have := rowsOf_len q
  lia
theorem rows_each {L : List (Nat × Nat)} (h : ∀ q ∈ L, q.1 ≤ 10) : ∀ w ∈ L.flatMap rowsOf ++ [[]], w.length ≤ 20 := by
 intro w hw
 rcases List.mem_append.mp hw with hw | hw
 ·obtain ⟨q, hq, hw⟩ := List.mem_flatMap.mp hw
  have := h q hq
  unfold rowsOf at hw
  split at hw
  ·rw [List.mem_singleton.mp hw, List.length_replicate]; exact adc' ‹_› rfl
  ·split at hw
   ·rw [List.mem_singleton.mp hw, List.length_append, List.length_replicate]; show _ + 2 ≤ _; lia
   ·simp only [List.mem_cons, List.not_mem_nil, or_false] at hw
    rcases hw with hw | hw | hw | hw | hw <;> rw [hw]
    ·rw [List.length_append, List.length_replicate]; show _ + 1 ≤ _; lia
    ·exact Nat.zero_le _
    ·exact Nat.zero_le _
    ·exact Nat.zero_le _
    ·show 2 ≤ 20; decide
 ·rw [List.mem_singleton.mp hw]; exact Nat.zero_le _
theorem sum_N : ∀ (l : List Nat), (l.map fun (x : Nat) => (x : Int)).sum = (l.sum : Nat)
 | [] => rfl
 | x :: l => by
  rw [List.map_cons, List.sum_cons, List.sum_cons, sum_N l]; rfl
theorem sum_D (l : List Nat) : builtD "sum" [.list (natsL l)] = some (.int (l.sum : Nat)) := by
 show (intsOf (natsL l)).map (fun ns => PyData.int ns.sum) = _
 rw [ints_of, ← sum_N l]; rfl
noncomputable def dropF (p : PyData) : PyData := match p with
 | .tuple [_, _, c] => c
 | p => p
theorem drops_is (r : List Slot) : (r.map slotD).map dropF = natsL (r.map fun s => s.w) := by
 unfold natsL
 rw [List.map_map, List.map_map]; rfl
theorem seg_B {r : List Slot} {σ : Sig} (hok : ∀ s ∈ r, s.Ok) (hr : r.length = 8) (h : SB r σ) (hL : DotsOk (dotsR r))
  (htr : runFn T17 d_trees.1.1 d_trees.1.2.1 d_trees.1.2.2 [] ["grid"] [.d (.list (joinsTo r 8))] = some (.d (.int (mulN (dotsR r))))) :
  Run 54 fnL (bodyL.drop 6) ⟨σ, []⟩ lawEnd := by
 obtain ⟨hro, hpa, hma⟩ := h
 have la := dueA_len r 6
 have lb := dueB_len r 6 (by decide)
 have ws := blocks_same hok hr
 have w9 : ∀ q ∈ boxes r, q.2 < 9 := fun q hq => by
  rcases List.mem_append.mp hq with h | h
  ·rw [← ws.1] at h; exact AL_w hok hr 6 (Nat.le_refl _) q h
  ·rw [← ws.2] at h; exact BL_w hok hr 6 (Nat.le_refl _) q h
 have len6 : (boxes r).length = 6 := by have := hL.len; unfold dotsR at this; rw [List.length_map] at this; exact this
 have ne : boxes r ≠ [] := fun e => by rw [e] at len6; cases len6
 have q10 : ∀ q ∈ boxes r, q.1 ≤ 10 := fun q hq => by
  have := (hL.each (1 + q.1) (List.mem_map.mpr ⟨q, hq, rfl⟩)).2
  lia
 have ab : dueA r 6 ++ dueB r 6 = (boxes r).flatMap blk := by unfold boxes; rw [dueA_blks, dueB_blks, List.flatMap_append]
 have abl : ((boxes r).flatMap blk).length ≤ 360 := by rw [← ab, List.length_append]; exact ad2 ‹_› ‹_› rfl
 have ADD : binD .Add (S (dueA r 6)) (S (dueB r 6)) = some (S ((boxes r).flatMap blk)) := (add_S (by exact ad2 ‹_› ‹_› rfl)).trans (by rw [ab])
 have fx := r_fixeols (l := (boxes r).flatMap blk) (by exact wk ‹_› rfl)
 rw [fix_blks _ w9] at fx
 have fl : ((boxes r).flatMap fblk).length ≤ 720 := by
  have := fixL_len ((boxes r).flatMap blk) false
  rw [fix_blks _ w9] at this; lia
 have sp := split_M (split_rows ne) (by exact wk ‹_› rfl)
 have rl := rows_len (boxes r)
 have dg := dotG_all ((boxes r).flatMap rowsOf ++ [[]])
 rw [rows_filter] at dg
 have ok := rows_ok (L := boxes r)
 have each := rows_each q10
 refine rCons (sComp rfl rfl rfl (ecomp_of (items := ((boxes r).flatMap rowsOf ++ [[]]).map S) rfl (iO rfl (oE rfl (nMeth rfl (by decide) (nFn rfl rfl (by decide) (fun _ => rfl) (xCons (nBin (oSub rfl (nSub rfl (oName rfl hma) (nConst rfl) (sub_L (k := 0) (by decide) rfl))) (oSub rfl (nSub rfl (oName rfl hma) (nConst rfl) (sub_L (k := 1) (by decide) rfl))) ADD) xNil) fx) (oCons (oE rfl (nConst rfl)) oNil) sp)) rfl) (short_of (by rw [List.length_map, List.length_append]; show _ + 1 ≤ _; lia)) ((compL_all (g := dotG) (f := fun p => p) _ fun p hp => ?_).trans (congrArg some dg)))) ?_
 ·obtain ⟨x, hx, rfl⟩ := List.mem_map.mp hp
  have := each x hx
  exact ⟨_, rfl, cOne (tCmp (oSub rfl (nSlice (oName rfl rfl) pNone (pSome (k := 1) (nConst rfl) rfl (by decide)) ((slice_S (by exact wk ‹_› rfl)).trans (by rw [cut_take])))) (oE rfl (nConst rfl)) (eq_S (b := [46]) (okL_take (ok x hx) 1) (okL_one (by decide)))), fun _ => eltOf (nName rfl rfl)⟩
 have fe : ((boxes r).map firstRow).map S = ((boxes r).map firstRow).map S := rfl
 have dd : (((boxes r).map firstRow).map S).map dotF = natsL (dotsR r) := by
  unfold natsL dotsR
  rw [List.map_map, List.map_map, List.map_map]
  refine List.map_congr_left fun q hq => ?_
  show PyData.int (((firstRow q).takeWhile fun c => decide (c = 46)).length : Nat) = PyData.int ((1 + q.1 : Nat) : Int)
  rw [first_dots]
 refine rCons (sComp rfl rfl rfl (ecomp_of (items := ((boxes r).map firstRow).map S) rfl (iO rfl (oName rfl rfl) rfl) (short_of (by rw [List.length_map, List.length_map, len6]; decide)) ((compL_map (f := dotF) _ fun p hp => ?_).trans (congrArg some dd)))) ?_
 ·obtain ⟨x, hx, rfl⟩ := List.mem_map.mp hp
  obtain ⟨q, hq, e⟩ := List.mem_map.mp hx
  have xl : x.length ≤ 20 := by rw [← e]; have := (first_len q).2; have := q10 q hq; lia
  have tw := (List.takeWhile_prefix (p := fun c => decide (c = 46)) (l := x)).length_le
  refine ⟨_, rfl, cNone, eltOf (nBin (oE rfl (nBuilt rfl rfl (by decide) (oCons (oName rfl rfl) oNil) (len_S (by exact wk ‹_› rfl)))) (oE rfl (nBuilt rfl rfl (by decide) (oCons (oE rfl (nMeth rfl (by decide) (nName rfl rfl) (oCons (oE rfl (nConst rfl)) oNil) (lstrip_M (by exact wk ‹_› rfl)))) oNil) (len_S (by rw [List.length_drop]; exact wkS ‹_› rfl)))) ?_)⟩
  show some (PyData.int ((x.length : Int) - ((x.drop _).length : Nat))) = some (PyData.int _)
  rw [List.length_drop]
  congr 2
  show _ = (((x.takeWhile fun c => decide (c = 46)).length : Nat) : Int)
  exact zT ‹_›
 have d0 : ∃ d, (natsL (dotsR r))[0]? = some (.int (d : Nat)) ∧ 1 ≤ d ∧ d ≤ 6 := by
  have l6 := hL.len
  cases q : dotsR r with
  | nil => rw [q] at l6; cases l6
  | cons d t => exact ⟨d, rfl, hL.each d (q ▸ (.head _))⟩
 obtain ⟨d, hd, d1, d6⟩ := d0
 have Q := r_quotedata (l := List.replicate d 46) (by rw [List.length_replicate]; exact wk ‹_› rfl)
 rw [quote_dots d1] at Q
 have F : flatD 0 (S (List.replicate (d + 1) 46)) := flat_S fun c hc => by rw [List.eq_of_mem_replicate hc]; decide
 refine rIfF (tCmp (oE rfl (nFn rfl rfl (by decide) (fun _ => rfl) (xCons (nBin (oE rfl (nConst rfl)) (oSub rfl (nSub rfl (oName rfl rfl) (nConst rfl) (sub_L (k := 0) (by decide) hd))) (dots_S (c := 46) (by exact wk ‹_› rfl))) xNil) Q)) (oE rfl (nBin (oE rfl (nConst rfl)) (oE rfl (nBin (oSub rfl (nSub rfl (oName rfl rfl) (nConst rfl) (sub_L (k := 0) (by decide) hd))) (oE rfl (nConst rfl)) (show binD .Add (.int (d : Nat)) (.int 1) = some (.int ((d + 1 : Nat) : Int)) from rfl))) (dots_S (c := 46) (by exact Nat.lt_of_le_of_lt ‹_› (by decide))))) (ne_same F (by decide))) ?_
 refine rNil (aNext ?_)
 have lm : (natsL (dotsR r)).length = 6 := by unfold natsL; rw [List.length_map]; exact hL.len
 have fw : (dotsR r).map (fun x => PyData.int ((x - 1 : Nat) : Int)) = natsL (lessL (dotsR r)) := by unfold natsL lessL; rw [List.map_map]; rfl
 refine rCons (sComp rfl rfl rfl (ecomp_of (items := natsL (dotsR r)) rfl (iO rfl (oName rfl rfl) rfl) (short_of (by lia)) ((comp_nats (f := fun x => .int ((x - 1 : Nat) : Int)) fun x hx => ?_).trans (congrArg some fw)))) ?_
 ·have := (hL.each x hx).1
  exact ⟨_, rfl, cNone, eltOf (nBin (oName rfl rfl) (oE rfl (nConst rfl)) (show some (PyData.int ((x : Int) - 1)) = some (PyData.int ((x - 1 : Nat) : Int)) by congr 2; exact zS ‹_›))⟩
 refine rCons (sAsg rfl rfl (nBin (oE rfl (nBuilt rfl rfl (by decide) (oCons (oE rfl (nComp (ecomp_of (items := r.map slotD) rfl (iO rfl (oName rfl hro) rfl) (short_of (by rw [List.length_map, hr]; decide)) ((compL_map (f := dropF) _ fun p hp => ?_).trans (congrArg some (drops_is r)))))) oNil) (sum_D _))) (oE rfl (nConst rfl)) (mod_N (b := 4) (by decide) (by decide)))) ?_
 ·obtain ⟨s, hs, rfl⟩ := List.mem_map.mp hp
  exact ⟨_, rfl, cNone, eltOf (nSub rfl (oName rfl rfl) (nConst rfl) (sub_T (k := 2) (by decide) rfl))⟩
 exact seg_C hok hr hL (Nat.mod_lt _ (by decide)) ⟨hro, hpa, rfl, rfl, rfl⟩ htr
end
section
set_option maxHeartbeats 4000000
noncomputable def rowOf (l : List Int) : List Slot := ⟨0, 0, 0⟩ :: ((List.range 6).map (slotOf l) ++ [⟨0, 1, 0⟩])
theorem rowOf_len (l : List Int) : (rowOf l).length = 8 := rfl
theorem rowOf_ok (l : List Int) : ∀ s ∈ rowOf l, s.Ok := fun s hs => by
 rcases List.mem_cons.mp hs with rfl | hs
 ·exact ⟨by decide, by decide, by decide⟩
 ·rcases List.mem_append.mp hs with hs | hs
  ·obtain ⟨k, _, rfl⟩ := List.mem_map.mp hs
   exact slotOf_ok l k
  ·exact (List.mem_singleton.mp hs) ▸ (⟨by decide, by decide, by decide⟩)
theorem rowOf_D (l : List Int) : PyData.list (rowL l 6 ++ [slotD ⟨0, 1, 0⟩]) = rowD (rowOf l) := rfl
noncomputable def partF (r : List Slot) (p : PyData) : PyData := match p with
 | .int k => S (partAt (sl r k.toNat) k.toNat)
 | p => p
theorem parts_is {r : List Slot} (hr : r.length = 8) : (natsD 8).map (partF r) = (pts r 0).map S := by
 obtain ⟨a0, a1, a2, a3, a4, a5, a6, a7, rfl⟩ := eight hr
 rfl
noncomputable def brG (p : PyData) : Bool := match p with
 | .tuple [_, .str y] => brU y.cps.toList
 | _ => false
noncomputable def brF (p : PyData) : PyData := match p with
 | .tuple [_, y] => y
 | p => p
theorem units_map : ∀ (L : List (List Nat)), ∃ c : Nat → Int, unitsTo L L.length = (List.range L.length).map fun j => .tuple [.int (c j), S (L.getD j [])] := fun L => ⟨fun j => plc L (j + 1), rfl⟩
theorem range_getD {α : Type} (d : α) : ∀ (L : List α), (List.range L.length).map (fun j => L.getD j d) = L
 | [] => rfl
 | x :: L => by
  rw [List.length_cons, List.range_succ_eq_map, List.map_cons, List.map_map]
  show x :: (List.range L.length).map (fun j => L.getD j d) = _
  rw [range_getD d L]
theorem told_is (L : List (List Nat)) : ((unitsTo L L.length).filter brG).map brF = (L.filter brU).map S := by
 have e : (unitsTo L L.length).filter brG = ((List.range L.length).filter fun j => brU (L.getD j [])).map fun j => .tuple [.int (plc L (j + 1)), S (L.getD j [])] := by
  delta unitsTo
  exact List.filter_map
 have f : L.filter brU = ((List.range L.length).filter fun j => brU (L.getD j [])).map fun j => L.getD j [] := by
  conv => lhs; rw [← range_getD [] L]
  exact List.filter_map
 rw [e, f, List.map_map, List.map_map]; rfl
theorem unit_ok {r : List Slot} (hok : ∀ s ∈ r, s.Ok) (hr : r.length = 8) : ∀ u ∈ allUnits r, okL u := by
 intro u hu c hc
 delta allUnits at hu
 rcases List.mem_append.mp hu with h | h
 ·delta shownTo at h
  obtain ⟨k, hk, h⟩ := List.mem_flatMap.mp h
  have hk := List.mem_range.mp hk
  delta shownAt at h
  rcases List.mem_append.mp h with h | h
  ·split at h
   ·rw [List.mem_singleton.mp h] at hc; exact thing_ok _ c hc
   ·cases h
  ·have b := (sl_ok hok (k := k) (by lia)).b
   have b : (r.getD k ⟨0, 0, 0⟩).b < 2 := b
   simp only [List.mem_cons, List.not_mem_nil, or_false] at h
   rcases h with rfl | rfl
   ·have := List.mem_singleton.mp hc; lia
   ·have := List.mem_singleton.mp hc; lia
 ·simp only [List.mem_cons, List.not_mem_nil, or_false] at h
  rcases h with rfl | rfl | rfl <;> (have := List.mem_singleton.mp hc; lia)
theorem units_ok {r : List Slot} (hok : ∀ s ∈ r, s.Ok) (hr : r.length = 8) {p : PyData} (hp : p ∈ unitsTo (allUnits r) (allUnits r).length) : ∃ (i : Int) (u : List Nat), p = .tuple [.int i, S u] ∧ okL u := by
 unfold unitsTo at hp
 obtain ⟨j, hj, rfl⟩ := List.mem_map.mp hp
 have hj := List.mem_range.mp hj
 refine ⟨_, _, rfl, unit_ok hok hr _ ?_⟩
 rw [List.getD_eq_getElem?_getD, List.getElem?_eq_getElem hj]
 exact List.getElem_mem hj
theorem shaped_flat {a : PyData} {k : Nat} (h : flatD k a) (hk : k ≤ 64) : SeqAt.shaped a = true := by
 unfold SeqAt.shaped
 rw [h.1, Bool.true_and, decide_eq_true_eq]
 exact Nat.le_trans h.2 hk
theorem in_br {u : List Nat} (h : okL u) : cmpD .In (S u) (.tuple [S [40], S [41]]) = some (brU u) := by
 show (if SeqAt.shaped (S u) && SeqAt.shaped (.tuple [S [40], S [41]]) then some ([S [40], S [41]].any fun y => PyData.eqv y (S u)) else none) = _
 rw [shaped_S h, shaped_flat (flat_tuple (k := 0) (l := [S [40], S [41]]) fun p hp => by
  rcases List.mem_cons.mp hp with rfl | hp
  ·exact flat_S (okL_one (by decide))
  ·rw [List.mem_singleton.mp hp]; exact flat_S (okL_one (by decide))) (by decide)]
 show some (PyData.eqv (S [40]) (S u) || (PyData.eqv (S [41]) (S u) || false)) = _
 rw [eqv_S, eqv_S, Bool.or_false]
 delta brU
 congr 2 <;> exact decide_eq_decide.mpr ⟨Eq.symm, Eq.symm⟩
theorem units_len {r : List Slot} : (allUnits r).length ≤ 30 := by
 delta allUnits
 rw [List.length_append]
 have := shown_len r 8
 show _ + 3 ≤ 30
 exact adc ‹_› rfl
theorem text_ok {r : List Slot} (hok : ∀ s ∈ r, s.Ok) : ∀ (k : Nat), k + r.length ≤ 100 → okL (textFrom r k) := by
 induction r with
 | nil => intro k _ c hc; cases hc
 | cons s r ih =>
  intro k hk c hc
  rw [List.length_cons] at hk
  unfold textFrom at hc
  rcases List.mem_append.mp hc with hc | hc
  ·unfold partAt at hc
   have b := (hok s (.head _)).b
   rcases List.mem_append.mp hc with hc | hc
   ·rcases List.mem_append.mp hc with hc | hc
    ·exact thing_ok _ c hc
    ·have := List.mem_singleton.mp hc; lia
   ·have := List.mem_singleton.mp hc; lia
  ·exact ih (fun x hx => hok x (.tail _ hx)) (k + 1) (by lia) c hc
theorem esc_mem_ok {a : List Nat} (h : okL a) : okL a := h
theorem kept_ok {r : List Slot} (hok : ∀ s ∈ r, s.Ok) : ∀ (k : Nat), k + r.length ≤ 100 → okL (keptFrom r k) ∧ (keptFrom r k).length ≤ 7 * r.length := by
 induction r with
 | nil => intro k _; exact ⟨fun c hc => (nomatch hc), Nat.le_refl _⟩
 | cons s r ih =>
  intro k hk
  rw [List.length_cons] at hk
  obtain ⟨i1, i2⟩ := ih (fun x hx => hok x (.tail _ hx)) (k + 1) (by lia)
  have b := (hok s (.head _)).b
  have tl := thing_len s.t
  unfold keptFrom keptAt
  refine ⟨fun c hc => ?_, ?_⟩
  ·rcases List.mem_append.mp hc with hc | hc
   ·rcases List.mem_append.mp hc with hc | hc
    ·split at hc
     ·exact thing_ok _ c hc
     ·cases hc
    ·simp only [List.mem_cons, List.not_mem_nil, or_false] at hc; lia
   ·exact i1 c hc
  ·rw [List.length_append, List.length_append, List.length_cons (a := s)]
   have : (if (thing s.t).take 1 = [92] then thing s.t else []).length ≤ 5 := by
    split
    ·exact tl
    ·exact Nat.zero_le _
   show _ + 2 + _ ≤ _
   lia
theorem tail_ok (w : Nat) (b : Bool) : okL (tailL w b) := by
 have get : ∀ (L : List (List Nat)) (i : Nat), (∀ x ∈ L, okL x) → okL (L.getD i []) := fun L i h c hc => by
  rw [List.getD_eq_getElem?_getD] at hc
  cases q : L[i]? with
  | none => rw [q] at hc; cases hc
  | some x => rw [q] at hc; exact h x (List.mem_of_getElem? q) c hc
 have all : ∀ (L : List (List Nat)), (L.all fun x => x.all fun c => decide (c < 1114112)) = true → ∀ x ∈ L, okL x := fun L h x hx c hc => by
  have := List.all_eq_true.mp (List.all_eq_true.mp h x hx) c hc
  exact of_decide_eq_true this
 intro c hc
 delta tailL at hc
 split at hc
 ·rcases List.mem_append.mp hc with hc | hc
  ·exact get _ _ (all _ (by decide)) c hc
  ·exact all [[13, 10]] (by decide) _ (.head _) c hc
 ·rcases List.mem_append.mp hc with hc | hc
  ·exact get _ _ (all _ (by decide)) c hc
  ·exact get _ _ (all _ (by decide)) c hc
theorem dots_ok46 (n w : Nat) (b : Bool) : okL (List.replicate n 46 ++ tailL w b) := fun c hc => by
 rcases List.mem_append.mp hc with hc | hc
 ·rw [List.eq_of_mem_replicate hc]; decide
 ·exact tail_ok w b c hc
theorem dueA_ok (r : List Slot) : ∀ i, okL (dueA r i)
 | 0 => fun c hc => (nomatch hc)
 | i + 1 => fun c hc => by
  unfold dueA at hc
  split at hc
  ·rcases List.mem_append.mp hc with hc | hc
   ·exact dueA_ok r i c hc
   ·exact dots_ok46 _ _ _ c hc
  ·exact dueA_ok r i c hc
theorem dueB_ok (r : List Slot) : ∀ i, okL (dueB r i)
 | 0 => fun c hc => (nomatch hc)
 | i + 1 => fun c hc => by
  unfold dueB at hc
  split at hc
  ·exact dueB_ok r i c hc
  ·rcases List.mem_append.mp hc with hc | hc
   ·exact dots_ok46 _ _ _ c hc
   ·exact dueB_ok r i c hc
theorem seg_A {l : List Int} (hl : l.length ≤ 1000) (htr : runFn T17 d_trees.1.1 d_trees.1.2.1 d_trees.1.2.2 [] ["grid"] [.d (.list (joinsTo (rowOf l) 8))] = some (.d (.int (mulN (dotsR (rowOf l)))))) :
  runFn T18 d_law.1.1 d_law.1.2.1 d_law.1.2.2 ["unlike", "alike", "every"] [] [.d (.list (intsD l))] = some (.d (.bool true)) := by
 have hR := (r_row l hl).trans (congrArg (fun x => some (X.d x)) (rowOf_D l))
 have hok := rowOf_ok l
 have hr := rowOf_len l
 have h0 : (sl (rowOf l) 0).b = 0 := rfl
 have h7 : (sl (rowOf l) 7).b = 1 := rfl
 generalize rowOf l = r at *
 have hL := dots_ok hok hr h0 h7
 refine runFn_run rfl ?_
 refine rCons (sAsg rfl rfl (nFn rfl rfl (by decide) (fun _ => rfl) (xCons (nName rfl rfl) xNil) hR)) ?_
 have rg : ∀ k, k < 8 → (r.map slotD)[k]? = some (slotD (sl r k)) := fun k hk => rget (r := r) (k := k) (by lia)
 refine rCons (sComp rfl rfl rfl (ecomp_of (items := natsD 8) rfl (iRange rfl (eCons (nConst rfl) eNil) (rangeD_N (n := 8) (by decide))) rfl ((compL_map (f := partF r) _ fun p hp => ?_).trans (congrArg some (parts_is hr))))) ?_
 ·obtain ⟨k, hk, rfl⟩ := List.mem_map.mp hp
  have hk := List.mem_range.mp hk
  have tl := thing_len (sl r k).t
  exact ⟨_, rfl, cNone, eltOf (nBin (oE rfl (nBin (oE rfl (nSub rfl (oSub rfl (nSub rfl (oName rfl rfl) (nName rfl rfl) (sub_L (by exact wk (Nat.le_of_lt ‹_›) rfl) (rg k hk)))) (nConst rfl) (sub_T (k := 0) (by decide) rfl))) (oE rfl (nSub rfl (oSub rfl (nSub rfl (oName rfl rfl) (nName rfl rfl) (sub_L (by exact wk (Nat.le_of_lt ‹_›) rfl) (rg k hk)))) (nConst rfl) (sub_T (k := 1) (by decide) rfl))) (add_S (b := [40 + (sl r k).b]) (by show _ + 1 ≤ _; exact Nat.lt_of_le_of_lt ‹_› (by decide))))) (oE rfl (nSub rfl (oE rfl (nConst rfl)) (nName rfl rfl) (sub_S (a := [97, 98, 99, 100, 101, 102, 103, 104]) (by exact wk (Nat.le_of_lt ‹_›) rfl) (abc_get k hk)))) (add_S (b := [97 + k]) (by rw [List.length_append]; show _ + 1 + 1 ≤ _; lia)))⟩
 have pf : (pts r 0).flatten = textFrom r 0 := pts_flat r 0
 have pl := pts_len r 0
 have ts := text_small (r := r) hr
 rw [pf] at ts
 have JP : methD ⟨#[]⟩ "join" [.list ((pts r 0).map S)] = some (S (textFrom r 0)) := (join_S (by lia) (by rw [pf]; exact wk ‹_› rfl)).trans (pf ▸ rfl)
 have tok := text_ok hok 0 (by lia)
 have ok2 : okL (textFrom r 0 ++ [34, 122, 92]) := fun c hc => by
  rcases List.mem_append.mp hc with hc | hc
  ·exact tok c hc
  ·simp only [List.mem_cons, List.not_mem_nil, or_false] at hc; lia
 have len2 : (textFrom r 0 ++ [34, 122, 92]).length ≤ 100 := by rw [List.length_append]; show _ + 3 ≤ _; exact adc ‹_› rfl
 have ST := r_strip (textFrom r 0 ++ [34, 122, 92]) len2 ok2 (List.mem_append.mpr (.inr (.head _)))
 have kk := kept_ok hok 0 (by lia)
 have GE := gen_S (a := stripL (textFrom r 0 ++ [34, 122, 92])) (by rw [strip_law hok hr, List.length_append]; have := kk.2; show _ + 3 ≤ _; lia) (by
  rw [strip_law hok hr]
  intro c hc
  rcases List.mem_append.mp hc with hc | hc
  ·exact kk.1 c hc
  ·simp only [List.mem_cons, List.not_mem_nil, or_false] at hc; lia)
 rw [units_law hok hr] at GE
 refine rCons (sAsg rfl rfl (nListGen rfl ⟨rfl, rfl⟩ (nFn rfl rfl (by decide) (fun _ => rfl) (xCons (nBin (oE rfl (nMeth rfl (by decide) (nConst rfl) (oCons (oName rfl rfl) oNil) JP)) (oE rfl (nConst rfl)) (add_S (b := [34, 122, 92]) (by show _ + 3 ≤ _; exact adc ‹_› rfl))) xNil) ST) GE)) ?_
 have UN := r_units r hr hok
 have FU : flatD 2 (.list (unitsTo (allUnits r) (allUnits r).length)) := flat_list (k := 1) fun p hp => by
  obtain ⟨i, u, rfl, hu⟩ := units_ok hok hr hp
  exact flat_pair hu
 refine rIfF (tCmp (oName rfl rfl) (oE rfl (nFn rfl rfl (by decide) (fun _ => rfl) (xCons (nName rfl rfl) xNil) UN)) (ne_same FU (by decide))) ?_
 refine rNil (aNext ?_)
 have ul := units_len (r := r)
 have TL : ((unitsTo (allUnits r) (allUnits r).length).filter brG).map brF = (r.map fun s => S [40 + s.b]) := by
  rw [told_is, told_law hok hr, List.map_map]; rfl
 have ML := mails_law hok hr
 have MA := r_mails r hr hok
 rw [ML.1, ML.2] at MA
 refine rCons (sAsg rfl rfl (nFn rfl rfl (by decide) (fun _ => rfl) (xCons (nComp (ecomp_of (items := unitsTo (allUnits r) (allUnits r).length) rfl (iO rfl (oName rfl rfl) rfl) (short_of (by delta unitsTo; rw [List.length_map, List.length_range]; exact wk ‹_› rfl)) ((compL_all (g := brG) (f := brF) _ fun p hp => ?_).trans (congrArg some TL)))) (xCons (nName rfl rfl) xNil)) MA)) ?_
 ·obtain ⟨i, u, rfl, hu⟩ := units_ok hok hr hp
  exact ⟨_, rfl, cOne (tCmp (oName rfl rfl) (oE rfl (nTuple (eCons (nConst rfl) (eCons (nConst rfl) eNil)) rfl)) (in_br hu)), fun _ => eltOf (nName rfl rfl)⟩
 have DU := r_due r hr hok
 have okD : okL (dueA r 6) ∧ okL (dueB r 6) := ⟨dueA_ok r 6, dueB_ok r 6⟩
 have FM : flatD 1 (.list [S (dueA r 6), S (dueB r 6)]) := flat_list (k := 0) fun p hp => by
  rcases List.mem_cons.mp hp with rfl | hp
  ·exact flat_S okD.1
  ·exact (List.mem_singleton.mp hp) ▸ (flat_S okD.2)
 refine rIfF (tCmp (oName rfl rfl) (oE rfl (nFn rfl rfl (by decide) (fun _ => rfl) (xCons (nName rfl rfl) xNil) DU)) (ne_same FM (by decide))) ?_
 refine rNil (aNext ?_)
 exact seg_B hok hr ⟨rfl, rfl, rfl⟩ hL htr
end
section
noncomputable def treesR (js : List PyData) : Option X := runFn T17 d_trees.1.1 d_trees.1.2.1 d_trees.1.2.2 [] ["grid"] [.d (.list js)]
noncomputable def jnL (l : List Nat) : List PyData := l.map fun k => jn (k / 8) (k % 8)
theorem all2 {P : Fin 2 → Prop} (h0 : P 0) (h1 : P 1) : ∀ b, P b
 | ⟨0, _⟩ => h0
 | ⟨1, _⟩ => h1
noncomputable def TreesAt (b1 b2 b3 b4 b5 b6 : Fin 2) : Prop := treesR (joinsTo (slots6 b1 b2 b3 b4 b5 b6) 8) = some (.d (.int (mulN (dotsR (slots6 b1 b2 b3 b4 b5 b6)))))
theorem tr_of {r : List Slot} (l : List Nat) (m : Nat) (h1 : joinsTo r 8 = jnL l) (h2 : mulN (dotsR r) = m) (h : treesR (jnL l) = some (.d (.int m))) : treesR (joinsTo r 8) = some (.d (.int (mulN (dotsR r)))) := by rw [h1, h2]; exact h
theorem ts_0 : TreesAt 0 0 0 0 0 0 := tr_of [7, 15, 23, 31, 39, 47, 55] 1 (by kernel_rfl) (by kernel_rfl) (by kernel_rfl)
theorem ts_1 : TreesAt 0 0 0 0 0 1 := tr_of [6, 7, 14, 15, 22, 23, 30, 31, 38, 39, 46, 47] 192 (by kernel_rfl) (by kernel_rfl) (by kernel_rfl)
theorem ts_2 : TreesAt 0 0 0 0 1 0 := tr_of [5, 7, 13, 15, 21, 23, 29, 31, 37, 39, 55] 80 (by kernel_rfl) (by kernel_rfl) (by kernel_rfl)
theorem ts_3 : TreesAt 0 0 0 0 1 1 := tr_of [5, 6, 7, 13, 14, 15, 21, 22, 23, 29, 30, 31, 37, 38, 39] 2025 (by kernel_rfl) (by kernel_rfl) (by kernel_rfl)
theorem ts_4 : TreesAt 0 0 0 1 0 0 := tr_of [4, 7, 12, 15, 20, 23, 28, 31, 47, 55] 32 (by kernel_rfl) (by kernel_rfl) (by kernel_rfl)
theorem ts_5 : TreesAt 0 0 0 1 0 1 := tr_of [4, 6, 7, 12, 14, 15, 20, 22, 23, 28, 30, 31, 46, 47] 1080 (by kernel_rfl) (by kernel_rfl) (by kernel_rfl)
theorem ts_6 : TreesAt 0 0 0 1 1 0 := tr_of [4, 5, 7, 12, 13, 15, 20, 21, 23, 28, 29, 31, 55] 432 (by kernel_rfl) (by kernel_rfl) (by kernel_rfl)
theorem ts_7 : TreesAt 0 0 0 1 1 1 := tr_of [4, 5, 6, 7, 12, 13, 14, 15, 20, 21, 22, 23, 28, 29, 30, 31] 4096 (by kernel_rfl) (by kernel_rfl) (by kernel_rfl)
theorem ts_8 : TreesAt 0 0 1 0 0 0 := tr_of [3, 7, 11, 15, 19, 23, 39, 47, 55] 12 (by kernel_rfl) (by kernel_rfl) (by kernel_rfl)
theorem ts_9 : TreesAt 0 0 1 0 0 1 := tr_of [3, 6, 7, 11, 14, 15, 19, 22, 23, 38, 39, 46, 47] 540 (by kernel_rfl) (by kernel_rfl) (by kernel_rfl)
theorem ts_10 : TreesAt 0 0 1 0 1 0 := tr_of [3, 5, 7, 11, 13, 15, 19, 21, 23, 37, 39, 55] 216 (by kernel_rfl) (by kernel_rfl) (by kernel_rfl)
theorem ts_11 : TreesAt 0 0 1 0 1 1 := tr_of [3, 5, 6, 7, 11, 13, 14, 15, 19, 21, 22, 23, 37, 38, 39] 2304 (by kernel_rfl) (by kernel_rfl) (by kernel_rfl)
theorem ts_12 : TreesAt 0 0 1 1 0 0 := tr_of [3, 4, 7, 11, 12, 15, 19, 20, 23, 47, 55] 81 (by kernel_rfl) (by kernel_rfl) (by kernel_rfl)
theorem ts_13 : TreesAt 0 0 1 1 0 1 := tr_of [3, 4, 6, 7, 11, 12, 14, 15, 19, 20, 22, 23, 46, 47] 1152 (by kernel_rfl) (by kernel_rfl) (by kernel_rfl)
theorem ts_14 : TreesAt 0 0 1 1 1 0 := tr_of [3, 4, 5, 7, 11, 12, 13, 15, 19, 20, 21, 23, 55] 432 (by kernel_rfl) (by kernel_rfl) (by kernel_rfl)
theorem ts_15 : TreesAt 0 0 1 1 1 1 := tr_of [3, 4, 5, 6, 7, 11, 12, 13, 14, 15, 19, 20, 21, 22, 23] 2025 (by kernel_rfl) (by kernel_rfl) (by kernel_rfl)
theorem ts_16 : TreesAt 0 1 0 0 0 0 := tr_of [2, 7, 10, 15, 31, 39, 47, 55] 4 (by kernel_rfl) (by kernel_rfl) (by kernel_rfl)
theorem ts_17 : TreesAt 0 1 0 0 0 1 := tr_of [2, 6, 7, 10, 14, 15, 30, 31, 38, 39, 46, 47] 240 (by kernel_rfl) (by kernel_rfl) (by kernel_rfl)
theorem ts_18 : TreesAt 0 1 0 0 1 0 := tr_of [2, 5, 7, 10, 13, 15, 29, 31, 37, 39, 55] 96 (by kernel_rfl) (by kernel_rfl) (by kernel_rfl)
theorem ts_19 : TreesAt 0 1 0 0 1 1 := tr_of [2, 5, 6, 7, 10, 13, 14, 15, 29, 30, 31, 37, 38, 39] 1152 (by kernel_rfl) (by kernel_rfl) (by kernel_rfl)
theorem ts_20 : TreesAt 0 1 0 1 0 0 := tr_of [2, 4, 7, 10, 12, 15, 28, 31, 47, 55] 36 (by kernel_rfl) (by kernel_rfl) (by kernel_rfl)
theorem ts_21 : TreesAt 0 1 0 1 0 1 := tr_of [2, 4, 6, 7, 10, 12, 14, 15, 28, 30, 31, 46, 47] 576 (by kernel_rfl) (by kernel_rfl) (by kernel_rfl)
theorem ts_22 : TreesAt 0 1 0 1 1 0 := tr_of [2, 4, 5, 7, 10, 12, 13, 15, 28, 29, 31, 55] 216 (by kernel_rfl) (by kernel_rfl) (by kernel_rfl)
theorem ts_23 : TreesAt 0 1 0 1 1 1 := tr_of [2, 4, 5, 6, 7, 10, 12, 13, 14, 15, 28, 29, 30, 31] 1080 (by kernel_rfl) (by kernel_rfl) (by kernel_rfl)
theorem ts_24 : TreesAt 0 1 1 0 0 0 := tr_of [2, 3, 7, 10, 11, 15, 39, 47, 55] 12 (by kernel_rfl) (by kernel_rfl) (by kernel_rfl)
theorem ts_25 : TreesAt 0 1 1 0 0 1 := tr_of [2, 3, 6, 7, 10, 11, 14, 15, 38, 39, 46, 47] 256 (by kernel_rfl) (by kernel_rfl) (by kernel_rfl)
theorem ts_26 : TreesAt 0 1 1 0 1 0 := tr_of [2, 3, 5, 7, 10, 11, 13, 15, 37, 39, 55] 96 (by kernel_rfl) (by kernel_rfl) (by kernel_rfl)
theorem ts_27 : TreesAt 0 1 1 0 1 1 := tr_of [2, 3, 5, 6, 7, 10, 11, 13, 14, 15, 37, 38, 39] 540 (by kernel_rfl) (by kernel_rfl) (by kernel_rfl)
theorem ts_28 : TreesAt 0 1 1 1 0 0 := tr_of [2, 3, 4, 7, 10, 11, 12, 15, 47, 55] 32 (by kernel_rfl) (by kernel_rfl) (by kernel_rfl)
theorem ts_29 : TreesAt 0 1 1 1 0 1 := tr_of [2, 3, 4, 6, 7, 10, 11, 12, 14, 15, 46, 47] 240 (by kernel_rfl) (by kernel_rfl) (by kernel_rfl)
theorem ts_30 : TreesAt 0 1 1 1 1 0 := tr_of [2, 3, 4, 5, 7, 10, 11, 12, 13, 15, 55] 80 (by kernel_rfl) (by kernel_rfl) (by kernel_rfl)
theorem ts_31 : TreesAt 0 1 1 1 1 1 := tr_of [2, 3, 4, 5, 6, 7, 10, 11, 12, 13, 14, 15] 192 (by kernel_rfl) (by kernel_rfl) (by kernel_rfl)
theorem ts_32 : TreesAt 1 0 0 0 0 0 := tr_of [1, 7, 23, 31, 39, 47, 55] 1 (by kernel_rfl) (by kernel_rfl) (by kernel_rfl)
theorem ts_33 : TreesAt 1 0 0 0 0 1 := tr_of [1, 6, 7, 22, 23, 30, 31, 38, 39, 46, 47] 80 (by kernel_rfl) (by kernel_rfl) (by kernel_rfl)
theorem ts_34 : TreesAt 1 0 0 0 1 0 := tr_of [1, 5, 7, 21, 23, 29, 31, 37, 39, 55] 32 (by kernel_rfl) (by kernel_rfl) (by kernel_rfl)
theorem ts_35 : TreesAt 1 0 0 0 1 1 := tr_of [1, 5, 6, 7, 21, 22, 23, 29, 30, 31, 37, 38, 39] 432 (by kernel_rfl) (by kernel_rfl) (by kernel_rfl)
theorem ts_36 : TreesAt 1 0 0 1 0 0 := tr_of [1, 4, 7, 20, 23, 28, 31, 47, 55] 12 (by kernel_rfl) (by kernel_rfl) (by kernel_rfl)
theorem ts_37 : TreesAt 1 0 0 1 0 1 := tr_of [1, 4, 6, 7, 20, 22, 23, 28, 30, 31, 46, 47] 216 (by kernel_rfl) (by kernel_rfl) (by kernel_rfl)
theorem ts_38 : TreesAt 1 0 0 1 1 0 := tr_of [1, 4, 5, 7, 20, 21, 23, 28, 29, 31, 55] 81 (by kernel_rfl) (by kernel_rfl) (by kernel_rfl)
theorem ts_39 : TreesAt 1 0 0 1 1 1 := tr_of [1, 4, 5, 6, 7, 20, 21, 22, 23, 28, 29, 30, 31] 432 (by kernel_rfl) (by kernel_rfl) (by kernel_rfl)
theorem ts_40 : TreesAt 1 0 1 0 0 0 := tr_of [1, 3, 7, 19, 23, 39, 47, 55] 4 (by kernel_rfl) (by kernel_rfl) (by kernel_rfl)
theorem ts_41 : TreesAt 1 0 1 0 0 1 := tr_of [1, 3, 6, 7, 19, 22, 23, 38, 39, 46, 47] 96 (by kernel_rfl) (by kernel_rfl) (by kernel_rfl)
theorem ts_42 : TreesAt 1 0 1 0 1 0 := tr_of [1, 3, 5, 7, 19, 21, 23, 37, 39, 55] 36 (by kernel_rfl) (by kernel_rfl) (by kernel_rfl)
theorem ts_43 : TreesAt 1 0 1 0 1 1 := tr_of [1, 3, 5, 6, 7, 19, 21, 22, 23, 37, 38, 39] 216 (by kernel_rfl) (by kernel_rfl) (by kernel_rfl)
theorem ts_44 : TreesAt 1 0 1 1 0 0 := tr_of [1, 3, 4, 7, 19, 20, 23, 47, 55] 12 (by kernel_rfl) (by kernel_rfl) (by kernel_rfl)
theorem ts_45 : TreesAt 1 0 1 1 0 1 := tr_of [1, 3, 4, 6, 7, 19, 20, 22, 23, 46, 47] 96 (by kernel_rfl) (by kernel_rfl) (by kernel_rfl)
theorem ts_46 : TreesAt 1 0 1 1 1 0 := tr_of [1, 3, 4, 5, 7, 19, 20, 21, 23, 55] 32 (by kernel_rfl) (by kernel_rfl) (by kernel_rfl)
theorem ts_47 : TreesAt 1 0 1 1 1 1 := tr_of [1, 3, 4, 5, 6, 7, 19, 20, 21, 22, 23] 80 (by kernel_rfl) (by kernel_rfl) (by kernel_rfl)
theorem ts_48 : TreesAt 1 1 0 0 0 0 := tr_of [1, 2, 7, 31, 39, 47, 55] 1 (by kernel_rfl) (by kernel_rfl) (by kernel_rfl)
theorem ts_49 : TreesAt 1 1 0 0 0 1 := tr_of [1, 2, 6, 7, 30, 31, 38, 39, 46, 47] 32 (by kernel_rfl) (by kernel_rfl) (by kernel_rfl)
theorem ts_50 : TreesAt 1 1 0 0 1 0 := tr_of [1, 2, 5, 7, 29, 31, 37, 39, 55] 12 (by kernel_rfl) (by kernel_rfl) (by kernel_rfl)
theorem ts_51 : TreesAt 1 1 0 0 1 1 := tr_of [1, 2, 5, 6, 7, 29, 30, 31, 37, 38, 39] 81 (by kernel_rfl) (by kernel_rfl) (by kernel_rfl)
theorem ts_52 : TreesAt 1 1 0 1 0 0 := tr_of [1, 2, 4, 7, 28, 31, 47, 55] 4 (by kernel_rfl) (by kernel_rfl) (by kernel_rfl)
theorem ts_53 : TreesAt 1 1 0 1 0 1 := tr_of [1, 2, 4, 6, 7, 28, 30, 31, 46, 47] 36 (by kernel_rfl) (by kernel_rfl) (by kernel_rfl)
theorem ts_54 : TreesAt 1 1 0 1 1 0 := tr_of [1, 2, 4, 5, 7, 28, 29, 31, 55] 12 (by kernel_rfl) (by kernel_rfl) (by kernel_rfl)
theorem ts_55 : TreesAt 1 1 0 1 1 1 := tr_of [1, 2, 4, 5, 6, 7, 28, 29, 30, 31] 32 (by kernel_rfl) (by kernel_rfl) (by kernel_rfl)
theorem ts_56 : TreesAt 1 1 1 0 0 0 := tr_of [1, 2, 3, 7, 39, 47, 55] 1 (by kernel_rfl) (by kernel_rfl) (by kernel_rfl)
theorem ts_57 : TreesAt 1 1 1 0 0 1 := tr_of [1, 2, 3, 6, 7, 38, 39, 46, 47] 12 (by kernel_rfl) (by kernel_rfl) (by kernel_rfl)
theorem ts_58 : TreesAt 1 1 1 0 1 0 := tr_of [1, 2, 3, 5, 7, 37, 39, 55] 4 (by kernel_rfl) (by kernel_rfl) (by kernel_rfl)
theorem ts_59 : TreesAt 1 1 1 0 1 1 := tr_of [1, 2, 3, 5, 6, 7, 37, 38, 39] 12 (by kernel_rfl) (by kernel_rfl) (by kernel_rfl)
theorem ts_60 : TreesAt 1 1 1 1 0 0 := tr_of [1, 2, 3, 4, 7, 47, 55] 1 (by kernel_rfl) (by kernel_rfl) (by kernel_rfl)
theorem ts_61 : TreesAt 1 1 1 1 0 1 := tr_of [1, 2, 3, 4, 6, 7, 46, 47] 4 (by kernel_rfl) (by kernel_rfl) (by kernel_rfl)
theorem ts_62 : TreesAt 1 1 1 1 1 0 := tr_of [1, 2, 3, 4, 5, 7, 55] 1 (by kernel_rfl) (by kernel_rfl) (by kernel_rfl)
theorem ts_63 : TreesAt 1 1 1 1 1 1 := tr_of [1, 2, 3, 4, 5, 6, 7] 1 (by kernel_rfl) (by kernel_rfl) (by kernel_rfl)
theorem ts_all : ∀ b1 b2 b3 b4 b5 b6 : Fin 2, TreesAt b1 b2 b3 b4 b5 b6 :=
 all2 (all2 (all2 (all2 (all2 (all2 ts_0 ts_1) (all2 ts_2 ts_3)) (all2 (all2 ts_4 ts_5) (all2 ts_6 ts_7))) (all2 (all2 (all2 ts_8 ts_9) (all2 ts_10 ts_11)) (all2 (all2 ts_12 ts_13) (all2 ts_14 ts_15)))) (all2 (all2 (all2 (all2 ts_16 ts_17) (all2 ts_18 ts_19)) (all2 (all2 ts_20 ts_21) (all2 ts_22 ts_23))) (all2 (all2 (all2 ts_24 ts_25) (all2 ts_26 ts_27)) (all2 (all2 ts_28 ts_29) (all2 ts_30 ts_31))))) (all2 (all2 (all2 (all2 (all2 ts_32 ts_33) (all2 ts_34 ts_35)) (all2 (all2 ts_36 ts_37) (all2 ts_38 ts_39))) (all2 (all2 (all2 ts_40 ts_41) (all2 ts_42 ts_43)) (all2 (all2 ts_44 ts_45) (all2 ts_46 ts_47)))) (all2 (all2 (all2 (all2 ts_48 ts_49) (all2 ts_50 ts_51)) (all2 (all2 ts_52 ts_53) (all2 ts_54 ts_55))) (all2 (all2 (all2 ts_56 ts_57) (all2 ts_58 ts_59)) (all2 (all2 ts_60 ts_61) (all2 ts_62 ts_63)))))
theorem trees_law {r : List Slot} (hok : ∀ s ∈ r, s.Ok) (hr : r.length = 8) (h0 : (sl r 0).b = 0) (h7 : (sl r 7).b = 1) : runFn T17 d_trees.1.1 d_trees.1.2.1 d_trees.1.2.2 [] ["grid"] [.d (.list (joinsTo r 8))] = some (.d (.int (mulN (dotsR r)))) := by
 obtain ⟨b1, b2, b3, b4, b5, b6, e⟩ := bits_six hok hr h0 h7
 rw [← dots_bits, ← joins_bits, e]
 exact ts_all b1 b2 b3 b4 b5 b6
end
section
theorem law_true : ∀ l : List Int, l.length ≤ 63 → lawRun l = some (.d (.bool true)) := fun l h => seg_A (Nat.le_trans h (by decide)) (trees_law (rowOf_ok l) (rowOf_len l) rfl rfl)
end
end Mine
set_option maxRecDepth 100000 in
theorem PySem.Challenge.cw_uc0021_01_holds : PySem.Challenge.rw_uc0021_01.Holds :=
 Mine.holds_of Mine.law_true
