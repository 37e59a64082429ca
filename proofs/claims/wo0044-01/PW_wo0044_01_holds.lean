import PyProof.Rows.All
import Wide.All
import OpenK.AllK
import Wide.FinOn
import KE.KLam
import KE.KNestM
import KE.KWords
import PySem.Challenge.RW_wo0044_01
open PySem PySem.W PyProof.Rows
set_option Elab.async false
set_option linter.unusedVariables false
set_option linter.unusedSectionVars false
set_option maxRecDepth 100000
set_option bootstrap.genMatcherCode false
set_option genSizeOf false
set_option genInjectivity false
set_option tactic.hygienic false
namespace Mine
section
set_option maxHeartbeats 8000000
noncomputable def hq : Program := PySem.W.view PySem.Challenge.pw_wo0044_01 [0,2,3,4,6,8,9,10,11,13,14,15,16,17,18,20,21,22,23,24,25,26,27,28,29,30]
theorem ws : PySem.Challenge.rw_wo0044_01.wellSaid = true := by kernel_rfl
local macro_rules | `(tactic| o_law) => `(tactic| refine holds_law ws fun said => ?_)
local macro_rules | `(tactic| o_head $H) => `(tactic| (
 refine holds_open (q := hq) (loose := []) (Xt := fun s => xlAt hq [] s && recOk (RowW.records (PySem.Challenge.rw_wo0044_01.row.toRowW)) s) (XP := XL hq []) (Yf := Hook.obs $H) (Ya := Hook.val $H) (YP := Hook.says $H) (N := 2336) ?hl (Hook.of $H) (Hook.keeps $H) (fun s e => xl_of s (Bool.and_eq_true_iff.mp e).1) XL.keeps (by rfl) (by rfl) (by rfl) (fun s e => recFacts_of (Bool.and_eq_true_iff.mp e).2) (by first | rfl | fail "open_line: no head takes a call that writes beside a table") (by first | assumption | decide +kernel) (by decide +kernel) ⟨rfl, rfl, rfl, rfl, rfl, by decide +kernel⟩ ?hw ?hc
 case hl => intro w; kernel_rfl))
open_top hd for PySem.Challenge.rw_wo0044_01
end
section
theorem dl0 (a b : Nat) {u : Nat} (e : Nat.ble a b = true) : u + a ≤ u + b := Nat.add_le_add_left (Nat.le_of_ble_eq_true e) u
theorem dl1 (a b c d : Nat) {u v : Nat} (h : u + c ≤ v + d) (e : Nat.ble (a + d) (b + c) = true) : u + a ≤ v + b := by
 have := Nat.add_le_add h (Nat.le_of_ble_eq_true e)
 rw [Nat.add_add_add_comm, Nat.add_comm c d] at this
 refine Nat.le_of_add_le_add_right (b := d + c) (Nat.le_trans this ?_)
 rw [Nat.add_add_add_comm v b d c]; exact Nat.le_refl _
theorem dl2 (a b c d f g : Nat) {u v w : Nat} (h : u + c ≤ v + d) (h2 : v + f ≤ w + g) (e : Nat.ble (a + d + g) (b + c + f) = true) : u + a ≤ w + b :=
 dl1 a b (c + f) (d + g) (Nat.le_trans (Nat.le_of_eq (Nat.add_assoc u c f).symm) (Nat.le_trans (Nat.add_le_add_right h f) (Nat.le_trans (Nat.le_of_eq (Nat.add_right_comm v d f)) (Nat.le_trans (Nat.add_le_add_right h2 d) (Nat.le_of_eq ((Nat.add_right_comm w g d).trans (Nat.add_assoc w d g))))))) (by rw [← Nat.add_assoc, ← Nat.add_assoc]; exact e)
theorem dl3 (a b c d f g i j : Nat) {u v w x : Nat} (h : u + c ≤ v + d) (h2 : v + f ≤ w + g) (h3 : w + i ≤ x + j) (e : Nat.ble (a + d + g + j) (b + c + f + i) = true) : u + a ≤ x + b :=
 dl2 a b c d (f + i) (g + j) h (Nat.le_trans (Nat.le_of_eq (Nat.add_assoc v f i).symm) (Nat.le_trans (Nat.add_le_add_right h2 i) (Nat.le_trans (Nat.le_of_eq (Nat.add_right_comm w g i)) (Nat.le_trans (Nat.add_le_add_right h3 g) (Nat.le_of_eq ((Nat.add_right_comm x j g).trans (Nat.add_assoc x g j))))))) (by rw [← Nat.add_assoc, ← Nat.add_assoc]; exact e)
theorem i63 {x : Nat} (h : x + 1 ≤ 9223372036854775808) : (x : Int) < 2 ^ 63 := Int.lt_of_lt_of_le (Int.ofNat_lt.mpr h) (by decide)
theorem i63n {x : Nat} : -2 ^ 63 ≤ (x : Int) := Int.le_trans (by decide) (Int.natCast_nonneg x)
theorem sbk {x c : Nat} : x + 0 ≤ x - c + c := by omega
theorem cst {x y : Nat} (h : x ≤ y) : (x : Int) ≤ (y : Int) := Int.ofNat_le.mpr h
theorem st1 {m k n : Nat} (h : m + 1 + k + 1 = n) : m + (k + 1) + 1 = n := h ▸ congrArg (· + 1) (Nat.succ_add m k).symm
theorem st2 {m k n : Nat} (h : m + 1 + 1 + k + 1 = n) : m + (k + 1 + 1) + 1 = n := st1 (st1 h)
theorem klt {m k n : Nat} (h : m + k + 1 = n) : k < n := h ▸ Nat.succ_le_succ (Nat.le_add_left k m)
theorem kle {m k n : Nat} (h : m + k + 1 = n) : k + (m + 1) ≤ n := Nat.le_of_eq ((congrArg (· + 1) (Nat.add_comm k m)).trans h)
theorem kl2 {m k n : Nat} (h : m + 1 + k + 1 = n) : k + 1 + (m + 1) ≤ n := kle (st1 h)
theorem in_lt {m k n q : Nat} (h : m + 1 + k + 1 = n) (h2 : q < k + 1 + (m + 1)) : q < n := Nat.lt_of_lt_of_le h2 (kl2 h)
theorem pm1 {k n : Nat} (h : 0 + k + 1 = n) : n - 1 = k := h ▸ Nat.zero_add k
theorem no {p q : Nat} {P : Prop} (h1 : p ≤ q) (h2 : q < p) : P := absurd h2 (Nat.not_lt.mpr h1)
theorem sb1 {i n : Nat} (h : i < n) : n - i = n - (i + 1) + 1 := (Nat.sub_add_cancel (Nat.sub_pos_of_lt h)).symm
theorem sb1' {n : Nat} (h : 1 ≤ n) : n = n - 1 + 1 := (Nat.sub_add_cancel h).symm
theorem sb2 {s n : Nat} : min (min (n - 1) n - s) (n - 1) = n - (s + 1) := by
 rw [Nat.min_eq_left (Nat.sub_le n 1), Nat.min_eq_left (Nat.sub_le _ s), Nat.sub_sub, Nat.add_comm]
theorem sb3 {s n : Nat} : min (n - s) n = n - s := Nat.min_eq_left (Nat.sub_le n s)
theorem sb4 {a r : Nat} : a + (r + 1) - 1 - r = a := Nat.add_sub_cancel a r
theorem sb5 {r : Nat} : r + 1 - 1 - (r + 1 - 1) = 0 := Nat.sub_self r
theorem sb6 {p k n : Nat} (h : k ≤ p ∧ p < n) : n - k = p - k + (n - p - 1 + 1) := by
 rw [Nat.sub_add_cancel (Nat.sub_pos_of_lt h.2), Nat.add_comm, Nat.sub_add_sub_cancel (Nat.le_of_lt h.2) h.1]
theorem sb7 {u n : Nat} : n - u - 1 = n + 1 - (u + 1) - 1 := congrArg (· - 1) (Nat.succ_sub_succ n u).symm
theorem sb8 {r : Nat} : r - 1 + min 1 r ≤ r + 1 := Nat.add_le_add (Nat.sub_le r 1) (Nat.min_le_left 1 r)
theorem sb9 {p k : Nat} (h : k ≤ p) : k + (p - k) = p := Nat.add_sub_of_le h
theorem tn1 {n : Nat} : ((n : Int) - 1).toNat = n - 1 := Int.toNat_sub n 1
theorem tn {a b : Nat} : ((b : Int) - a).toNat = b - a := Int.toNat_sub b a
theorem tn2 {n : Nat} : (-1 + (n : Int)).toNat = n - 1 := by rw [Int.add_comm]; exact Int.toNat_sub n 1
theorem l1 {n m : Nat} (h : m = n + 1) : m - 1 = n := h ▸ rfl
theorem ab1 {x s : Int} {l : Nat} (h : s.natAbs ≤ 20 * l) (h2 : x.natAbs ≤ 20) : (x + s).natAbs ≤ 20 * (l + 1) :=
 Nat.le_trans (Int.natAbs_add_le x s) (Nat.le_trans (Nat.add_le_add h2 h) (Nat.le_of_eq (Nat.add_comm 20 (20 * l))))
theorem ab2 {b s : Int} {l L : Nat} (hb : b.natAbs ≤ 20) (hs : s.natAbs ≤ 20 * l) (hl : l ≤ 5) (hL : 120 ≤ L) : (b + s).natAbs ≤ L :=
 Nat.le_trans (Nat.le_trans (Int.natAbs_add_le b s) (Nat.add_le_add hb (Nat.le_trans hs (Nat.mul_le_mul_left 20 hl)))) hL
theorem n45 {n : Nat} (h : n = 4 ∨ n = 5) : n ≤ 5 := h.elim (fun h => h ▸ (by decide : 4 ≤ 5)) fun h => Nat.le_of_eq h
theorem n45' {n : Nat} (h : n = 4 ∨ n = 5) : 4 ≤ n := h.elim (fun h => Nat.le_of_eq h.symm) fun h => h ▸ (by decide : 4 ≤ 5)
theorem n23 {n m : Nat} (h : m = 4 ∨ m = 5) (e : m = n + 2) : n = 2 ∨ n = 3 := h.elim (fun h => .inl (Nat.succ.inj (Nat.succ.inj (e.symm.trans h)))) fun h => .inr (Nat.succ.inj (Nat.succ.inj (e.symm.trans h)))
theorem n34 {n m : Nat} (h : m = 4 ∨ m = 5) (e : m = n + 1) : n = 3 ∨ n = 4 := h.elim (fun h => .inl (Nat.succ.inj (e.symm.trans h))) fun h => .inr (Nat.succ.inj (e.symm.trans h))
theorem sg1 {t : Int} (h : t = 1 ∨ t = -1) : -t = 1 ∨ -t = -1 := h.elim (fun h => .inr (h ▸ rfl)) fun h => .inl (h ▸ rfl)
theorem sg2 {t : Int} (h : t = 1 ∨ t = -1) : t.natAbs < 2 ^ 64 := h.elim (fun h => h ▸ (by decide)) fun h => h ▸ (by decide)
theorem le2 (e : Nat) : e ≤ 2 * e + 1 := Nat.le_succ_of_le (Nat.le_mul_of_pos_left e Nat.two_pos)
theorem shc {m k c : Nat} (h : m < k + 1 + c) : m < k + (c + 1) := Nat.lt_of_lt_of_eq h (Nat.succ_add_eq_add_succ k c)
theorem lts {k c : Nat} : k < k + (c + 1) := Nat.lt_add_of_pos_right (Nat.succ_pos c)
theorem shn {m k c n : Nat} (h : m < k + 1 + c) (h2 : k + (c + 1) ≤ n) : m < n := Nat.lt_of_lt_of_le (shc h) h2
theorem cm1 {m N : Nat} (h : m < 1 + N) : m < N + 1 := Nat.lt_of_lt_of_eq h (Nat.add_comm 1 N)
theorem rg {p j n : Nat} (h : p < j + (n - j)) (hj : j ≤ n) : p < n := Nat.lt_of_lt_of_eq h (Nat.add_sub_of_le hj)
theorem i64 {x n : Nat} (h : x < n) (hn : n ≤ 1000) : (x : Int) < 2 ^ 63 := i63 (Nat.le_trans h (Nat.le_trans hn (by decide)))
theorem nz {j : Int} (h : j.natAbs = 0) : j = 0 := Int.natAbs_eq_zero.mp h
theorem l30 {x : Nat} (h : x < 1000) : ¬ x / 30 + 1 > 300 := Nat.not_lt.mpr (Nat.le_trans (Nat.div_lt_of_lt_mul (Nat.lt_of_lt_of_le h (by decide : 1000 ≤ 30 * 34))) (by decide : 34 ≤ 300))
theorem pA {k low n i j : Nat} (hj : j < n) : (k < j ∧ (k < i ∧ i < low ∨ i = low ∧ k < i ∧ j < n)) ↔ (k < j ∧ (k < i ∧ i < low + 1 ∨ i = low + 1 ∧ k < i ∧ j < k + 1)) := by
 constructor
 · rintro ⟨a, x⟩
   exact ⟨a, .inl (x.elim (fun y => ⟨y.1, Nat.lt_succ_of_lt y.2⟩) fun y => ⟨y.2.1, Nat.lt_succ_of_le (Nat.le_of_eq y.1)⟩)⟩
 · rintro ⟨a, x⟩
   refine ⟨a, x.elim (fun y => (Nat.lt_or_eq_of_le (Nat.le_of_lt_succ y.2)).elim (fun z => .inl ⟨y.1, z⟩) fun z => .inr ⟨z, y.1, hj⟩) fun y => no a y.2.2⟩
theorem pU {k low place i j : Nat} (h : ¬ (i = low ∧ j = place)) : (k < j ∧ (k < i ∧ i < low ∨ i = low ∧ k < i ∧ j < place)) ↔ (k < j ∧ (k < i ∧ i < low ∨ i = low ∧ k < i ∧ j < place + 1)) :=
 and_congr_right fun _ => or_congr_right (and_congr_right fun e => and_congr_right fun _ => ⟨Nat.lt_succ_of_lt, fun c => (Nat.lt_or_eq_of_le (Nat.le_of_lt_succ c)).elim id fun z => absurd ⟨e, z⟩ h⟩)
theorem pO {k low place i j : Nat} (h : i = k ∨ j = k ∨ (i = low ∧ j = place)) : ¬ (k < j ∧ (k < i ∧ i < low ∨ i = low ∧ k < i ∧ j < place)) := by
 rintro ⟨a, x⟩
 rcases h with h | h | ⟨h, h'⟩
 · exact Nat.ne_of_gt (x.elim And.left fun y => y.2.1) h
 · exact Nat.ne_of_gt a h
 · exact x.elim (fun y => Nat.ne_of_lt y.2 h) fun y => Nat.ne_of_lt y.2.2 h'
theorem inz {b : Nat} (h : b ≠ 0) : (b : Int) ≠ 0 := Int.ofNat_ne_zero.mpr h
theorem w20 {x : Nat} (h : x < 41) : -20 ≤ (x : Int) - 20 ∧ (x : Int) - 20 ≤ 20 :=
 ⟨by rw [Int.sub_eq_add_neg, Int.add_comm]; exact Int.le_add_of_nonneg_right (Int.natCast_nonneg x), Int.sub_le_sub_right (Int.ofNat_le.2 (Nat.le_of_lt_succ h)) 20⟩
theorem w0 {x : Nat} : ((x : Int) - 20 < 0) = (x < 20) := by
 rw [eq_iff_iff, ← Int.ofNat_lt]
 exact ⟨Int.lt_of_sub_neg, Int.sub_neg_of_lt⟩
theorem na20 {w : Int} (h : -20 ≤ w ∧ w ≤ 20) : w.natAbs ≤ 20 := by omega
theorem if20 {w : Int} (h : -20 ≤ w ∧ w ≤ 20) : (if w < 0 then -w else w).natAbs ≤ 20 := by
 split
 · rw [Int.natAbs_neg]; exact na20 h
 · exact na20 h
theorem pgl {x j : Nat} (h : x ≤ 2 + 60 * j + 55) : x ≤ 2 + 60 * (j + 1) := Nat.le_trans h (dl0 55 60 rfl)
theorem dul {x j : Nat} (h : x ≤ 1 + 8 * j + 7) : x ≤ 1 + 8 * (j + 1) := Nat.le_trans h (dl0 7 8 rfl)
theorem b60 {x j : Nat} (h : x ≤ 2 + 60 * j) (hj : j ≤ 5) : x ≤ 302 := Nat.le_trans h (Nat.add_le_add_left (Nat.mul_le_mul_left 60 hj) 2)
theorem b8 {x j : Nat} (h : x ≤ 1 + 8 * j) (hj : j ≤ 5) : x ≤ 41 := Nat.le_trans h (Nat.add_le_add_left (Nat.mul_le_mul_left 8 hj) 1)
theorem b2 {x e b : Nat} (h : x = 2 * e) (he : e ≤ b) : x ≤ 2 * b := Nat.le_trans (Nat.le_of_eq h) (Nat.mul_le_mul_left 2 he)
theorem b42 {x e : Nat} (h : x ≤ 2 * e + 2) (he : e ≤ 20) : x ≤ 42 := Nat.le_trans h (Nat.add_le_add_right (Nat.mul_le_mul_left 2 he) 2)
theorem left20 {a b c : Nat} (h : b < a) (ha : a ≤ 6) (hc : c ≤ 6) : -20 ≤ (a : Int) - b - 1 - c ∧ (a : Int) - b - 1 - c ≤ 20 := by omega
theorem len1 {n : Nat} (h : n ≤ 6) : 1 * ((n : Int) - 1).toNat ≤ 256 := by
 rw [Nat.one_mul, tn1]; exact Nat.le_trans (Nat.sub_le n 1) (Nat.le_trans h (by decide))
theorem m63 {n : Nat} (h : n ≤ 6) : -2 ^ 63 ≤ (n : Int) - 1 ∧ (n : Int) - 1 < 2 ^ 63 := ⟨Int.le_trans (by decide) (Int.sub_le_sub_right (Int.natCast_nonneg n) 1), Int.lt_of_le_of_lt (Int.sub_le_self _ (by decide)) (Int.lt_of_le_of_lt (Int.ofNat_le.2 h) (by decide))⟩
theorem up1 {u n : Nat} (h : 1 ≤ u ∧ u < 1 + (n - 1)) : 1 ≤ u ∧ u < n := by
 refine ⟨h.1, ?_⟩
 cases n with
 | zero => exact no h.1 h.2
 | succ n => exact cm1 h.2
theorem t20 {n : Int} (h1 : -20 ≤ n) (h2 : n ≤ 20) : ∃ m : _root_.Fin 41, (m.val : Int) - 20 = n := ⟨⟨(n + 20).toNat, by omega⟩, by simp only; omega⟩
theorem rsz {a b : Int} : (if a < b then b - a else 0) = ((b - a).toNat : Int) := by
 split
 · rename_i h; exact (Int.toNat_of_nonneg (Int.sub_nonneg_of_le (Int.le_of_lt h))).symm
 · rename_i h; rw [Int.toNat_eq_zero.mpr (Int.sub_nonpos_of_le (Int.not_lt.mp h))]; rfl
theorem m6 {a : Int} (h : -1000000 ≤ a ∧ a ≤ 1000000000) : -2 ^ 63 ≤ a ∧ a < 2 ^ 63 := ⟨Int.le_trans (by decide) h.1, Int.lt_of_le_of_lt h.2 (by decide)⟩
theorem m62 {a b : Int} (ha : -1000000 ≤ a ∧ a ≤ 1000000000) (hb : -1000000 ≤ b ∧ b ≤ 1000000000) : ((b - a).toNat : Int) < 2 ^ 63 :=
 Int.lt_of_le_of_lt (Int.ofNat_le.2 (Int.toNat_le.mpr (Int.sub_le_sub hb.2 ha.1))) (by decide)
theorem nb9 {a : Nat} (h : a ≤ 1000000000) : -1000000 ≤ (a : Int) ∧ (a : Int) ≤ 1000000000 := ⟨Int.le_trans (by decide) (Int.natCast_nonneg a), Int.ofNat_le.2 h⟩
theorem n15 {x : Int} (h1 : 0 ≤ x) (h2 : x < 15) : (x - 4).natAbs ≤ 20 := na20 ⟨Int.le_trans (by decide) (Int.sub_le_sub_right h1 4), Int.le_trans (Int.sub_le_sub_right (Int.le_of_lt h2) 4) (by decide)⟩
theorem f6 {n r : Nat} (h : r = n + 1) (hf : n = 4 ∨ n = 5) : r ≤ 6 := Nat.le_trans (Nat.le_of_eq h) (Nat.succ_le_succ (n45 hf))
theorem up63 {n : Nat} (h : n ≤ 1000) : -2 ^ 63 ≤ (n : Int) - 1 ∧ (n : Int) - 1 < 2 ^ 63 := ⟨Int.le_trans (by decide) (Int.sub_le_sub_right (Int.natCast_nonneg n) 1), Int.lt_of_le_of_lt (Int.sub_le_self _ (by decide)) (Int.lt_of_le_of_lt (Int.ofNat_le.2 h) (by decide))⟩
theorem nn1 {n : Nat} (h : 1 ≤ n) : 0 ≤ (n : Int) - 1 := Int.sub_nonneg_of_le (Int.ofNat_le.2 h)
theorem ab3 {b s : Int} {l : Nat} (hb : b.natAbs ≤ 20) (hs : s.natAbs ≤ 20 * l) (hl : l ≤ 5) : (2 * b + s).natAbs ≤ 1000 :=
 Nat.le_trans (Int.natAbs_add_le _ s) (Nat.le_trans (Nat.add_le_add (Nat.le_trans (Nat.le_of_eq (Int.natAbs_mul 2 b)) (Nat.mul_le_mul_left 2 hb)) (Nat.le_trans hs (Nat.mul_le_mul_left 20 hl))) (by decide))
theorem q400 {q : Int} (h : q.natAbs ≤ 20 * 20) (h2 : 0 ≤ q) : (1 - q).natAbs ≤ 400 := by omega
theorem k3 {c : Nat} (h : c = 38 ∨ c = 62 ∨ c = 34) : c = 38 ∨ c = 60 ∨ c = 62 ∨ c = 34 ∨ c = 10 := h.elim .inl fun h => .inr (.inr (h.elim .inl fun h => .inr (.inl h)))
set_option compiler.extract_closed false in
def ir : Lean.Syntax := .node .none `Lean.Parser.Tactic.tacticSeq #[.node .none `Lean.Parser.Tactic.tacticSeq1Indented #[.node .none `null #[.node .none `Lean.Parser.Tactic.intros #[.atom .none "intros", .node .none `null #[]], .atom .none ";", .node .none `Lean.Parser.Tactic.first #[.atom .none "first", .node .none `null #[.node .none `group #[.atom .none "|", .node .none `Lean.Parser.Tactic.tacticSeq #[.node .none `Lean.Parser.Tactic.tacticSeq1Indented #[.node .none `null #[.node .none `Lean.Parser.Tactic.tacticRfl #[.atom .none "rfl"]]]]], .node .none `group #[.atom .none "|", .node .none `Lean.Parser.Tactic.tacticSeq #[.node .none `Lean.Parser.Tactic.tacticSeq1Indented #[.node .none `null #[.node .none `Lean.Parser.Tactic.withUnfoldingAll #[.atom .none "with_unfolding_all", .node .none `Lean.Parser.Tactic.tacticSeq #[.node .none `Lean.Parser.Tactic.tacticSeq1Indented #[.node .none `null #[.node .none `Lean.Parser.Tactic.tacticRfl #[.atom .none "rfl"]]]]]]]]]]]]]]
set_option compiler.extract_closed false in
def de : Lean.Syntax := .node .none `Lean.Parser.Tactic.tacticSeq #[.node .none `Lean.Parser.Tactic.tacticSeq1Indented #[.node .none `null #[.node .none `Lean.Parser.Tactic.decide #[.atom .none "decide", .node .none `Lean.Parser.Tactic.optConfig #[.node .none `null #[]]]]]]
end
section
inductive D where
 | none
 | bool (b : Bool)
 | int (i : Int)
 | str (x : List Nat)
 | tup (l : List D)
 | lst (l : List D)
 | bor (l : List D)
 | new (l : List D)
 | val (v : Value)
 | rng (a b : Int)
 | dct (P : Obj -> Prop)
 | h (k : Nat)
structure St where
 vars : List (Str × D)
 own : List (List D)
structure Gl where
 prog : Program
 w : World
 K : Frag
 mg : Str -> Option Value
 mb : Str -> Option Value
structure TopG (G : Gl) (h : Heap) : Prop where
 k : G.K.In h
 g : h.Ns mainGlobals G.mg
 b : h.Ns builtinsNs G.mb
 nolimit : h.NoLimit
noncomputable def toS (x : List Nat) : Str := ⟨x.toArray⟩
theorem TopG.keeps {g : Gl} {h h' : Heap} (T : TopG g h) (hk : ∀ b o, h.get? b = some o -> h'.get? b = some o) : TopG g h' :=
 ⟨T.k.keeps hk, T.g.keeps hk, T.b.keeps hk, T.nolimit.keeps hk⟩
structure Kp0 (s s' : Shared) : Prop where
 heap : ∀ b o, s.heap.get? b = some o -> s'.heap.get? b = some o
 os : s'.os = s.os
 bare : AllBare s.gens -> AllBare s'.gens
 gens : ∀ (g : Nat) x, s.gens[g]? = some x -> s'.gens[g]? = some x
structure Kp (s s' : Shared) : Prop extends Kp0 s s' where
 toks : s.toks ≤ s'.toks
theorem Kp0.trans {a b c : Shared} (x : Kp0 a b) (y : Kp0 b c) : Kp0 a c :=
 ⟨fun d o e => y.heap d o (x.heap d o e), y.os.trans x.os, fun h => y.bare (x.bare h), fun g z e => y.gens g z (x.gens g z e)⟩
theorem Kp0.htok {s : Shared} {h : Heap} {t : Nat} (hk : ∀ b o, s.heap.get? b = some o -> h.get? b = some o) : Kp0 s { s with heap := h, toks := t } := ⟨hk, rfl, fun h => h, fun _ _ e => e⟩
theorem Kp0.tok (s : Shared) (t : Nat) : Kp0 s { s with toks := t } := ⟨fun _ _ e => e, rfl, fun h => h, fun _ _ e => e⟩
theorem Kp0.push (s : Shared) (o : Obj) (t : Nat) : Kp0 s { s with heap := s.heap.push o, toks := t } := Kp0.htok fun _ _ e => Heap.get?_push_of_some o e
theorem Kp.refl (s : Shared) : Kp s s := ⟨⟨fun _ _ e => e, rfl, fun h => h, fun _ _ e => e⟩, Nat.le_refl _⟩
theorem Kp.trans {a b c : Shared} (x : Kp a b) (y : Kp b c) : Kp a c := ⟨x.toKp0.trans y.toKp0, Nat.le_trans x.toks y.toks⟩
theorem Kp.tok (s : Shared) (t : Nat) (h : s.toks ≤ t := by first | exact Nat.le_succ _ | omega) : Kp s { s with toks := t } := ⟨Kp0.tok s t, h⟩
theorem Kp.push (s : Shared) (o : Obj) (t : Nat) (h : s.toks ≤ t := by first | exact Nat.le_refl _ | exact Nat.le_succ _ | omega) : Kp s { s with heap := s.heap.push o, toks := t } := ⟨Kp0.push s o t, h⟩
theorem wp_kp {α : Type} {M : Model} {A : Around} {t : Sem α} {P : α -> Shared -> Prop} {E : Value -> Shared -> Prop} {s : Shared} (h : wpAny M A t (fun v s' => Kp0 s s' ∧ P v s') E s) :
 wpAny M A t (fun v s' => Kp s s' ∧ P v s') E s :=
 wpAny_mono (wpAny_toks_of (Nat.le_refl s.toks) h) (fun _ _ x => ⟨⟨x.2.1, x.1⟩, x.2.2⟩) fun _ _ x => x.2
noncomputable def IsTupH (h : Heap) (a : Addr) (vs : Array Value) : Prop := ∃ n, IsT h a vs n
noncomputable def IsRngH (h : Heap) (a : Addr) (x y : Int) : Prop := ∃ t u v, IsRange h a x y 1 t u v
mutual
noncomputable def Holds (O : Addr -> Prop) (μ : List Addr) (h : Heap) : D -> Value -> Prop
 | .none, v => v = .none
 | .bool b, v => v = .bool b
 | .int i, v => ∃ t, v = .int i t
 | .str x, v => ∃ t, v = .str (toS x) t
 | .tup l, v => ∃ a vs, v = .ref a ∧ ¬ O a ∧ IsTupH h a vs ∧ HoldsL O μ h l vs.toList
 | .lst l, v => ∃ a vs, v = .ref a ∧ ¬ O a ∧ h.IsList a vs ∧ HoldsL O μ h l vs.toList
 | .bor l, v => ∃ a vs, v = .ref a ∧ h.IsList a vs ∧ HoldsL O μ h l vs.toList
 | .new l, v => ∃ a vs, v = .ref a ∧ ¬ O a ∧ h.PlainList a vs ∧ HoldsL O μ h l vs.toList
 | .val w, v => v = w
 | .rng x y, v => ∃ a, v = .ref a ∧ ¬ O a ∧ IsRngH h a x y
 | .dct P, v => ∃ a o, v = .ref a ∧ ¬ O a ∧ h.get? a = some o ∧ P o
 | .h k, v => ∃ a, μ[k]? = some a ∧ v = .ref a
noncomputable def HoldsL (O : Addr -> Prop) (μ : List Addr) (h : Heap) : List D -> List Value -> Prop
 | [], [] => True
 | d :: ds, v :: vs => Holds O μ h d v ∧ HoldsL O μ h ds vs
 | _, _ => False
end
theorem IsTupH.keeps {h h' : Heap} {a : Addr} {vs : Array Value} (x : IsTupH h a vs) (hk : ∀ o, h.get? a = some o -> h'.get? a = some o) : IsTupH h' a vs := (by obtain ⟨n, e⟩ := x; exact ⟨n, hk _ e⟩)
theorem IsRngH.keeps {h h' : Heap} {a : Addr} {x y : Int} (z : IsRngH h a x y) (hk : ∀ o, h.get? a = some o -> h'.get? a = some o) : IsRngH h' a x y := (by obtain ⟨t, u, v, e⟩ := z; exact ⟨t, u, v, hk _ e⟩)
mutual
noncomputable def D.firm : D -> Bool
 | .bor _ => false
 | .tup l => D.firmL l
 | .lst l => D.firmL l
 | .new l => D.firmL l
 | _ => true
noncomputable def D.firmL : List D -> Bool
 | [] => true
 | d :: r => d.firm && D.firmL r
end
mutual
theorem Holds.keep {O : Addr -> Prop} {μ : List Addr} {h h' : Heap} (hk : ∀ b o, h.get? b = some o -> h'.get? b = some o) : ∀ {d : D} {v : Value}, Holds O μ h d v -> Holds O μ h' d v
 | .none, _, e => e
 | .bool _, _, e => e
 | .int _, _, e => e
 | .str _, _, e => e
 | .tup _, _, ⟨a, vs, e, n, t, l⟩ => ⟨a, vs, e, n, t.keeps (hk a), HoldsL.keep hk l⟩
 | .lst _, _, ⟨a, vs, e, n, t, l⟩ => ⟨a, vs, e, n, t.at (hk a), HoldsL.keep hk l⟩
 | .bor _, _, ⟨a, vs, e, t, l⟩ => ⟨a, vs, e, t.at (hk a), HoldsL.keep hk l⟩
 | .new _, _, ⟨a, vs, e, n, t, l⟩ => ⟨a, vs, e, n, t.at (hk a), HoldsL.keep hk l⟩
 | .val _, _, e => e
 | .rng _ _, _, ⟨a, e, n, t⟩ => ⟨a, e, n, t.keeps (hk a)⟩
 | .dct _, _, ⟨a, o, e, n, t, p⟩ => ⟨a, o, e, n, hk a o t, p⟩
 | .h _, _, e => e
theorem HoldsL.keep {O : Addr -> Prop} {μ : List Addr} {h h' : Heap} (hk : ∀ b o, h.get? b = some o -> h'.get? b = some o) : ∀ {ds : List D} {vs : List Value}, HoldsL O μ h ds vs -> HoldsL O μ h' ds vs
 | [], [], _ => trivial
 | _ :: _, _ :: _, ⟨e, r⟩ => ⟨Holds.keep hk e, HoldsL.keep hk r⟩
 | [], _ :: _, e => e
 | _ :: _, [], e => e
end
mutual
theorem Holds.firm {O O' : Addr -> Prop} {μ : List Addr} {h h' : Heap} (hO : ∀ a o, ¬ O a -> h.get? a = some o -> ¬ O' a) (hk : ∀ b o, ¬ O b -> h.get? b = some o -> h'.get? b = some o) : ∀ {d : D} {v : Value}, d.firm = true -> Holds O μ h d v -> Holds O' μ h' d v
 | .none, _, _, e => e
 | .bool _, _, _, e => e
 | .int _, _, _, e => e
 | .str _, _, _, e => e
 | .tup _, _, f, ⟨a, vs, e, n, t, l⟩ => ⟨a, vs, e, ((by obtain ⟨_, e'⟩ := t; exact hO a _ n e')), t.keeps fun o => hk a o n, HoldsL.firm hO hk f l⟩
 | .lst _, _, f, ⟨a, vs, e, n, t, l⟩ => ⟨a, vs, e, ((by obtain ⟨_, e', _⟩ := t; exact hO a _ n e')), t.at fun o => hk a o n, HoldsL.firm hO hk f l⟩
 | .bor _, _, f, _ => nomatch f
 | .new _, _, f, ⟨a, vs, e, n, t, l⟩ => ⟨a, vs, e, ((by obtain ⟨_, e'⟩ := t; exact hO a _ n e')), t.at fun o => hk a o n, HoldsL.firm hO hk f l⟩
 | .val _, _, _, e => e
 | .rng _ _, _, _, ⟨a, e, n, t⟩ => ⟨a, e, ((by obtain ⟨_, _, _, e'⟩ := t; exact hO a _ n e')), t.keeps fun o => hk a o n⟩
 | .dct _, _, _, ⟨a, o, e, n, t, p⟩ => ⟨a, o, e, hO a o n t, hk a o n t, p⟩
 | .h _, _, _, e => e
theorem HoldsL.firm {O O' : Addr -> Prop} {μ : List Addr} {h h' : Heap} (hO : ∀ a o, ¬ O a -> h.get? a = some o -> ¬ O' a) (hk : ∀ b o, ¬ O b -> h.get? b = some o -> h'.get? b = some o) : ∀ {ds : List D} {vs : List Value}, D.firmL ds = true -> HoldsL O μ h ds vs -> HoldsL O' μ h' ds vs
 | [], [], _, _ => trivial
 | _ :: _, _ :: _, f, ⟨e, r⟩ => ⟨Holds.firm hO hk (Bool.and_eq_true_iff.mp f).1 e, HoldsL.firm hO hk (Bool.and_eq_true_iff.mp f).2 r⟩
 | [], _ :: _, _, e => e
 | _ :: _, [], _, e => e
end
mutual
noncomputable def D.clean : D -> Bool
 | .bor _ => false
 | .h _ => false
 | .tup l => D.cleanL l
 | .lst l => D.cleanL l
 | .new l => D.cleanL l
 | _ => true
noncomputable def D.cleanL : List D -> Bool
 | [] => true
 | d :: r => d.clean && D.cleanL r
end
mutual
theorem Holds.clean {O O' : Addr -> Prop} {μ μ' : List Addr} {h h' : Heap} (hO : ∀ a o, ¬ O a -> h.get? a = some o -> ¬ O' a) (hk : ∀ b o, ¬ O b -> h.get? b = some o -> h'.get? b = some o) : ∀ {d : D} {v : Value}, d.clean = true -> Holds O μ h d v -> Holds O' μ' h' d v
 | .none, _, _, e => e
 | .bool _, _, _, e => e
 | .int _, _, _, e => e
 | .str _, _, _, e => e
 | .tup _, _, f, ⟨a, vs, e, n, t, l⟩ => ⟨a, vs, e, ((by obtain ⟨_, e'⟩ := t; exact hO a _ n e')), t.keeps fun o => hk a o n, HoldsL.clean hO hk f l⟩
 | .lst _, _, f, ⟨a, vs, e, n, t, l⟩ => ⟨a, vs, e, ((by obtain ⟨_, e', _⟩ := t; exact hO a _ n e')), t.at fun o => hk a o n, HoldsL.clean hO hk f l⟩
 | .bor _, _, f, _ => nomatch f
 | .new _, _, f, ⟨a, vs, e, n, t, l⟩ => ⟨a, vs, e, ((by obtain ⟨_, e'⟩ := t; exact hO a _ n e')), t.at fun o => hk a o n, HoldsL.clean hO hk f l⟩
 | .val _, _, _, e => e
 | .rng _ _, _, _, ⟨a, e, n, t⟩ => ⟨a, e, ((by obtain ⟨_, _, _, e'⟩ := t; exact hO a _ n e')), t.keeps fun o => hk a o n⟩
 | .dct _, _, _, ⟨a, o, e, n, t, p⟩ => ⟨a, o, e, hO a o n t, hk a o n t, p⟩
 | .h _, _, f, _ => nomatch f
theorem HoldsL.clean {O O' : Addr -> Prop} {μ μ' : List Addr} {h h' : Heap} (hO : ∀ a o, ¬ O a -> h.get? a = some o -> ¬ O' a) (hk : ∀ b o, ¬ O b -> h.get? b = some o -> h'.get? b = some o) : ∀ {ds : List D} {vs : List Value}, D.cleanL ds = true -> HoldsL O μ h ds vs -> HoldsL O' μ' h' ds vs
 | [], [], _, _ => trivial
 | _ :: _, _ :: _, f, ⟨e, r⟩ => ⟨Holds.clean hO hk (Bool.and_eq_true_iff.mp f).1 e, HoldsL.clean hO hk (Bool.and_eq_true_iff.mp f).2 r⟩
 | [], _ :: _, _, e => e
 | _ :: _, [], _, e => e
end
theorem firmL_append : ∀ (a b : List D), D.firmL (a ++ b) = (D.firmL a && D.firmL b)
 | [], b => rfl
 | d :: r, b => by show (d.firm && D.firmL (r ++ b)) = _; rw [firmL_append r b, ← Bool.and_assoc]; rfl
theorem cleanL_append : ∀ (a b : List D), D.cleanL (a ++ b) = (D.cleanL a && D.cleanL b)
 | [], b => rfl
 | d :: r, b => by show (d.clean && D.cleanL (r ++ b)) = _; rw [cleanL_append r b, ← Bool.and_assoc]; rfl
theorem firmL_map {α : Type} (f : α -> D) (h : ∀ x, (f x).firm = true) : ∀ l : List α, D.firmL (l.map f) = true
 | [] => rfl
 | x :: r => by show ((f x).firm && D.firmL (r.map f)) = true; rw [h, firmL_map f h r]; rfl
theorem cleanL_map {α : Type} (f : α -> D) (h : ∀ x, (f x).clean = true) : ∀ l : List α, D.cleanL (l.map f) = true
 | [] => rfl
 | x :: r => by show ((f x).clean && D.cleanL (r.map f)) = true; rw [h, cleanL_map f h r]; rfl
theorem firmL_iff : ∀ {l : List D}, D.firmL l = true ↔ ∀ d ∈ l, d.firm = true
 | [] => ⟨fun _ _ h => (nomatch h), fun _ => rfl⟩
 | d :: r => by
  show (d.firm && D.firmL r) = true ↔ _
  rw [Bool.and_eq_true, firmL_iff (l := r)]; simp
theorem cleanL_iff : ∀ {l : List D}, D.cleanL l = true ↔ ∀ d ∈ l, d.clean = true
 | [] => ⟨fun _ _ h => (nomatch h), fun _ => rfl⟩
 | d :: r => by
  show (d.clean && D.cleanL r) = true ↔ _
  rw [Bool.and_eq_true, cleanL_iff (l := r)]; simp
theorem HoldsL.length {O : Addr -> Prop} {μ : List Addr} {h : Heap} : ∀ {ds : List D} {vs : List Value}, HoldsL O μ h ds vs -> ds.length = vs.length
 | [], [], _ => rfl
 | _ :: _, _ :: _, ⟨_, r⟩ => congrArg (· + 1) (HoldsL.length r)
 | [], _ :: _, e => e.elim
 | _ :: _, [], e => e.elim
theorem HoldsL.nil {O : Addr -> Prop} {μ : List Addr} {h : Heap} {vs : List Value} (x : HoldsL O μ h [] vs) : vs = [] := by
 cases vs with
 | nil => rfl
 | cons _ _ => exact x.elim
theorem HoldsL.cons {O : Addr -> Prop} {μ : List Addr} {h : Heap} {d : D} {ds : List D} {vs : List Value} (x : HoldsL O μ h (d :: ds) vs) : ∃ v us, vs = v :: us ∧ Holds O μ h d v ∧ HoldsL O μ h ds us := by
 cases vs with
 | nil => exact x.elim
 | cons v us => exact ⟨v, us, rfl, x.1, x.2⟩
theorem HoldsL.one {O : Addr -> Prop} {μ : List Addr} {h : Heap} {d : D} {vs : List Value} (x : HoldsL O μ h [d] vs) : ∃ v, vs = [v] ∧ Holds O μ h d v := by
 obtain ⟨v, us, rfl, y, z⟩ := x.cons
 rw [z.nil]; exact ⟨v, rfl, y⟩
theorem HoldsL.two {O : Addr -> Prop} {μ : List Addr} {h : Heap} {d e : D} {vs : List Value} (x : HoldsL O μ h [d, e] vs) : ∃ v u, vs = [v, u] ∧ Holds O μ h d v ∧ Holds O μ h e u := by
 obtain ⟨v, us, rfl, y, z⟩ := x.cons
 obtain ⟨u, rfl, w⟩ := z.one
 exact ⟨v, u, rfl, y, w⟩
theorem HoldsL.get {O : Addr -> Prop} {μ : List Addr} {h : Heap} : ∀ {ds : List D} {vs : List Value}, HoldsL O μ h ds vs -> ∀ {i : Nat} {d : D}, ds[i]? = some d -> ∃ v, vs[i]? = some v ∧ Holds O μ h d v
 | [], [], _, _, _, e => by cases e
 | _ :: _, _ :: _, ⟨x, _⟩, 0, _, e => by cases e; exact ⟨_, rfl, x⟩
 | _ :: _, _ :: _, ⟨_, r⟩, i + 1, d, e => by
  have := HoldsL.get r (i := i) (d := d) (by simpa using e)
  simpa using this
 | [], _ :: _, e, _, _, _ => e.elim
 | _ :: _, [], e, _, _, _ => e.elim
theorem HoldsL.append {O : Addr -> Prop} {μ : List Addr} {h : Heap} : ∀ {ds es : List D} {vs us : List Value}, HoldsL O μ h ds vs -> HoldsL O μ h es us -> HoldsL O μ h (ds ++ es) (vs ++ us)
 | [], _, [], _, _, y => y
 | _ :: _, _, _ :: _, _, ⟨x, r⟩, y => ⟨x, HoldsL.append r y⟩
 | [], _, _ :: _, _, e, _ => e.elim
 | _ :: _, _, [], _, e, _ => e.elim
structure Cx where
 env : Env
 O : Addr -> Prop
 base : Addr -> Obj -> Prop
 gb : Nat -> GenState -> Prop
 os : OsState
 mutc : List Addr
 fm : Bool
noncomputable def St.Firm (σ : St) : Prop := (∀ x d, σ.vars.lookup x = some d -> d.firm = true) ∧ ∀ (k : Nat) l, σ.own[k]? = some l -> D.firmL l = true
noncomputable def Cx.mut (c : Cx) (μ : List Addr) (a : Addr) : Prop := a ∈ μ ∨ a = c.env.locals ∨ a ∈ c.mutc
noncomputable def Cx.all (c : Cx) (μ : List Addr) (a : Addr) : Prop := c.O a ∨ c.mut μ a
structure R (G : Gl) (c : Cx) (μ : List Addr) (σ : St) (s : Shared) : Prop where
 os : s.os = c.os
 tok : 0 < s.toks
 bare : AllBare s.gens
 gens : ∀ g x, c.gb g x -> s.gens[g]? = some x
 base : ∀ a o, c.base a o -> s.heap.get? a = some o
 top : ∀ h : Heap, (∀ a o, c.base a o -> h.get? a = some o) -> TopG G h
 old : ∀ a, c.O a -> ∃ o, c.base a o
 len : μ.length = σ.own.length
 nodup : μ.Nodup
 mine : ∀ a, c.mut μ a -> ¬ c.O a ∧ ∀ o, ¬ c.base a o
 loc : ∃ m, s.heap.Ns c.env.locals m ∧ ∀ x d, σ.vars.lookup x = some d -> c.env.kindOf x = some .local -> ∃ v, m x = some v ∧ Holds (c.all μ) μ s.heap d v
 cell : ∀ x d, σ.vars.lookup x = some d -> c.env.kindOf x = some .cell ∨ c.env.kindOf x = some .free -> ∃ ca v, c.env.cells.lookup x = some ca ∧ s.heap.IsCell ca (some v) ∧ Holds (c.all μ) μ s.heap d v
 own : ∀ (k : Nat) items, σ.own[k]? = some items -> ∃ a vs, μ[k]? = some a ∧ s.heap.PlainList a vs ∧ HoldsL (c.all μ) μ s.heap items vs.toList
 kind : c.env.scope.kind = .function
 glob : c.env.globals = mainGlobals
 blt : c.env.builtins = builtinsNs
 cells : c.fm = true -> c.env.cells.Pairwise fun x y => x.2 ≠ y.2
 mutc : ∀ a ∈ c.mutc, ∃ x, s.heap.IsCell a x
 firm : c.fm = true -> σ.Firm
 mcell : c.fm = true -> ∀ x, c.env.kindOf x = some .cell -> ∃ ca, c.env.cells.lookup x = some ca ∧ ca ∈ c.mutc
 nofree : c.fm = true -> ∀ x, c.env.kindOf x ≠ some .free
theorem R.kp {G : Gl} {c : Cx} {μ : List Addr} {σ : St} {s s' : Shared} (r : R G c μ σ s) (k : Kp s s') : R G c μ σ s' where
 os := k.os.trans r.os
 tok := Nat.lt_of_lt_of_le r.tok k.toks
 bare := k.bare r.bare
 gens := fun g x h => k.gens g x (r.gens g x h)
 base := fun a o h => k.heap a o (r.base a o h)
 top := r.top
 old := r.old
 len := r.len
 nodup := r.nodup
 mine := r.mine
 loc := (by obtain ⟨m, hn, h⟩ := r.loc; exact ⟨m, hn.keeps k.heap, fun x d e l => (by obtain ⟨v, a, b⟩ := h x d e l; exact ⟨v, a, b.keep k.heap⟩)⟩)
 cell := fun x d e l => (by obtain ⟨ca, v, h1, h2, h3⟩ := r.cell x d e l; exact ⟨ca, v, h1, h2.keeps k.heap, h3.keep k.heap⟩)
 own := fun n items e => (by obtain ⟨a, vs, h1, h2, h3⟩ := r.own n items e; exact ⟨a, vs, h1, h2.at (k.heap a), h3.keep k.heap⟩)
 kind := r.kind
 glob := r.glob
 blt := r.blt
 cells := r.cells
 mutc := fun a h => (by obtain ⟨x, y⟩ := r.mutc a h; exact ⟨x, y.keeps k.heap⟩)
 firm := r.firm
 mcell := r.mcell
 nofree := r.nofree
theorem R.topG {G : Gl} {c : Cx} {μ : List Addr} {σ : St} {s : Shared} (r : R G c μ σ s) : TopG G s.heap := r.top _ r.base
noncomputable def Aok (k : Nat) (A : Around) : Prop := A.handled = none ∧ A.depth ≤ 310 + 10 * k ∧ A.units ≤ 100 * (k + 1) ∧ k ≤ 40
theorem Aok.step {k : Nat} {A B : Around} (h : Aok k A) (h1 : B.handled = A.handled) (hd : B.depth ≤ A.depth + 10) (hu : B.units ≤ A.units + 100) (hk : k < 40) : Aok (k + 1) B := ⟨h1.trans h.1, Nat.le_trans hd (Nat.add_le_add_right h.2.1 10), Nat.le_trans hu (Nat.add_le_add_right h.2.2.1 100), hk⟩
theorem Aok.in1 {k : Nat} {A : Around} (h : Aok k A) (hk : k < 40) : Aok (k + 1) A.in1 := h.step rfl (by simp) (by simp) hk
theorem Aok.deep {k : Nat} {A : Around} {env : Env} (h : Aok k A) (hk : k < 40) : Aok (k + 1) (A.deeper env) := h.step rfl (by show A.depth + 1 ≤ _; exact dl0 1 10 rfl) (by show A.units + 3 ≤ _; exact dl0 3 100 rfl) hk
theorem Aok.room {k : Nat} {A : Around} (h : Aok k A) : A.depth < recursionLimit := Nat.lt_of_le_of_lt h.2.1 (Nat.lt_of_le_of_lt (Nat.add_le_add_left (Nat.mul_le_mul_left 10 h.2.2.2) 310) (by decide))
theorem Aok.units {k : Nat} {A : Around} (h : Aok k A) : A.units < cLine := by have := h.2.2.1; have := h.2.2.2; unfold cLine; omega
noncomputable def Ev (G : Gl) (sc : Scope) (k : Nat) (σ : St) (e : Expr) (d : D) : Prop :=
 ∀ c μ A s, c.env.scope = sc -> Aok k A -> R G c μ σ s ->
  wpAny (model G.prog G.w) A (eval e c.env) (fun v s' => Kp s s' ∧ Holds (c.all μ) μ s'.heap d v) (fun _ _ => False) s
noncomputable def NewL (c : Cx) (μ : List Addr) (s s' : Shared) (l : List D) (v : Value) : Prop := ∃ a vs, v = .ref a ∧ s.heap.get? a = none ∧ s'.heap.PlainList a vs ∧ HoldsL (fun b => c.all μ b ∨ b = a) μ s'.heap l vs.toList
mutual
theorem Holds.weak {O O' : Addr -> Prop} {μ : List Addr} {h : Heap} (hO : ∀ a, O' a -> O a) : ∀ {d : D} {v : Value}, Holds O μ h d v -> Holds O' μ h d v
 | .none, _, e => e
 | .bool _, _, e => e
 | .int _, _, e => e
 | .str _, _, e => e
 | .tup _, _, ⟨a, vs, e, n, t, l⟩ => ⟨a, vs, e, fun q => n (hO a q), t, HoldsL.weak hO l⟩
 | .lst _, _, ⟨a, vs, e, n, t, l⟩ => ⟨a, vs, e, fun q => n (hO a q), t, HoldsL.weak hO l⟩
 | .bor _, _, ⟨a, vs, e, t, l⟩ => ⟨a, vs, e, t, HoldsL.weak hO l⟩
 | .new _, _, ⟨a, vs, e, n, t, l⟩ => ⟨a, vs, e, fun q => n (hO a q), t, HoldsL.weak hO l⟩
 | .val _, _, e => e
 | .rng _ _, _, ⟨a, e, n, t⟩ => ⟨a, e, fun q => n (hO a q), t⟩
 | .dct _, _, ⟨a, o, e, n, t, p⟩ => ⟨a, o, e, fun q => n (hO a q), t, p⟩
 | .h _, _, e => e
theorem HoldsL.weak {O O' : Addr -> Prop} {μ : List Addr} {h : Heap} (hO : ∀ a, O' a -> O a) : ∀ {ds : List D} {vs : List Value}, HoldsL O μ h ds vs -> HoldsL O' μ h ds vs
 | [], [], _ => trivial
 | _ :: _, _ :: _, ⟨e, r⟩ => ⟨Holds.weak hO e, HoldsL.weak hO r⟩
 | [], _ :: _, e => e
 | _ :: _, [], e => e
end
mutual
theorem Holds.avoid {O : Addr -> Prop} {μ : List Addr} {h : Heap} {z : Addr} (hz : h.get? z = none) : ∀ {d : D} {v : Value}, Holds O μ h d v -> Holds (fun b => O b ∨ b = z) μ h d v
 | .none, _, e => e
 | .bool _, _, e => e
 | .int _, _, e => e
 | .str _, _, e => e
 | .tup _, _, ⟨a, vs, e, n, t, l⟩ => ⟨a, vs, e, (fun q => q.elim n fun q => by obtain ⟨_, e'⟩ := t; unfold IsT at e'; rw [q, hz] at e'; cases e'), t, HoldsL.avoid hz l⟩
 | .lst _, _, ⟨a, vs, e, n, t, l⟩ => ⟨a, vs, e, (fun q => q.elim n fun q => by obtain ⟨_, e', _⟩ := t; rw [q, hz] at e'; cases e'), t, HoldsL.avoid hz l⟩
 | .bor _, _, ⟨a, vs, e, t, l⟩ => ⟨a, vs, e, t, HoldsL.avoid hz l⟩
 | .new _, _, ⟨a, vs, e, n, t, l⟩ => ⟨a, vs, e, (fun q => q.elim n fun q => by obtain ⟨_, e'⟩ := t; rw [q, hz] at e'; cases e'), t, HoldsL.avoid hz l⟩
 | .val _, _, e => e
 | .rng _ _, _, ⟨a, e, n, t⟩ => ⟨a, e, (fun q => q.elim n fun q => by obtain ⟨_, _, _, e'⟩ := t; rw [q] at e'; unfold IsRange at e'; rw [hz] at e'; cases e'), t⟩
 | .dct _, _, ⟨a, o, e, n, t, p⟩ => ⟨a, o, e, (fun q => q.elim n fun q => by rw [q, hz] at t; cases t), t, p⟩
 | .h _, _, e => e
theorem HoldsL.avoid {O : Addr -> Prop} {μ : List Addr} {h : Heap} {z : Addr} (hz : h.get? z = none) : ∀ {ds : List D} {vs : List Value}, HoldsL O μ h ds vs -> HoldsL (fun b => O b ∨ b = z) μ h ds vs
 | [], [], _ => trivial
 | _ :: _, _ :: _, ⟨e, r⟩ => ⟨Holds.avoid hz e, HoldsL.avoid hz r⟩
 | [], _ :: _, e => e
 | _ :: _, [], e => e
end
theorem fresh_size (h : Heap) : h.get? h.objs.size = none := by
 cases e : h.get? h.objs.size with
 | none => rfl
 | some o => exact absurd (Heap.lt_size e) (Nat.lt_irrefl _)
noncomputable def EvN (G : Gl) (sc : Scope) (k : Nat) (σ : St) (e : Expr) (l : List D) : Prop :=
 ∀ c μ A s, c.env.scope = sc -> Aok k A -> R G c μ σ s ->
  wpAny (model G.prog G.w) A (eval e c.env) (fun v s' => Kp s s' ∧ NewL c μ s s' l v) (fun _ _ => False) s
noncomputable def Tr (G : Gl) (sc : Scope) (k : Nat) (σ : St) (e : Expr) (b : Bool) : Prop :=
 ∀ c μ A s, c.env.scope = sc -> Aok k A -> R G c μ σ s ->
  wpAny (model G.prog G.w) A (isTrue e c.env (eval e c.env)) (fun v s' => Kp s s' ∧ v = b) (fun _ _ => False) s
theorem R.mutAt {G : Gl} {c : Cx} {μ : List Addr} {σ : St} {s : Shared} (r : R G c μ σ s) {a : Addr} (h' : c.mut μ a) : ∃ o, s.heap.get? a = some o := by
 rcases h' with h' | h' | h'
 · obtain ⟨i, hi⟩ := List.getElem?_of_mem h'
   have hl := (List.getElem?_eq_some_iff.mp hi).1
   rw [r.len] at hl
   obtain ⟨a', vs, h1, ⟨n, h2⟩, _⟩ := r.own i _ (List.getElem?_eq_getElem hl)
   rw [hi] at h1; cases h1
   exact ⟨_, h2⟩
 · obtain ⟨m, ⟨o, _, _, e, _⟩, _⟩ := r.loc
   subst h'; exact ⟨o, e⟩
 · obtain ⟨x, o, e, _⟩ := r.mutc a h'
   exact ⟨o, e⟩
theorem R.allAt {G : Gl} {c : Cx} {μ : List Addr} {σ : St} {s : Shared} (r : R G c μ σ s) {a : Addr} (h' : c.all μ a) : ∃ o, s.heap.get? a = some o := by
 rcases h' with h' | h'
 · obtain ⟨o, ho⟩ := r.old a h'; exact ⟨o, r.base a o ho⟩
 · exact r.mutAt h'
theorem R.fresh {G : Gl} {c : Cx} {μ : List Addr} {σ : St} {s : Shared} (r : R G c μ σ s) {a : Addr} (h : s.heap.get? a = none) : ¬ c.all μ a := by
 intro h'
 obtain ⟨o, ho⟩ := r.allAt h'
 rw [ho] at h; cases h
theorem EvN.ev {G : Gl} {sc : Scope} {k : Nat} {σ : St} {e : Expr} {l : List D} (x : EvN G sc k σ e l) : Ev G sc k σ e (.lst l) := fun c μ A s hc hA r =>
 wpAny_mono (x c μ A s hc hA r) (fun _ _ hp => by obtain ⟨kp, a, vs, e1, e2, e3, e4⟩ := hp; exact ⟨kp, a, vs, e1, r.fresh e2, e3.isList, e4.weak fun _ h => .inl h⟩) fun _ _ f => f
end
section
section
variable {G : Gl} {sc : Scope} {k : Nat} {σ : St}
theorem ev_int {i : Int} {n : Nat} {p : Pos} : Ev G sc k σ (.Constant (.int i) n p) (.int i) := fun _ _ _ s _ _ _ _ _ _ => ⟨Kp.tok s _, ⟨_, rfl⟩⟩
theorem ev_str {x : Str} {n : Nat} {p : Pos} : Ev G sc k σ (.Constant (.str x) n p) (.str x.cps.toList) := fun _ _ _ s _ _ _ _ _ _ => ⟨Kp.tok s _, ⟨_, rfl⟩⟩
theorem ev_bool {b : Bool} {n : Nat} {p : Pos} : Ev G sc k σ (.Constant (.bool b) n p) (.bool b) := fun _ _ _ s _ _ _ _ _ _ => ⟨Kp.refl s, rfl⟩
theorem ev_none {n : Nat} {p : Pos} : Ev G sc k σ (.Constant .none n p) .none := fun _ _ _ s _ _ _ _ _ _ => ⟨Kp.refl s, rfl⟩
theorem kindOf_of {env : Env} {x : Str} {n : Option NameKind} (hc : env.scope = sc) (h : sc.names.lookup x = n) : env.kindOf x = n := by unfold Env.kindOf; rw [hc]; exact h
theorem ev_loc {x : Str} {p : Pos} {d : D} (hn : sc.names.lookup x = some .local) (hv : σ.vars.lookup x = some d) (hd : autoParam ((x == ("__debug__" : Str)) = false) de) : Ev G sc k σ (.Name x p) d := by
 intro c μ A s hc hA r
 obtain ⟨m, hm, h⟩ := r.loc
 obtain ⟨v, h1, h2⟩ := h x d hv (kindOf_of hc hn)
 exact wpAny_Name (wpAny_loadName_local r.kind (kindOf_of hc hn) hm h1 ⟨Kp.refl s, h2⟩) hd
theorem ev_cell {x : Str} {p : Pos} {d : D} (hn : sc.names.lookup x = some .cell) (hv : σ.vars.lookup x = some d) (hd : autoParam ((x == ("__debug__" : Str)) = false) de) : Ev G sc k σ (.Name x p) d := by
 intro c μ A s hc hA r
 obtain ⟨ca, v, h1, h2, h3⟩ := r.cell x d hv (.inl (kindOf_of hc hn))
 exact wpAny_Name (wpAny_loadName_cell r.kind (kindOf_of hc hn) h1 h2 ⟨Kp.refl s, h3⟩) hd
theorem ev_glob {x : Str} {p : Pos} {v : Value} (hn : sc.names.lookup x = some .globalImplicit) (hv : G.mg x = some v) (hd : autoParam ((x == ("__debug__" : Str)) = false) de) : Ev G sc k σ (.Name x p) (.val v) := by
 intro c μ A s hc hA r
 exact Calls.Name_function_global r.kind (kindOf_of hc hn) (Calls.loadGlobal_global (by rw [r.glob]; exact r.topG.g) hv ⟨Kp.refl s, rfl⟩) hd
theorem ev_blt {x : Str} {p : Pos} {v : Value} (hn : sc.names.lookup x = some .globalImplicit) (hg : G.mg x = none) (hv : G.mb x = some v) (hd : autoParam ((x == ("__debug__" : Str)) = false) de) : Ev G sc k σ (.Name x p) (.val v) := by
 intro c μ A s hc hA r
 exact Calls.Name_function_global r.kind (kindOf_of hc hn) (Calls.loadGlobal_builtin (by rw [r.glob]; exact r.topG.g) hg (by rw [r.blt]; exact r.topG.b) hv ⟨Kp.refl s, rfl⟩) hd
noncomputable def Two (G : Gl) (sc : Scope) (k : Nat) (σ : St) (t : Value -> Value -> Sem Value) (d1 d2 d : D) : Prop :=
 ∀ c μ A s v1 v2, c.env.scope = sc -> Aok k A -> R G c μ σ s -> Holds (c.all μ) μ s.heap d1 v1 -> Holds (c.all μ) μ s.heap d2 v2 ->
  wpAny (model G.prog G.w) A (t v1 v2) (fun v s' => Kp s s' ∧ Holds (c.all μ) μ s'.heap d v) (fun _ _ => False) s
noncomputable def TwoN (G : Gl) (sc : Scope) (k : Nat) (σ : St) (t : Value -> Value -> Sem Value) (d1 d2 : D) (l : List D) : Prop :=
 ∀ c μ A s v1 v2, c.env.scope = sc -> Aok k A -> R G c μ σ s -> Holds (c.all μ) μ s.heap d1 v1 -> Holds (c.all μ) μ s.heap d2 v2 ->
  wpAny (model G.prog G.w) A (t v1 v2) (fun v s' => Kp s s' ∧ NewL c μ s s' l v) (fun _ _ => False) s
noncomputable def One (G : Gl) (sc : Scope) (k : Nat) (σ : St) (t : Value -> Sem Value) (d1 d : D) : Prop :=
 ∀ c μ A s v1, c.env.scope = sc -> Aok k A -> R G c μ σ s -> Holds (c.all μ) μ s.heap d1 v1 ->
  wpAny (model G.prog G.w) A (t v1) (fun v s' => Kp s s' ∧ Holds (c.all μ) μ s'.heap d v) (fun _ _ => False) s
theorem none_of_kp {s s' : Shared} (k : Kp s s') {a : Addr} (h : s'.heap.get? a = none) : s.heap.get? a = none := by
 cases e : s.heap.get? a with
 | none => rfl
 | some o => rw [k.heap a o e] at h; cases h
theorem ev_bin {e1 e2 : Expr} {op : Operator} {p : Pos} {d1 d2 d : D} (h1 : Ev G sc k σ e1 d1) (h2 : Ev G sc k σ e2 d2) (ho : Two G sc k σ (binaryOp op) d1 d2 d) : Ev G sc k σ (.BinOp e1 op e2 p) d := by
 intro c μ A s hc hA r
 refine wpAny_BinOp (wpAny_mono (h1 c μ A s hc hA r) (fun v1 s1 ⟨k1, x1⟩ => wpAny_mono (h2 c μ A s1 hc hA (r.kp k1)) (fun v2 s2 hq => ?_) fun _ _ f => f) fun _ _ f => f)
 obtain ⟨k2, x2⟩ := hq
 exact wpAny_mono (ho c μ A s2 v1 v2 hc hA (r.kp (k1.trans k2)) (x1.keep k2.heap) x2) (fun v s3 hp => by obtain ⟨k3, x3⟩ := hp; exact ⟨(k1.trans k2).trans k3, x3⟩) fun _ _ f => f
theorem evN_bin {e1 e2 : Expr} {op : Operator} {p : Pos} {d1 d2 : D} {l : List D} (h1 : Ev G sc k σ e1 d1) (h2 : Ev G sc k σ e2 d2) (ho : TwoN G sc k σ (binaryOp op) d1 d2 l) : EvN G sc k σ (.BinOp e1 op e2 p) l := by
 intro c μ A s hc hA r
 refine wpAny_BinOp (wpAny_mono (h1 c μ A s hc hA r) (fun v1 s1 ⟨k1, x1⟩ => wpAny_mono (h2 c μ A s1 hc hA (r.kp k1)) (fun v2 s2 hq => ?_) fun _ _ f => f) fun _ _ f => f)
 obtain ⟨k2, x2⟩ := hq
 exact wpAny_mono (ho c μ A s2 v1 v2 hc hA (r.kp (k1.trans k2)) (x1.keep k2.heap) x2) (fun v s3 hp => by obtain ⟨k3, a, vs, y1, y2, y3⟩ := hp; exact ⟨(k1.trans k2).trans k3, a, vs, y1, none_of_kp (k1.trans k2) y2, y3⟩) fun _ _ f => f
theorem ev_cmp {e1 e2 : Expr} {op : CmpOp} {p : Pos} {d1 d2 d : D} (h1 : Ev G sc k σ e1 d1) (h2 : Ev G sc k σ e2 d2) (ho : Two G sc k σ (compareOp op) d1 d2 d) (hm : autoParam (behindInMarks op e2 = false) ir) :
 Ev G sc k σ (.Compare e1 [op] [e2] p) d := by
 intro c μ A s hc hA r
 refine wpAny_Compare1 (wpAny_mono (h1 c μ A s hc hA r) (fun v1 s1 ⟨k1, x1⟩ => wpAny_mono (h2 c μ A s1 hc hA (r.kp k1)) (fun v2 s2 hq => ?_) fun _ _ f => f) fun _ _ f => f) hm
 obtain ⟨k2, x2⟩ := hq
 exact wpAny_mono (ho c μ A s2 v1 v2 hc hA (r.kp (k1.trans k2)) (x1.keep k2.heap) x2) (fun v s3 hp => by obtain ⟨k3, x3⟩ := hp; exact ⟨(k1.trans k2).trans k3, x3⟩) fun _ _ f => f
theorem tr_cmp {e1 e2 : Expr} {op : CmpOp} {p : Pos} {d1 d2 : D} {b : Bool} (h1 : Ev G sc k σ e1 d1) (h2 : Ev G sc k σ e2 d2) (ho : Two G sc k σ (compareOp op) d1 d2 (.bool b)) (hm : autoParam (behindInMarks op e2 = false) ir) :
 Tr G sc k σ (.Compare e1 [op] [e2] p) b := by
 intro c μ A s hc hA r
 refine wpAny_isTrue_Compare1 (wpAny_mono (h1 c μ A s hc hA r) (fun v1 s1 ⟨k1, x1⟩ => wpAny_mono (h2 c μ A s1 hc hA (r.kp k1)) (fun v2 s2 hq => ?_) fun _ _ f => f) fun _ _ f => f) hm
 obtain ⟨k2, x2⟩ := hq
 refine wpAny_mono (ho c μ A s2 v1 v2 hc hA (r.kp (k1.trans k2)) (x1.keep k2.heap) x2) (fun v s3 hq => ?_) fun _ _ f => f
 obtain ⟨k3, x3⟩ := hq
 have x3' : v = .bool b := x3
 subst x3'
 exact wpAny_truthy_bool ⟨(k1.trans k2).trans k3, rfl⟩
theorem tr_bool {e : Expr} {b : Bool} (h : Ev G sc k σ e (.bool b)) (hp : autoParam (∀ env whole, isTrue e env whole = (do let v ← whole; standAt e.pos; holding [v] (truthy v))) ir) : Tr G sc k σ e b := by
 intro c μ A s hc hA r
 rw [hp]
 refine wpAny_bind (wpAny_mono (h c μ A s hc hA r) (fun v s1 ⟨k1, x1⟩ => wpAny_bind (wpAny_standAt (wpAny_holding ?_))) fun _ _ f => f)
 have x1' : v = .bool b := x1
 subst x1'
 exact wpAny_truthy_bool ⟨k1, rfl⟩
theorem ev_un {e : Expr} {op : UnaryOp} {p : Pos} {d1 d : D} (h1 : Ev G sc k σ e d1) (ho : One G sc k σ (unaryOp op) d1 d) : Ev G sc k σ (.UnaryOp op e p) d := by
 intro c μ A s hc hA r
 exact wpAny_UnaryOp (wpAny_mono (h1 c μ A s hc hA r) (fun v1 s1 hp => by obtain ⟨k1, x1⟩ := hp; exact wpAny_mono (ho c μ A s1 v1 hc hA (r.kp k1) x1) (fun v s3 hp => by obtain ⟨k3, x3⟩ := hp; exact ⟨k1.trans k3, x3⟩) fun _ _ f => f) fun _ _ f => f)
theorem ev_if {t a b : Expr} {p : Pos} {q : Bool} {d : D} (ht : Tr G sc k σ t q) (ha : q = true -> Ev G sc k σ a d) (hb : q = false -> Ev G sc k σ b d) : Ev G sc k σ (.IfExp t a b p) d := by
 intro c μ A s hc hA r
 rw [eval_IfExp]
 refine wpAny_bind (wpAny_mono (ht c μ A s hc hA r) (fun v s1 hq => ?_) fun _ _ f => f)
 obtain ⟨k1, x1⟩ := hq
 subst x1
 cases v with
 | true => exact wpAny_mono (ha rfl c μ A s1 hc hA (r.kp k1)) (fun v s3 hp => by obtain ⟨k3, x3⟩ := hp; exact ⟨k1.trans k3, x3⟩) fun _ _ f => f
 | false => exact wpAny_mono (hb rfl c μ A s1 hc hA (r.kp k1)) (fun v s3 hp => by obtain ⟨k3, x3⟩ := hp; exact ⟨k1.trans k3, x3⟩) fun _ _ f => f
noncomputable def Trs (G : Gl) (sc : Scope) (k : Nat) (σ : St) (op : BoolOp) (es : List Expr) (b : Bool) : Prop :=
 ∀ c μ A s, c.env.scope = sc -> Aok k A -> R G c μ σ s -> wpAny (model G.prog G.w) A (allTrue op es c.env) (fun v s' => Kp s s' ∧ v = b) (fun _ _ => False) s
theorem trs_nil {op : BoolOp} : Trs G sc k σ op [] (op == .And) := fun _ _ _ s _ _ _ => wpAny_pure ⟨Kp.refl s, rfl⟩
theorem trs_or {e : Expr} {es : List Expr} {q b : Bool} (h : Tr G sc k σ e q) (hr : q = false -> Trs G sc k σ .Or es b) (hb : q = true -> b = true) : Trs G sc k σ .Or (e :: es) b := by
 intro c μ A s hc hA r
 show wpAny _ A (_ >>= _) _ _ s
 refine wpAny_bind (wpAny_mono (h c μ A s hc hA r) (fun v s1 hq => ?_) fun _ _ f => f)
 obtain ⟨k1, x1⟩ := hq
 subst x1
 cases v with
 | true => exact wpAny_pure ⟨k1, (hb rfl).symm⟩
 | false => exact wpAny_mono (hr rfl c μ A s1 hc hA (r.kp k1)) (fun v s3 hp => by obtain ⟨k3, x3⟩ := hp; exact ⟨k1.trans k3, x3⟩) fun _ _ f => f
theorem trs_and {e : Expr} {es : List Expr} {q b : Bool} (h : Tr G sc k σ e q) (hr : q = true -> Trs G sc k σ .And es b) (hb : q = false -> b = false) : Trs G sc k σ .And (e :: es) b := by
 intro c μ A s hc hA r
 show wpAny _ A (_ >>= _) _ _ s
 refine wpAny_bind (wpAny_mono (h c μ A s hc hA r) (fun v s1 hq => ?_) fun _ _ f => f)
 obtain ⟨k1, x1⟩ := hq
 subst x1
 cases v with
 | true => exact wpAny_mono (hr rfl c μ A s1 hc hA (r.kp k1)) (fun v s3 hp => by obtain ⟨k3, x3⟩ := hp; exact ⟨k1.trans k3, x3⟩) fun _ _ f => f
 | false => exact wpAny_pure ⟨k1, (hb rfl).symm⟩
theorem tr_boolop {op : BoolOp} {es : List Expr} {p : Pos} {b : Bool} (h : Trs G sc k σ op es b) : Tr G sc k σ (.BoolOp op es p) b := fun c μ A s hc hA r => wpAny_isTrue_BoolOp (h c μ A s hc hA r)
theorem ev_and2 {e1 e2 : Expr} {p : Pos} {q b : Bool} (h1 : Ev G sc k σ e1 (.bool q)) (h2 : q = true -> Ev G sc k σ e2 (.bool b)) : Ev G sc k σ (.BoolOp .And [e1, e2] p) (.bool (q && b)) := by
 intro c μ A s hc hA r
 show wpAny _ A (boolOp p .And [eval e1 c.env, eval e2 c.env]) _ _ s
 show wpAny _ A (_ >>= _) _ _ s
 refine wpAny_bind (wpAny_mono (h1 c μ A s hc hA r) (fun v s1 hq => ?_) fun _ _ f => f)
 obtain ⟨k1, x1⟩ := hq
 have x1' : v = .bool q := x1
 subst x1'
 refine wpAny_bind (wpAny_standAt (wpAny_bind (wpAny_holding (wpAny_truthy_bool ?_))))
 cases q with
 | true => exact wpAny_mono (h2 rfl c μ A s1 hc hA (r.kp k1)) (fun v s3 hp => by obtain ⟨k3, x3⟩ := hp; exact ⟨k1.trans k3, x3⟩) fun _ _ f => f
 | false => exact wpAny_pure ⟨k1, rfl⟩
theorem bin_add_int {i j : Int} : Two G sc k σ (binaryOp .Add) (.int i) (.int j) (.int (i + j)) := by
 rintro c μ A s v1 v2 hc hA r ⟨t, rfl⟩ ⟨u, rfl⟩; exact add_int ⟨Kp.tok s _, _, rfl⟩
theorem bin_sub_int {i j : Int} : Two G sc k σ (binaryOp .Sub) (.int i) (.int j) (.int (i - j)) := by
 rintro c μ A s v1 v2 hc hA r ⟨t, rfl⟩ ⟨u, rfl⟩; exact sub_int ⟨Kp.tok s _, _, rfl⟩
theorem bin_mul_int {i j : Int} (h : IntMulOk i j) : Two G sc k σ (binaryOp .Mult) (.int i) (.int j) (.int (i * j)) := by
 rintro c μ A s v1 v2 hc hA r ⟨t, rfl⟩ ⟨u, rfl⟩; exact mul_int ⟨Kp.tok s _, _, rfl⟩ h
theorem bin_mod_int {i j : Int} (h : j ≠ 0) : Two G sc k σ (binaryOp .Mod) (.int i) (.int j) (.int (i.fmod j)) := by
 rintro c μ A s v1 v2 hc hA r ⟨t, rfl⟩ ⟨u, rfl⟩; exact mod_int' h ⟨Kp.tok s _, _, rfl⟩
theorem bin_div_int {i j : Int} (h : j ≠ 0) (hp : Builtin.divisionGoesByPylong i j = false) : Two G sc k σ (binaryOp .FloorDiv) (.int i) (.int j) (.int (i.fdiv j)) := by
 rintro c μ A s v1 v2 hc hA r ⟨t, rfl⟩ ⟨u, rfl⟩; exact floordiv_int h ⟨Kp.tok s _, _, rfl⟩ (.inl hp)
theorem bin_pow_int {i j : Int} (h : 0 ≤ j) (hz : (Builtin.Int.intBits i : Int) * j ≤ 2 ^ 27) : Two G sc k σ (binaryOp .Pow) (.int i) (.int j) (.int (i ^ j.toNat)) := by
 rintro c μ A s v1 v2 hc hA r ⟨t, rfl⟩ ⟨u, rfl⟩; exact pow_int h hz ⟨Kp.tok s _, _, rfl⟩
theorem toS_append (x y : List Nat) : toS x ++ toS y = toS (x ++ y) := by
 show Str.mk _ = Str.mk _
 simp [toS]
theorem toS_length (x : List Nat) : (toS x).length = x.length := by simp [toS, Str.length]
theorem bin_add_str {x y : List Nat} (h : x.length + y.length ≤ 16777216) : Two G sc k σ (binaryOp .Add) (.str x) (.str y) (.str (x ++ y)) := by
 rintro c μ A s v1 v2 hc hA r ⟨t, rfl⟩ ⟨u, rfl⟩
 exact wp_kp (add_str (fun t' tk => ⟨Kp0.tok s _, t', by rw [toS_append]⟩) (by rw [toS_length, toS_length]; exact h))
theorem un_neg {i : Int} : One G sc k σ (unaryOp .USub) (.int i) (.int (-i)) := by
 rintro c μ A s v1 hc hA r ⟨t, rfl⟩; exact neg_int ⟨Kp.tok s _, _, rfl⟩
theorem cmp_eq_int {i j : Int} : Two G sc k σ (compareOp .Eq) (.int i) (.int j) (.bool (i == j)) := by
 rintro c μ A s v1 v2 hc hA r ⟨t, rfl⟩ ⟨u, rfl⟩; exact eq_int ⟨Kp.refl s, rfl⟩
theorem cmp_ne_int {i j : Int} : Two G sc k σ (compareOp .NotEq) (.int i) (.int j) (.bool (i != j)) := by
 rintro c μ A s v1 v2 hc hA r ⟨t, rfl⟩ ⟨u, rfl⟩; exact ne_int ⟨Kp.refl s, rfl⟩
theorem cmp_lt_int {i j : Int} : Two G sc k σ (compareOp .Lt) (.int i) (.int j) (.bool (decide (i < j))) := by
 rintro c μ A s v1 v2 hc hA r ⟨t, rfl⟩ ⟨u, rfl⟩; exact lt_int ⟨Kp.refl s, rfl⟩
theorem cmp_eq_str {x y : List Nat} : Two G sc k σ (compareOp .Eq) (.str x) (.str y) (.bool (x == y)) := by
 rintro c μ A s v1 v2 hc hA r ⟨t, rfl⟩ ⟨u, rfl⟩; exact P.eq_str ⟨Kp.refl s, by simp [toS]; rfl⟩
theorem cmp_ne_str {x y : List Nat} : Two G sc k σ (compareOp .NotEq) (.str x) (.str y) (.bool (x != y)) := by
 rintro c μ A s v1 v2 hc hA r ⟨t, rfl⟩ ⟨u, rfl⟩; exact P.ne_str ⟨Kp.refl s, by simp [toS]; rfl⟩
theorem cmp_in_str {x y : List Nat} : Two G sc k σ (compareOp .In) (.str y) (.str x) (.bool (Txt.contains (toS x) (toS y))) := by
 rintro c μ A s v1 v2 hc hA r ⟨t, rfl⟩ ⟨u, rfl⟩; exact SB.contains ⟨Kp.refl s, rfl⟩
end
end
section
section
variable {G : Gl} {sc : Scope} {k : Nat} {σ : St}
noncomputable def EvL (G : Gl) (sc : Scope) (k : Nat) (σ : St) (es : List Expr) (ds : List D) : Prop :=
 ∀ c μ A s p, c.env.scope = sc -> Aok k A -> R G c μ σ s ->
  (backTo p (starEach es c.env)).any (·.1) = false ∧
  wpAny (model G.prog G.w) A (spliced (backTo p (starEach es c.env))) (fun vs s' => Kp s s' ∧ HoldsL (c.all μ) μ s'.heap ds vs) (fun _ _ => False) s
theorem evL_nil : EvL G sc k σ [] [] := fun _ _ _ s _ _ _ _ => ⟨rfl, Calls.spliced_nil ⟨Kp.refl s, trivial⟩⟩
theorem evL_cons {e : Expr} {es : List Expr} {d : D} {ds : List D} (h : Ev G sc k σ e d) (ht : EvL G sc k σ es ds) (hs : autoParam (∀ env, starEach (e :: es) env = (false, eval e env) :: starEach es env) ir) :
 EvL G sc k σ (e :: es) (d :: ds) := by
 intro c μ A s p hc hA r
 rw [hs]
 refine ⟨(ht c μ A s p hc hA r).1, Calls.spliced_cons (x := eval e c.env) ?_⟩
 refine wpAny_mono (h c μ A s hc hA r) (fun v s1 ⟨k1, x1⟩ => wpAny_mono (ht c μ A s1 p hc hA (r.kp k1)).2 (fun vs s2 hq => ?_) fun _ _ f => f) fun _ _ f => f
 obtain ⟨k2, x2⟩ := hq
 exact ⟨k1.trans k2, x1.keep k2.heap, x2⟩
noncomputable def Cal (G : Gl) (k : Nat) (σ : St) (f : Value) (ds : List D) (d : D) : Prop :=
 ∀ c μ A s vs, Aok k A -> R G c μ σ s -> HoldsL (c.all μ) μ s.heap ds vs ->
  wpAny (model G.prog G.w) A (call f vs []) (fun v s' => Kp s s' ∧ Holds (c.all μ) μ s'.heap d v) (fun _ _ => False) s
noncomputable def CalN (G : Gl) (k : Nat) (σ : St) (f : Value) (ds : List D) (l : List D) : Prop :=
 ∀ c μ A s vs, Aok k A -> R G c μ σ s -> HoldsL (c.all μ) μ s.heap ds vs ->
  wpAny (model G.prog G.w) A (call f vs []) (fun v s' => Kp s s' ∧ NewL c μ s s' l v) (fun _ _ => False) s
inductive FK (G : Gl) : Value -> Prop
 | bi (id : String) : FK G (.builtin id)
 | ty (n : String) : FK G (.type n)
 | fn (a : Addr) (o : Obj) (fd : FuncData) (h : G.K.lookup a = some o) (hd : o.data = .func fd) : FK G (.ref a)
theorem evalArgs_any {M : Model} {A : Around} {E : Value -> Shared -> Prop} {s : Shared} {f : Value} {args : List (Bool × Sem Value)} {Q : Args -> Shared -> Prop} (hp : args.any (·.1) = false)
 (h : wpAny M A (spliced args) (fun vs s' => Q ⟨vs, []⟩ s') E s) : wpAny M A (evalArgs f true args []) Q E s := by
 cases args with
 | nil =>
  unfold evalArgs
  show wpAny M A (spliced [] >>= _) Q E s
  refine wpAny_bind (wpAny_mono h (fun vs s' h' => ?_) fun _ _ x => x)
  refine wpAny_bind (wpAny_pure ?_)
  refine wpAny_holding ?_
  exact wpAny_bind (wpAny_pure (wpAny_bind (wpAny_pure (wpAny_pure h'))))
 | cons x r =>
  obtain ⟨b, t⟩ := x
  rw [List.any_cons, Bool.or_eq_false_iff] at hp
  have hb : b = false := hp.1
  subst hb
  exact Calls.evalArgs_plain h
theorem callWith_fk {A : Around} {s : Shared} {f : Value} {p : Pos} {first : List Value} {args : List (Bool × Sem Value)} {Q : Value -> Shared -> Prop} {E : Value -> Shared -> Prop} (hf : FK G f) (hp : args.any (·.1) = false)
 (h : wpAny (model G.prog G.w) A (spliced args) (fun vs s' => TopG G s'.heap ∧ wpAny (model G.prog G.w) A (call f (first ++ vs) []) Q E s') E s) : wpAny (model G.prog G.w) A (callWith p f first args []) Q E s := by
 cases hf with
 | bi id => exact Calls.callWith_builtin hp (evalArgs_any hp (wpAny_mono h (fun _ _ x => x.2) fun _ _ x => x))
 | ty n => exact PySem.callWith_type hp (evalArgs_any hp (wpAny_mono h (fun _ _ x => x.2) fun _ _ x => x))
 | fn a o fd h1 h2 => exact Calls.callWith_function (evalArgs_any hp (wpAny_mono h (fun vs s' x => ⟨⟨x.1.k _ _ h1, h2⟩, x.2⟩) fun _ _ x => x))
theorem ev_call {e : Expr} {args : List Expr} {p : Pos} {f : Value} {ds : List D} {d : D} (he : Ev G sc k σ e (.val f)) (hf : FK G f) (ha : EvL G sc k σ args ds) (hc : Cal G k σ f ds d)
 (hs : autoParam (∀ env, eval (.Call e args [] p) env = (do callWith p (← eval e env) [] (backTo p (starEach args env)) [])) ir) : Ev G sc k σ (.Call e args [] p) d := by
 intro c μ A s hcs hA r
 rw [hs]
 refine wpAny_bind (wpAny_mono (he c μ A s hcs hA r) (fun v s1 hq => ?_) fun _ _ f => f)
 obtain ⟨k1, x1⟩ := hq
 have x1' : v = f := x1
 subst x1'
 have hx := ha c μ A s1 p hcs hA (r.kp k1)
 refine callWith_fk hf hx.1 (wpAny_mono hx.2 (fun vs s2 ⟨k2, x2⟩ => ⟨(r.kp (k1.trans k2)).topG, ?_⟩) fun _ _ f => f)
 exact wpAny_mono (hc c μ A s2 vs hA (r.kp (k1.trans k2)) x2) (fun v s3 hp => by obtain ⟨k3, x3⟩ := hp; exact ⟨(k1.trans k2).trans k3, x3⟩) fun _ _ f => f
theorem evN_call {e : Expr} {args : List Expr} {p : Pos} {f : Value} {ds : List D} {l : List D} (he : Ev G sc k σ e (.val f)) (hf : FK G f) (ha : EvL G sc k σ args ds) (hc : CalN G k σ f ds l)
 (hs : autoParam (∀ env, eval (.Call e args [] p) env = (do callWith p (← eval e env) [] (backTo p (starEach args env)) [])) ir) : EvN G sc k σ (.Call e args [] p) l := by
 intro c μ A s hcs hA r
 rw [hs]
 refine wpAny_bind (wpAny_mono (he c μ A s hcs hA r) (fun v s1 hq => ?_) fun _ _ f => f)
 obtain ⟨k1, x1⟩ := hq
 have x1' : v = f := x1
 subst x1'
 have hx := ha c μ A s1 p hcs hA (r.kp k1)
 refine callWith_fk hf hx.1 (wpAny_mono hx.2 (fun vs s2 ⟨k2, x2⟩ => ⟨(r.kp (k1.trans k2)).topG, ?_⟩) fun _ _ f => f)
 exact wpAny_mono (hc c μ A s2 vs hA (r.kp (k1.trans k2)) x2) (fun v s3 hp => by obtain ⟨k3, a, us, y1, y2, y3⟩ := hp; exact ⟨(k1.trans k2).trans k3, a, us, y1, none_of_kp (k1.trans k2) y2, y3⟩) fun _ _ f => f
theorem sizeOk_list {vs : List Value} (h : vs.length ≤ 16777216) : sizeOk (.seq vs.toArray 0) := by
 show vs.toArray.size ≤ sizeLine
 rw [sizeLine_eq]; simpa using h
theorem evN_list {es : List Expr} {p : Pos} {ds : List D} (ha : EvL G sc k σ es ds) (hz : ds.length ≤ 16777216) : EvN G sc k σ (.List es p) ds := by
 intro c μ A s hcs hA r
 have hx := ha c μ A s p hcs hA r
 show wpAny _ A (do standAt p; newList (← spliced (backTo p (starEach es c.env)))) _ _ s
 refine wpAny_bind (wpAny_standAt (wpAny_bind (wpAny_mono hx.2 (fun vs s2 hq => ?_) fun _ _ f => f)))
 obtain ⟨k2, x2⟩ := hq
 refine wpAny_newObj_type ?_ (sizeOk_list (by rw [← x2.length]; exact hz))
 have k3 := Kp.push s2 { cls := .type "list", data := .seq vs.toArray } s2.toks
 refine ⟨k2.trans k3, _, vs.toArray, rfl, none_of_kp k2 (fresh_size _), ⟨_, Heap.get?_push_size _ rfl⟩, ?_⟩
 exact (x2.avoid (fresh_size _)).keep k3.heap
theorem ev_tup {es : List Expr} {n : Nat} {p : Pos} {ds : List D} (ha : EvL G sc k σ es ds) (hz : ds.length ≤ 16777216) : Ev G sc k σ (.Tuple es n p) (.tup ds) := by
 intro c μ A s hcs hA r
 have hx := ha c μ A s p hcs hA r
 show wpAny _ A (do standAt p; newTuple (← spliced (backTo p (starEach es c.env)))) _ _ s
 refine wpAny_bind (wpAny_standAt (wpAny_bind (wpAny_mono hx.2 (fun vs s2 hq => ?_) fun _ _ f => f)))
 obtain ⟨k2, x2⟩ := hq
 refine wpAny_newObj_type ?_ (sizeOk_list (by rw [← x2.length]; exact hz))
 have k3 := Kp.push s2 { cls := .type "tuple", data := .seq vs.toArray } s2.toks
 exact ⟨k2.trans k3, _, vs.toArray, rfl, r.fresh (none_of_kp k2 (fresh_size _)), ⟨_, Heap.get?_push_size _ rfl⟩, x2.keep k3.heap⟩
noncomputable def St.seq (σ : St) : D -> Option (List D)
 | .lst l => some l
 | .bor l => some l
 | .new l => some l
 | .h k => σ.own[k]?
 | _ => none
theorem R.seqv {c : Cx} {μ : List Addr} {s : Shared} (r : R G c μ σ s) {d : D} {l : List D} {v : Value} (h : σ.seq d = some l) (x : Holds (c.all μ) μ s.heap d v) :
 ∃ a vs, v = .ref a ∧ s.heap.IsList a vs ∧ HoldsL (c.all μ) μ s.heap l vs.toList := by
 cases d with
 | lst l' => cases h; obtain ⟨a, vs, e, _, y, z⟩ := x; exact ⟨a, vs, e, y, z⟩
 | bor l' => cases h; obtain ⟨a, vs, e, y, z⟩ := x; exact ⟨a, vs, e, y, z⟩
 | new l' => cases h; obtain ⟨a, vs, e, _, y, z⟩ := x; exact ⟨a, vs, e, y.isList, z⟩
 | h k' =>
  obtain ⟨a, e1, e2⟩ := x
  obtain ⟨a', vs, h1, h2, h3⟩ := r.own k' l h
  rw [e1] at h1; cases h1
  exact ⟨a, vs, e2, h2.isList, h3⟩
 | _ => cases h
noncomputable def pyAt (l : List D) (i : Int) : Option D := if 0 ≤ i then l[i.toNat]? else if -(l.length : Int) ≤ i then l[(i + l.length).toNat]? else none
theorem get_list {d d' : D} {l : List D} {i : Int} (hd : σ.seq d = some l) (hi : pyAt l i = some d') (h1 : -(2 ^ 63) ≤ i) (h2 : i < 2 ^ 63) : Two G sc k σ getItem d (.int i) d' := by
 rintro c μ A s v1 v2 hc hA r x1 ⟨t, rfl⟩
 obtain ⟨a, vs, rfl, hl, hh⟩ := r.seqv hd x1
 have hlen := hh.length
 unfold pyAt at hi
 by_cases h0 : 0 ≤ i
 · rw [if_pos h0] at hi
   obtain ⟨v, e1, e2⟩ := hh.get hi
   exact wpAny_getItem_list hl h0 h2 (by simpa using e1) ⟨Kp.refl s, e2⟩
 · rw [if_neg h0] at hi
   by_cases hm : -(l.length : Int) ≤ i
   · rw [if_pos hm] at hi
     obtain ⟨v, e1, e2⟩ := hh.get hi
     have e3 : vs.toList.length = vs.size := by simp
     refine wpAny_getItem_list_neg hl (Int.not_le.mp h0) (by rw [← e3, ← hlen]; first | exact hm | exact Int.sub_neg_of_lt hm | omega) h1 ?_ ⟨Kp.refl s, e2⟩
     rw [show (i + (vs.size : Int)).toNat = (i + (l.length : Int)).toNat from (by rw [← e3, ← hlen])]
     simpa using e1
   · rw [if_neg hm] at hi; cases hi
theorem ev_sub {e1 e2 : Expr} {p : Pos} {d1 d2 d : D} {T id : String} (h1 : Ev G sc k σ e1 d1) (h2 : Ev G sc k σ e2 d2) (ho : Two G sc k σ getItem d1 d2 d)
 (hT : ∀ c μ s v, R G c μ σ s -> Holds (c.all μ) μ s.heap d1 v -> s.TypeIs v T) (hl : typeLookup (.type T) "__getitem__" = pure (some (.builtin id)))
 (hs : autoParam (∀ o i, subscripted e2 false o i = operate [o, i] (getItem o i)) ir) : Ev G sc k σ (.Subscript e1 e2 p) d := by
 intro c μ A s hc hA r
 refine Subscript_ (wpAny_mono (h1 c μ A s hc hA r) (fun v1 s1 ⟨k1, x1⟩ => wpAny_mono (h2 c μ A s1 hc hA (r.kp k1)) (fun v2 s2 hq => ?_) fun _ _ f => f) fun _ _ f => f)
 obtain ⟨k2, x2⟩ := hq
 have r2 := r.kp (k1.trans k2)
 have T2 := hT c μ s2 v1 r2 (x1.keep k2.heap)
 unfold subscriptTail
 refine wpAny_bind ?_
 rw [getitemInPython_of_ne T2.not_modules]
 refine wpAny_bind (wpAny_specialOf T2 hl ?_)
 have fin : wpAny (model G.prog G.w) A (subscripted e2 false v1 v2) (fun r' s₃ => wpAny (model G.prog G.w) A (letTemporaryGo e1 v1 r' >>= fun _ => pure r') (fun v s' => Kp s s' ∧ Holds (c.all μ) μ s'.heap d v) (fun _ _ => False) s₃) (fun _ _ => False) s2 := by
  rw [hs]
  refine wpAny_operating (wpAny_mono (ho c μ A s2 v1 v2 hc hA r2 (x1.keep k2.heap) x2) (fun v s3 hq => ?_) fun _ _ f => f)
  obtain ⟨k3, x3⟩ := hq
  exact wpAny_bind (wpAny_letTemporaryGo (wpAny_pure ⟨(k1.trans k2).trans k3, x3⟩))
 first
  | exact wpAny_pure (wpAny_bind fin)
  | exact wpAny_bind (wpAny_pure (wpAny_bind fin))
  | exact wpAny_bind fin
theorem ev_item {e1 e2 : Expr} {p : Pos} {d1 d' : D} {l : List D} {i : Int} (h1 : Ev G sc k σ e1 d1) (h2 : Ev G sc k σ e2 (.int i)) (hd : σ.seq d1 = some l) (hi : pyAt l i = some d') (hb : -(2 ^ 63) ≤ i ∧ i < 2 ^ 63)
 (hs : autoParam (∀ o i, subscripted e2 false o i = operate [o, i] (getItem o i)) ir) : Ev G sc k σ (.Subscript e1 e2 p) d' :=
 ev_sub h1 h2 (get_list hd hi hb.1 hb.2) (fun c μ s v r x => by obtain ⟨a, vs, rfl, hl, _⟩ := r.seqv hd x; exact hl.typeIs) slot_list_getitem.lookup hs
theorem len_l {d : D} {l : List D} (hd : σ.seq d = some l) (hz : l.length < 2 ^ 63) : Cal G k σ (.builtin "len") [d] (.int l.length) := by
 intro c μ A s vs hA r hv
 obtain ⟨v, rfl, x⟩ := hv.one
 · obtain ⟨a, vs, rfl, hl, hh⟩ := r.seqv hd x
   have hlen : l.length = vs.size := by simpa using hh.length
   refine wp_kp (PyProof.Rows.len_list hl (by rw [← hlen]; exact_mod_cast hz) ?_)
   exact ⟨Kp0.tok s _, _, by rw [hlen]⟩
theorem len_s {x : List Nat} (hz : x.length < 2 ^ 63) : Cal G k σ (.builtin "len") [.str x] (.int x.length) := by
 intro c μ A s vs hA r hv
 obtain ⟨v, rfl, t, rfl⟩ := hv.one
 · refine wp_kp (P.len_str (by rw [toS_length]; omega) ?_)
   exact ⟨Kp0.tok s _, _, by rw [toS_length]⟩
end
end
section
structure Chg (wr : Addr -> Prop) (gp : Nat -> Prop) (s s' : Shared) : Prop where
 heap : ∀ b o, ¬ wr b -> s.heap.get? b = some o -> s'.heap.get? b = some o
 os : s'.os = s.os
 bare : AllBare s.gens -> AllBare s'.gens
 gens : ∀ (g : Nat) x, ¬ gp g -> s.gens[g]? = some x -> s'.gens[g]? = some x
 toks : s.toks ≤ s'.toks
noncomputable def noOwn (it v : Value) (s : Shared) : Prop := ∀ {M : Model} {A : Around} {E : Value -> Shared -> Prop} {Q : Unit -> Shared -> Prop} (target : Expr), Q () s -> wpAny M A (letOwnedTupleGo target it v) Q E s
noncomputable def Walk (G : Gl) (k : Nat) (O : Addr -> Prop) (it : Value) (ow : Bool) (prot wr : Addr -> Prop) (gp : Nat -> Prop) : List D -> Shared -> Prop
 | [], s => ∀ s' A, (∀ b o, prot b -> s.heap.get? b = some o -> s'.heap.get? b = some o) -> (∀ (g : Nat) x, gp g -> s.gens[g]? = some x -> s'.gens[g]? = some x) -> AllBare s'.gens -> s.toks ≤ s'.toks -> TopG G s'.heap -> Aok k A ->
  wpAny (model G.prog G.w) A (pyNext it) (fun r s'' => r = none ∧ Chg wr gp s' s'') (fun _ _ => False) s'
 | d :: ds, s => ∀ s' A, (∀ b o, prot b -> s.heap.get? b = some o -> s'.heap.get? b = some o) -> (∀ (g : Nat) x, gp g -> s.gens[g]? = some x -> s'.gens[g]? = some x) -> AllBare s'.gens -> s.toks ≤ s'.toks -> TopG G s'.heap -> Aok k A ->
  wpAny (model G.prog G.w) A (pyNext it) (fun r s'' => ∃ v, r = some v ∧ (∀ O' μ', (∀ a, O' a -> (O a ∨ ¬ prot a ∨ wr a) ∧ ∃ o, s'.heap.get? a = some o) -> Holds O' μ' s''.heap d v) ∧ (∀ b, wr b -> ∃ o, s''.heap.get? b = some o) ∧ (ow = true -> noOwn it v s'') ∧ Chg wr gp s' s'' ∧ Walk G k O it ow prot wr gp ds s'') (fun _ _ => False) s'
theorem Walk.later {G : Gl} {k : Nat} {O : Addr -> Prop} {it : Value} {ow : Bool} {prot wr : Addr -> Prop} {gp : Nat -> Prop} {ds : List D} {s s' : Shared} (W : Walk G k O it ow prot wr gp ds s)
 (h1 : ∀ b o, prot b -> s.heap.get? b = some o -> s'.heap.get? b = some o) (h2 : ∀ (g : Nat) x, gp g -> s.gens[g]? = some x -> s'.gens[g]? = some x) (h3 : s.toks ≤ s'.toks) : Walk G k O it ow prot wr gp ds s' := by
 cases ds with
 | nil => exact fun s'' A e1 e2 e3 e4 e5 e6 => W s'' A (fun b o p q => e1 b o p (h1 b o p q)) (fun g x p q => e2 g x p (h2 g x p q)) e3 (Nat.le_trans h3 e4) e5 e6
 | cons d ds => exact fun s'' A e1 e2 e3 e4 e5 e6 => W s'' A (fun b o p q => e1 b o p (h1 b o p q)) (fun g x p q => e2 g x p (h2 g x p q)) e3 (Nat.le_trans h3 e4) e5 e6
noncomputable def SelfIt (G : Gl) (it : Value) (prot : Addr -> Prop) (s : Shared) : Prop := ∀ (s' : Shared) (A' : Around) (E' : Value -> Shared -> Prop) (Q' : Value -> Shared -> Prop), (∀ b o, prot b -> s.heap.get? b = some o -> s'.heap.get? b = some o) -> Q' it s' -> wpAny (model G.prog G.w) A' (pyIter it) Q' E' s'
set_option tactic.hygienic true in
theorem walk_list {G : Gl} {k : Nat} {O : Addr -> Prop} {ow : Bool} {prot : Addr -> Prop} {I ax : Addr} {vs : Array Value} (hI : prot I) (ha : prot ax) (hne : ax ≠ I) :
 ∀ (ds : List D) (i : Nat) (s : Shared), s.heap.IsListIter I ax i -> s.heap.IsList ax vs -> i + ds.length = vs.size ->
  (∀ h' O' μ', (∀ b o, prot b -> b ≠ I -> s.heap.get? b = some o -> h'.get? b = some o) -> (∀ a, O' a -> O a ∨ ¬ prot a ∨ a = I) -> HoldsL O' μ' h' ds (vs.toList.drop i)) ->
  Walk G k O (.ref I) ow prot (fun a => a = I) (fun _ => False) ds s
 | [], i, s, hit, hl, hi, _ => fun s' A e1 _ _ _ _ hA => by
  have hit' := hit.at fun o e => e1 I o hI e
  have hl' := hl.at fun o e => e1 ax o ha e
  refine wpAny_mono (wpAny_toks_of (Nat.le_refl s'.toks) (wpAny_pyNext_list_end hA.1 hit' hl' (by simp at hi; simp [hi]) (Q := fun r s'' => r = none ∧ (∀ b o, b ≠ I -> s'.heap.get? b = some o -> s''.heap.get? b = some o) ∧ s''.os = s'.os ∧ s''.gens = s'.gens) (fun h' he => ⟨rfl, he, rfl, rfl⟩))) (fun r s'' x => ?_) fun _ _ x => x.2
  exact ⟨x.2.1, x.2.2.1, x.2.2.2.1, fun hb => by rw [x.2.2.2.2]; exact hb, fun g y _ e => by rw [x.2.2.2.2]; exact e, x.1⟩
 | d :: ds, i, s, hit, hl, hi, hd => fun s' A e1 _ _ _ _ hA => by
  have hit' := hit.at fun o e => e1 I o hI e
  have hl' := hl.at fun o e => e1 ax o ha e
  have hlt : i < vs.size := by simp at hi; omega
  refine wpAny_pyNext_list_item hit' hl' (x := vs[i]) (by simp [hlt]) fun h' hit2 hs => ?_
  have hold : ∀ b o, prot b -> b ≠ I -> s.heap.get? b = some o -> h'.get? b = some o := fun b o p q e => hs.extBut b o q (e1 b o p e)
  refine ⟨_, rfl, (fun O' μ' hO' => ?_), (fun b hb => ?_), ?_, ⟨fun b o q e => hs.extBut b o q e, rfl, fun h => h, fun g x _ e => e, Nat.le_refl _⟩, ?_⟩
  · have H := hd h' O' μ' hold fun a ha => (hO' a ha).1
    rw [List.drop_eq_getElem_cons (by simpa using hlt)] at H
    simpa using H.1
  · obtain ⟨o, ho, _⟩ := hit2
    exact ⟨o, hb ▸ ho⟩
  · intro _ M A E Q target hq
    unfold letOwnedTupleGo
    obtain ⟨o, ho, hc, hdd⟩ := hit2
    split
    · split
      · rename_i r1 a1 heq
        have e1 := (Prod.mk.inj heq).1
        cases e1
        refine wpAny_bind (wpAny_load ho ?_)
        rw [hc, hdd]
        exact wpAny_pure hq
      · exact wpAny_pure hq
    · split
      · rename_i r1 a1 heq
        have e1 := (Prod.mk.inj heq).1
        cases e1
        refine wpAny_bind (wpAny_load ho ?_)
        rw [hc, hdd]
        exact wpAny_pure hq
      · exact wpAny_pure hq
    · exact wpAny_pure hq
  · refine walk_list hI ha hne ds (i + 1) _ hit2 (hl'.at fun o e => hs.extBut ax o hne e) (by simp at hi ⊢; omega) fun h2 O' μ' h3 h4 => ?_
    exact (hd h2 O' μ' (fun b o p q e => h3 b o p q (hold b o p q e)) h4) |> fun z => by
     rw [List.drop_eq_getElem_cons (by simpa using hlt)] at z; exact z.2
theorem walk_of {G : Gl} {k : Nat} {O : Addr -> Prop} {prot : Addr -> Prop} {I : Addr} {fp wr : List Addr} {n : Nat} {P : Nat -> Value -> Prop} {St : Nat -> Heap -> Prop}
 (W : ∀ A : Around, A.handled = none -> Walks G.prog G.w A I fp wr n P St) (hp : ∀ b ∈ fp, prot b) (hex : ∀ i h, St i h -> ∀ b ∈ wr, ∃ o, h.get? b = some o) :
 ∀ (ds : List D) (i : Nat) (s : Shared), i + ds.length = n -> St i s.heap -> (∀ (j : Nat) d v h O' μ', ds[j]? = some d -> P (i + j) v -> Holds O' μ' h d v) ->
  Walk G k O (.ref I) false prot (· ∈ wr) (fun _ => False) ds s
 | [], i, s, hi, hst, _ => fun s' A e1 _ _ _ _ hA => by
  have hst' := (W A hA.1).frame i s.heap s'.heap hst fun b hb o e => e1 b o (hp b hb) e
  have : i = n := by simpa using hi
  subst this
  refine wpAny_mono (wpAny_toks_of (Nat.le_refl s'.toks) ((W A hA.1).done s' (fun r s'' => r = none ∧ (∀ b o, b ∉ wr -> s'.heap.get? b = some o -> s''.heap.get? b = some o) ∧ s''.os = s'.os ∧ s''.gens = s'.gens) _ hst' (fun h' tk he => ⟨rfl, he, rfl, rfl⟩))) (fun r s'' x => ?_) fun _ _ x => x.2
  exact ⟨x.2.1, x.2.2.1, x.2.2.2.1, fun hb => by rw [x.2.2.2.2]; exact hb, fun g y _ e => by rw [x.2.2.2.2]; exact e, x.1⟩
 | d :: ds, i, s, hi, hst, hd => fun s' A e1 _ _ _ _ hA => by
  have hst' := (W A hA.1).frame i s.heap s'.heap hst fun b hb o e => e1 b o (hp b hb) e
  refine wpAny_mono (wpAny_toks_of (Nat.le_refl s'.toks) ((W A hA.1).item i s' (fun r s'' => ∃ v, r = some v ∧ P i v ∧ St (i + 1) s''.heap ∧ (∀ b o, b ∉ wr -> s'.heap.get? b = some o -> s''.heap.get? b = some o) ∧ s''.os = s'.os ∧ s''.gens = s'.gens) _
   (by simp at hi; omega) hst' (fun v h' tk hP hs he => ⟨v, rfl, hP, hs, he, rfl, rfl⟩))) (fun r s'' x => ?_) fun _ _ x => x.2
  obtain ⟨htk, v, rfl, hP, hs, he, ho, hg⟩ := x
  refine ⟨v, rfl, (fun O' μ' _ => hd 0 d v _ O' μ' rfl hP), hex _ _ hs, (fun h => nomatch h), ⟨he, ho, fun hb => by rw [hg]; exact hb, fun g y _ e => by rw [hg]; exact e, htk⟩, ?_⟩
  exact walk_of W hp hex ds (i + 1) s'' (by simp at hi ⊢; omega) hs fun j d' v' h' O' μ' e1 e2 => hd (j + 1) d' v' h' O' μ' (by simpa using e1) (by rwa [show i + (j + 1) = i + 1 + j by omega])
section
variable {G : Gl} {sc : Scope} {k : Nat} {σ : St}
noncomputable def EvIt (G : Gl) (sc : Scope) (k : Nat) (σ : St) (e : Expr) (ds : List D) (ow own : Bool) : Prop :=
 ∀ c μ A s, c.env.scope = sc -> Aok k A -> R G c μ σ s ->
  wpAny (model G.prog G.w) A (eval e c.env) (fun x s1 => wpAny (model G.prog G.w) A (pyIter x) (fun it s2 => Kp s s2 ∧ ∃ wr gp, (∀ b, wr b -> s.heap.get? b = none) ∧ (∀ b, wr b -> ∃ o, s2.heap.get? b = some o) ∧
   (∀ g : Nat, gp g -> s.gens[g]? = none) ∧ (∀ g : Nat, gp g -> ∃ x, s2.gens[g]? = some x) ∧
   ∀ prot : Addr -> Prop, (∀ b o, s2.heap.get? b = some o -> (own = false -> ¬ c.mut μ b) -> prot b) -> Walk G k (c.all μ) it ow prot wr gp ds s2 ∧ SelfIt G it prot s2) (fun _ _ => False) s1) (fun _ _ => False) s
theorem evIt_seq {e : Expr} {d : D} {l : List D} {own ow : Bool} (he : Ev G sc k σ e d) (hd : σ.seq d = some l) (hcl : D.cleanL l = true) (hown : own = false -> d.firm = true ∧ ∀ n, d ≠ .h n) : EvIt G sc k σ e l ow own := by
 intro c μ A s hc hA r
 refine wpAny_mono (he c μ A s hc hA r) (fun v s1 hq => ?_) fun _ _ f => f
 obtain ⟨k1, x1⟩ := hq
 obtain ⟨ax, vs, rfl, hl, hh⟩ := (r.kp k1).seqv hd x1
 refine wpAny_pyIter_list hl ?_
 have k2 := Kp.push s1 { cls := .type "list_iterator", data := .fields #[.ref ax, .int 0 0] } s1.toks
 have hax : ax ≠ s1.heap.objs.size := fun h => by obtain ⟨o, ho, _⟩ := hl; exact Nat.lt_irrefl _ (h ▸ Heap.lt_size ho)
 have hIn := Heap.get?_push_size s1.heap (o := { cls := .type "list_iterator", data := .fields #[.ref ax, .int 0 0] }) rfl
 refine ⟨k1.trans k2, (fun a => a = s1.heap.objs.size), (fun _ => False), fun b hb => hb ▸ none_of_kp k1 (fresh_size _), fun b hb => hb ▸ ⟨_, hIn⟩, fun _ h => h.elim, fun _ h => h.elim, fun prot hp => ?_⟩
 have hIm : ¬ c.mut μ s1.heap.objs.size := fun hm => by
  obtain ⟨o, ho⟩ := (r.kp k1).mutAt hm
  exact Nat.lt_irrefl _ (Heap.lt_size ho)
 have hpI : prot s1.heap.objs.size := hp _ _ hIn fun _ => hIm
 have hpa : prot ax := by
  obtain ⟨o, ho, _⟩ := id hl
  refine hp ax o (Heap.get?_push_of_some _ ho) fun hw hm => ?_
  obtain ⟨f1, f2⟩ := hown hw
  cases d with
  | lst l' => obtain ⟨a', vs', e1, e2, _⟩ := x1; cases e1; exact e2 (.inr hm)
  | new l' => obtain ⟨a', vs', e1, e2, _⟩ := x1; cases e1; exact e2 (.inr hm)
  | bor l' => cases f1
  | h n => exact f2 n rfl
  | _ => cases hd
 refine ⟨?_, fun s' A' E' Q' hk hq => wpAny_pyIter_listiter ⟨_, hk _ _ hpI hIn, rfl, rfl⟩ hq⟩
 refine walk_list hpI hpa hax l 0 _ ⟨_, hIn, rfl, rfl⟩ (hl.push _) (by simpa using hh.length) fun h' O' μ' hk hO' => ?_
 rw [List.drop_zero]
 have notI : ∀ b o, s1.heap.get? b = some o -> b ≠ s1.heap.objs.size := fun b o e q => by rw [q] at e; exact Nat.lt_irrefl _ (Heap.lt_size e)
 cases own with
 | true =>
  refine hh.clean (fun a o na e oa => ?_) (fun b o _ e => hk b o (hp b o (Heap.get?_push_of_some _ e) (fun h => nomatch h)) (notI b o e) (Heap.get?_push_of_some _ e)) hcl
  rcases hO' a oa with q | q | q
  · exact na q
  · exact q (hp a o (Heap.get?_push_of_some _ e) (fun h => nomatch h))
  · exact notI a o e q
 | false =>
  refine hh.clean (fun a o na e oa => ?_) (fun b o hb e => hk b o (hp b o (Heap.get?_push_of_some _ e) fun _ hm => hb (.inr hm)) (notI b o e) (Heap.get?_push_of_some _ e)) hcl
  rcases hO' a oa with q | q | q
  · exact na q
  · exact q (hp a o (Heap.get?_push_of_some _ e) fun _ hm => na (.inr hm))
  · exact notI a o e q
theorem evIt_one {c : Cx} {μ : List Addr} {s s1 : Shared} {o : Obj} {ds : List D} {n : Nat} {P : Nat -> Value -> Prop} {St : Nat -> Heap -> Prop} {own : Bool} (r : R G c μ σ s1) (k1 : Kp s s1) (ho : o.isFreed = false)
 (W : ∀ A : Around, A.handled = none -> Walks G.prog G.w A s1.heap.objs.size [s1.heap.objs.size] [s1.heap.objs.size] n P St) (hst : St 0 (s1.heap.push o)) (hn : ds.length = n) (hex : ∀ i h, St i h -> ∃ o, h.get? s1.heap.objs.size = some o)
 (hself : ∀ (s' : Shared) (A' : Around) (E' : Value -> Shared -> Prop) (Q' : Value -> Shared -> Prop), s'.heap.get? s1.heap.objs.size = some o -> Q' (.ref s1.heap.objs.size) s' -> wpAny (model G.prog G.w) A' (pyIter (.ref s1.heap.objs.size)) Q' E' s')
 (hP : ∀ (j : Nat) d v h O' μ', ds[j]? = some d -> P j v -> Holds O' μ' h d v) :
 Kp s { s1 with heap := s1.heap.push o } ∧ ∃ wr gp, (∀ b, wr b -> s.heap.get? b = none) ∧ (∀ b, wr b -> ∃ o', (s1.heap.push o).get? b = some o') ∧ (∀ g : Nat, gp g -> s.gens[g]? = none) ∧ (∀ g : Nat, gp g -> ∃ x, s1.gens[g]? = some x) ∧
  ∀ prot : Addr -> Prop, (∀ b o', (s1.heap.push o).get? b = some o' -> (own = false -> ¬ c.mut μ b) -> prot b) -> Walk G k (c.all μ) (.ref s1.heap.objs.size) false prot wr gp ds { s1 with heap := s1.heap.push o } ∧ SelfIt G (.ref s1.heap.objs.size) prot { s1 with heap := s1.heap.push o } := by
 have hIn := Heap.get?_push_size s1.heap ho
 refine ⟨k1.trans (Kp.push s1 o s1.toks), (· ∈ [s1.heap.objs.size]), (fun _ => False), fun b hb => ?_, fun b hb => ?_, fun _ h => h.elim, fun _ h => h.elim, fun prot hp => ?_⟩
 · rw [List.mem_singleton.mp hb]; exact none_of_kp k1 (fresh_size _)
 · rw [List.mem_singleton.mp hb]; exact ⟨_, hIn⟩
 · have hpI : prot s1.heap.objs.size := hp _ _ hIn fun _ hm => by
    obtain ⟨o', ho'⟩ := r.mutAt hm
    exact Nat.lt_irrefl _ (Heap.lt_size ho')
   refine ⟨?_, fun s' A' E' Q' hk hq => hself s' A' E' Q' (hk _ _ hpI hIn) hq⟩
   refine walk_of W (fun b hb => ?_) (fun i h hs b hb => by rw [List.mem_singleton.mp hb]; exact hex i h hs) ds 0 _ (by simpa using hn) hst fun j d v h O' μ' e1 e2 => hP j d v h O' μ' e1 (by simpa using e2)
   rw [List.mem_singleton.mp hb]
   refine hp _ _ hIn fun _ hm => ?_
   obtain ⟨o', ho'⟩ := r.mutAt hm
   exact Nat.lt_irrefl _ (Heap.lt_size ho')
noncomputable def charsD (x : List Nat) : List D := x.map fun c => .str [c]
theorem evIt_str {e : Expr} {x : List Nat} {own : Bool} (he : Ev G sc k σ e (.str x)) : EvIt G sc k σ e (charsD x) false own := by
 intro c μ A s hc hA r
 refine wpAny_mono (he c μ A s hc hA r) (fun v s1 hq => ?_) fun _ _ f => f
 obtain ⟨k1, x1⟩ := hq
 obtain ⟨t, rfl⟩ := x1
 refine wpAny_pyIter_strU ?_
 have hP : ∀ (j : Nat) d v (h : Heap) (O' : Addr -> Prop) (μ' : List Addr), (charsD x)[j]? = some d -> SignAt (toS x) j v -> Holds O' μ' h d v := fun j d v h O' μ' e1 ⟨ch, u, e2, e3⟩ => by
  simp only [charsD, List.getElem?_map, Option.map_eq_some_iff] at e1
  obtain ⟨ch', e4, rfl⟩ := e1
  have e5 : (toS x).cps[j]? = x[j]? := by simp [toS]
  rw [e5, e4] at e2
  cases e2
  exact ⟨u, e3⟩
 have hn : (charsD x).length = (toS x).cps.size := by simp [charsD, toS]
 cases ha : (toS x).cps.all (· < 128)
 · have e : strIterType (toS x) = "str_iterator" := by unfold strIterType; rw [ha]; rfl
   rw [e]
   exact ⟨(evIt_one (r.kp k1) k1 rfl (fun A' hA' => Walks.strWide hA' _ (toS x) t) ⟨_, Heap.get?_push_size _ rfl, rfl, rfl⟩ hn (fun i h hp => by obtain ⟨o, ho, _⟩ := hp; exact ⟨o, ho⟩) (fun s' A' E' Q' h q => wpAny_pyIter_striter_wide ⟨_, h, rfl, rfl⟩ q) hP (own := own) (k := k)).1, (evIt_one (r.kp k1) k1 rfl (fun A' hA' => Walks.strWide hA' _ (toS x) t) ⟨_, Heap.get?_push_size _ rfl, rfl, rfl⟩ hn (fun i h hp => by obtain ⟨o, ho, _⟩ := hp; exact ⟨o, ho⟩) (fun s' A' E' Q' h q => wpAny_pyIter_striter_wide ⟨_, h, rfl, rfl⟩ q) hP (own := own) (k := k)).2⟩
 · have e : strIterType (toS x) = "str_ascii_iterator" := by unfold strIterType; rw [ha]; rfl
   rw [e]
   exact evIt_one (r.kp k1) k1 rfl (fun A' hA' => Walks.strAscii hA' _ (toS x) t) ⟨_, Heap.get?_push_size _ rfl, rfl, rfl⟩ hn (fun i h hp => by obtain ⟨o, ho, _⟩ := hp; exact ⟨o, ho⟩) (fun s' A' E' Q' h q => wpAny_pyIter_striter_ascii ⟨_, h, rfl, rfl⟩ q) hP
noncomputable def rngD (a b : Int) : List D := (List.range (b - a).toNat).map fun j => .int (a + (j : Nat))
theorem small_range {a b : Int} (ha : -1000000 ≤ a ∧ a ≤ 1000000000) (hb : -1000000 ≤ b ∧ b ≤ 1000000000) : Builtin.Range.small a b 1 = true := by
 have hz : Builtin.Range.rangeSize a b 1 = ((b - a).toNat : Int) := by
  rw [rangeSize_one]; exact rsz
 unfold Builtin.Range.small
 rw [hz]
 simp only [Builtin.Range.rangeFitsLong, Bool.and_eq_true, decide_eq_true_eq]
 refine ⟨⟨⟨⟨m6 ha, m6 hb⟩, by decide⟩, ⟨i63n, m62 ha hb⟩⟩, ?_⟩
 simp only [Bool.or_eq_true]
 right
 simp
 omega
theorem evIt_rng {e : Expr} {a b : Int} {own : Bool} (he : Ev G sc k σ e (.rng a b)) (ha : -1000000 ≤ a ∧ a ≤ 1000000000) (hb : -1000000 ≤ b ∧ b ≤ 1000000000) : EvIt G sc k σ e (rngD a b) false own := by
 intro c μ A s hc hA r
 refine wpAny_mono (he c μ A s hc hA r) (fun v s1 hq => ?_) fun _ _ f => f
 obtain ⟨k1, x1⟩ := hq
 obtain ⟨ax, rfl, _, t, u, w, hr⟩ := x1
 have hz : Builtin.Range.rangeSize a b 1 = ((b - a).toNat : Int) := by
  rw [rangeSize_one]; exact rsz
 have hsm : Builtin.Range.small a b 1 = true := by
  exact small_range ha hb
 refine wpAny_pyIter_range hr hsm ?_
 refine evIt_one (r.kp k1) k1 rfl (fun A' hA' => Walks.range hA' _ a 1 (b - a).toNat) ?_ (by simp [rngD]) (fun i h hs => ⟨_, hs⟩) (fun s' A' E' Q' h q => wpAny_pyIter_rangeiter h q) fun j d v h O' μ' e1 ⟨t', e2⟩ => ?_
 · have e3 : ((b - a).toNat : Int) - ((0 : Nat) : Int) = ((b - a).toNat : Int) := Int.sub_zero _
   have e4 : a + ((0 : Nat) : Int) * 1 = a := Int.add_zero a
   show IsRangeIter _ _ (a + ((0 : Nat) : Int) * 1) (((b - a).toNat : Int) - ((0 : Nat) : Int)) 1
   rw [e3, e4, ← hz]
   exact Heap.get?_push_size _ rfl
 · simp only [rngD, List.getElem?_map, Option.map_eq_some_iff] at e1
   obtain ⟨j', e4, rfl⟩ := e1
   have : j' = j := by
    rw [List.getElem?_range] at e4
    · exact (Option.some.inj e4).symm
    · have := (List.getElem?_eq_some_iff.mp e4).1; simpa using this
   subst this
   exact ⟨t', by rw [e2, Int.mul_one]⟩
end
end
section
noncomputable def setL (x : Str) (d : D) : List (Str × D) -> List (Str × D)
 | [] => [(x, d)]
 | (y, e) :: r => if x == y then (y, d) :: r else (y, e) :: setL x d r
theorem setL_lookup (x : Str) (d : D) (y : Str) : ∀ l : List (Str × D), (setL x d l).lookup y = if y = x then some d else l.lookup y
 | [] => by
  unfold setL
  by_cases h : y = x
  · subst h; simp
  · have : (y == x) = false := by simpa using h
    simp [List.lookup, this, h]
 | (z, e) :: r => by
  unfold setL
  by_cases hz : x = z
  · subst hz
    simp only [beq_self_eq_true, if_true]
    by_cases h : y = x
    · subst h; simp
    · have : (y == x) = false := by simpa using h
      simp [List.lookup, this, h]
  · have hb : (x == z) = false := by simpa using hz
    simp only [hb, Bool.false_eq_true, if_false, List.lookup]
    cases hyz : y == z with
    | true =>
     have : y = z := by simpa using hyz
     subst this
     simp [Ne.symm hz]
    | false => simp only [setL_lookup x d y r]
noncomputable def St.set (σ : St) (x : Str) (d : D) : St := { σ with vars := setL x d σ.vars }
theorem St.Firm.set {σ : St} (h : σ.Firm) (x : Str) {d : D} (hd : d.firm = true) : (σ.set x d).Firm := by
 refine ⟨fun y e hy => ?_, h.2⟩
 simp only [St.set, setL_lookup] at hy
 split at hy
 · cases hy; exact hd
 · exact h.1 y e hy
section
variable {G : Gl} {sc : Scope} {k : Nat} {σ : St}
theorem R.turn {c : Cx} {μ : List Addr} {s : Shared} {h' : Heap} {tk : Nat} {a : Addr} (r : R G c μ σ s) (_hf : σ.Firm) (ha : c.mut μ a) (hs : Heap.SameBut a s.heap h') (htk : s.toks ≤ tk) {σ' : St}
 (hf' : σ'.Firm) (hlen : σ'.own.length = σ.own.length)
 (hloc : ∃ m, h'.Ns c.env.locals m ∧ ∀ x d, σ'.vars.lookup x = some d -> c.env.kindOf x = some .local -> ∃ v, m x = some v ∧ Holds (c.all μ) μ h' d v)
 (hcell : ∀ x d, σ'.vars.lookup x = some d -> c.env.kindOf x = some .cell ∨ c.env.kindOf x = some .free -> ∃ ca v, c.env.cells.lookup x = some ca ∧ h'.IsCell ca (some v) ∧ Holds (c.all μ) μ h' d v)
 (hown : ∀ (k : Nat) items, σ'.own[k]? = some items -> ∃ a vs, μ[k]? = some a ∧ h'.PlainList a vs ∧ HoldsL (c.all μ) μ h' items vs.toList)
 (hmut : ∀ b ∈ c.mutc, ∃ x, h'.IsCell b x) : R G c μ σ' { s with heap := h', toks := tk } where
 os := r.os
 tok := Nat.lt_of_lt_of_le r.tok htk
 bare := r.bare
 gens := r.gens
 base := fun b o h => (hs.2 b (fun e => (r.mine a ha).2 o (e ▸ h))).trans (r.base b o h)
 top := r.top
 old := r.old
 len := by rw [hlen]; exact r.len
 nodup := r.nodup
 mine := r.mine
 loc := hloc
 cell := hcell
 own := hown
 kind := r.kind
 glob := r.glob
 blt := r.blt
 cells := r.cells
 mutc := hmut
 firm := fun _ => hf'
 mcell := r.mcell
 nofree := r.nofree
noncomputable def Pres (c : Cx) (μ : List Addr) (s s' : Shared) : Prop := ∀ b o, ¬ c.all μ b -> s.heap.get? b = some o -> s'.heap.get? b = some o
theorem Pres.of {c : Cx} {μ : List Addr} {s : Shared} {h' : Heap} {tk : Nat} {a : Addr} (ha : c.mut μ a) (hs : Heap.SameBut a s.heap h') : Pres c μ s { s with heap := h', toks := tk } :=
 fun b o hb e => (hs.2 b (fun q => hb (q ▸ .inr ha))).trans e
noncomputable def As (G : Gl) (sc : Scope) (k : Nat) (tgt : Expr) (d : D) (σ σ' : St) : Prop :=
 ∀ c μ A s v, c.env.scope = sc -> c.fm = true -> Aok k A -> R G c μ σ s -> Holds (c.all μ) μ s.heap d v ->
  wpAny (model G.prog G.w) A (assign tgt c.env v) (fun _ s' => R G c μ σ' s' ∧ Pres c μ s s') (fun _ _ => False) s
theorem list_ne_ns {h : Heap} {a L : Addr} {vs : Array Value} {m : Str -> Option Value} (x : h.PlainList a vs) (y : h.Ns L m) : a ≠ L := by
 rintro rfl
 obtain ⟨n, e⟩ := x
 obtain ⟨o, es, ep, e', hd, _⟩ := y
 rw [e] at e'; cases e'; cases hd
theorem cell_ne_ns {h : Heap} {a L : Addr} {x : Option Value} {m : Str -> Option Value} (x : h.IsCell a x) (y : h.Ns L m) : a ≠ L := by
 rintro rfl
 obtain ⟨o, e, hd⟩ := x
 obtain ⟨o', es, ep, e', hd', _⟩ := y
 rw [e] at e'; cases e'; rw [hd] at hd'; cases hd'
theorem list_ne_cell {h : Heap} {a b : Addr} {vs : Array Value} {y : Option Value} (x : h.PlainList a vs) (y : h.IsCell b y) : a ≠ b := by
 rintro rfl
 obtain ⟨n, e⟩ := x
 obtain ⟨o, e', hd⟩ := y
 rw [e] at e'; cases e'; cases hd
theorem as_loc {x : Str} {p : Pos} {d : D} (hn : sc.names.lookup x = some .local) (hd : d.firm = true) : As G sc k (.Name x p) d σ (σ.set x d) := by
 intro c μ A s v hc hfm hA r hv
 obtain ⟨m, hm, hl⟩ := r.loc
 have hk := kindOf_of hc hn
 refine wpAny_assign_Name (wpAny_storeName_local hk hm (fun h' hns hsb => ?_) (by show (c.env.scope.kind == .class || (c.env.scope.kind == .module && _)) = false; rw [r.kind]; rfl))
 have hL : c.mut μ c.env.locals := .inr (.inl rfl)
 have keep : ∀ {d : D} {v : Value}, d.firm = true -> Holds (c.all μ) μ s.heap d v -> Holds (c.all μ) μ h' d v := fun f y => y.firm (fun _ _ z _ => z) (fun b o hb e => (hsb.2 b (fun q => hb (q ▸ .inr hL))).trans e) f
 have F := r.firm hfm
 refine ⟨r.turn F hL hsb (Nat.le_succ _) (F.set x hd) rfl ⟨_, hns, fun y e hy hky => ?_⟩ (fun y e hy hky => ?_) (fun n l hnl => ?_) (fun b hb => ?_), Pres.of hL hsb⟩
 · simp only [St.set, setL_lookup] at hy
   by_cases hyx : y = x
   · simp only [if_pos hyx] at hy ⊢; cases hy; exact ⟨v, rfl, keep hd hv⟩
   · simp only [if_neg hyx] at hy ⊢
     obtain ⟨v', e1, e2⟩ := hl y e hy hky
     exact ⟨v', e1, keep (F.1 y e hy) e2⟩
 · simp only [St.set, setL_lookup] at hy
   by_cases hyx : y = x
   · subst hyx; rw [hk] at hky; rcases hky with h | h <;> cases h
   · rw [if_neg hyx] at hy
     obtain ⟨ca, v', e1, e2, e3⟩ := r.cell y e hy hky
     exact ⟨ca, v', e1, e2.sameBut hsb (cell_ne_ns e2 hm), keep (F.1 y e hy) e3⟩
 · obtain ⟨a, vs, e1, e2, e3⟩ := r.own n l hnl
   exact ⟨a, vs, e1, e2.extBut hsb.extBut (list_ne_ns e2 hm), e3.firm (fun _ _ z _ => z) (fun b o hb e => (hsb.2 b (fun q => hb (q ▸ .inr hL))).trans e) (F.2 n l hnl)⟩
 · obtain ⟨y, hy⟩ := r.mutc b hb
   exact ⟨y, hy.sameBut hsb (cell_ne_ns hy hm)⟩
theorem as_cell {x : Str} {p : Pos} {d : D} (hn : sc.names.lookup x = some .cell) (hd : d.firm = true) : As G sc k (.Name x p) d σ (σ.set x d) := by
 intro c μ A s v hc hfm hA r hv
 obtain ⟨m, hm, hl⟩ := r.loc
 have hk := kindOf_of hc hn
 obtain ⟨ca, hca, hmc⟩ := r.mcell hfm x hk
 obtain ⟨v0, hv0⟩ := r.mutc ca hmc
 refine wpAny_assign_Name (wpAny_storeName_cell r.kind hk hca hv0 fun h' hcell hsb => ?_)
 have hL : c.mut μ ca := .inr (.inr hmc)
 have keep : ∀ {d : D} {v : Value}, d.firm = true -> Holds (c.all μ) μ s.heap d v -> Holds (c.all μ) μ h' d v := fun f y => y.firm (fun _ _ z _ => z) (fun b o hb e => (hsb.2 b (fun q => hb (q ▸ .inr hL))).trans e) f
 have F := r.firm hfm
 refine ⟨r.turn (tk := s.toks) F hL hsb (Nat.le_refl _) (F.set x hd) rfl ⟨m, hm.sameBut hsb (Ne.symm (cell_ne_ns hv0 hm)), fun y e hy hky => ?_⟩ (fun y e hy hky => ?_) (fun n l hnl => ?_) (fun b hb => ?_), Pres.of hL hsb⟩
 · simp only [St.set, setL_lookup] at hy
   by_cases hyx : y = x
   · subst hyx; rw [hk] at hky; cases hky
   · rw [if_neg hyx] at hy
     obtain ⟨v', e1, e2⟩ := hl y e hy hky
     exact ⟨v', e1, keep (F.1 y e hy) e2⟩
 · simp only [St.set, setL_lookup] at hy
   by_cases hyx : y = x
   · rw [if_pos hyx] at hy; cases hy; subst hyx; exact ⟨ca, v, hca, hcell, keep hd hv⟩
   · rw [if_neg hyx] at hy
     obtain ⟨cb, v', e1, e2, e3⟩ := r.cell y e hy hky
     have : cb ≠ ca := fun q => hyx (name_of_addr (r.cells hfm) (mem_of_lookup (q ▸ e1)) (mem_of_lookup hca))
     exact ⟨cb, v', e1, e2.sameBut hsb this, keep (F.1 y e hy) e3⟩
 · obtain ⟨a, vs, e1, e2, e3⟩ := r.own n l hnl
   exact ⟨a, vs, e1, e2.extBut hsb.extBut (list_ne_cell e2 hv0), e3.firm (fun _ _ z _ => z) (fun b o hb e => (hsb.2 b (fun q => hb (q ▸ .inr hL))).trans e) (F.2 n l hnl)⟩
 · obtain ⟨y, hy⟩ := r.mutc b hb
   by_cases hbc : b = ca
   · subst hbc; exact ⟨_, hcell⟩
   · exact ⟨y, hy.sameBut hsb hbc⟩
noncomputable def AsL (G : Gl) (sc : Scope) (k : Nat) (es : List Expr) (ds : List D) (σ σ' : St) : Prop :=
 ∀ c μ A s vs, c.env.scope = sc -> c.fm = true -> Aok k A -> R G c μ σ s -> HoldsL (c.all μ) μ s.heap ds vs ->
  wpAny (model G.prog G.w) A (assignInOrder ((assignEach es c.env).map (·.2)) vs) (fun _ s' => R G c μ σ' s' ∧ Pres c μ s s') (fun _ _ => False) s
theorem asL_nil : AsL G sc k [] [] σ σ := fun c μ A s vs _ _ _ r hv => by
 match vs, hv with
 | [], _ => exact assignInOrder_nil ⟨r, fun _ _ _ e => e⟩
theorem Pres.trans {c : Cx} {μ : List Addr} {s s' s'' : Shared} (x : Pres c μ s s') (y : Pres c μ s' s'') : Pres c μ s s'' := fun b o h e => y b o h (x b o h e)
theorem asL_cons {e : Expr} {es : List Expr} {d : D} {ds : List D} {σ1 σ2 : St} (h : As G sc k e d σ σ1) (ht : AsL G sc k es ds σ1 σ2) (hf : D.firmL ds = true)
 (hs : autoParam (∀ env, assignEach (e :: es) env = (false, assign e env) :: assignEach es env) ir) : AsL G sc k (e :: es) (d :: ds) σ σ2 := by
 intro c μ A s vs hc hfm hA r hv
 match vs, hv with
 | v :: vs, ⟨x, xs⟩ =>
  rw [hs]
  refine assignInOrder_cons (wpAny_mono (h c μ A s v hc hfm hA r x) (fun _ s1 hq => ?_) fun _ _ f => f)
  obtain ⟨r1, p1⟩ := hq
  exact wpAny_mono (ht c μ A s1 vs hc hfm hA r1 (xs.firm (fun _ _ z _ => z) p1 hf)) (fun _ s2 hp => by obtain ⟨r2, p2⟩ := hp; exact ⟨r2, p1.trans p2⟩) fun _ _ f => f
theorem as_tup {es : List Expr} {ds : List D} {n : Nat} {p : Pos} {σ' : St} (h : AsL G sc k es ds σ σ') (hf : D.firmL ds = true) (hn : ∀ env, (assignEach es env).length = ds.length ∧ (assignEach es env).findIdx? (·.1) = none := by intro; exact ⟨rfl, rfl⟩) :
 As G sc k (.Tuple es n p) (.tup ds) σ σ' := by
 intro c μ A s v hc hfm hA r hv
 obtain ⟨a, vs, rfl, hO, ⟨n', ht⟩, hl⟩ := hv
 have hlen : ds.length = vs.size := by simpa using hl.length
 refine assign_Tuple_tuple hA.1 ⟨_, ht, rfl, n', rfl⟩ ((hn c.env).1.trans hlen) (hn c.env).2 fun h' he => ?_
 have kp : Kp s { s with heap := h' } := ⟨⟨fun b o e => he b o (fun q => Nat.lt_irrefl _ (q ▸ Heap.lt_size e)) e, rfl, fun z => z, fun _ _ e => e⟩, Nat.le_refl _⟩
 exact wpAny_mono (h c μ A _ vs.toList hc hfm hA (r.kp kp) (hl.keep kp.heap)) (fun _ s2 hp => by obtain ⟨r2, p2⟩ := hp; exact ⟨r2, fun b o hb e => p2 b o hb (kp.heap b o e)⟩) fun _ _ f => f
inductive Fl where
 | next | brk | cont
 | ret (d : D)
noncomputable def FlowIs (O : Addr -> Prop) (μ : List Addr) (h : Heap) : Fl -> Flow -> Prop
 | .next, f => f = .next
 | .brk, f => f = .brk
 | .cont, f => f = .cont
 | .ret d, f => d.firm = true ∧ ∃ v, f = .ret v ∧ Holds O μ h d v
noncomputable def Post (G : Gl) (c : Cx) (Q : Fl -> St -> Prop) (f : Flow) (s' : Shared) : Prop := ∃ fl σ' μ', Q fl σ' ∧ R G c μ' σ' s' ∧ FlowIs (c.all μ') μ' s'.heap fl f
noncomputable def Ex (G : Gl) (sc : Scope) (k : Nat) (σ : St) (st : Stmt) (Q : Fl -> St -> Prop) : Prop :=
 ∀ c μ A s, c.env.scope = sc -> c.fm = true -> Aok k A -> R G c μ σ s -> wpAny (model G.prog G.w) A (exec st c.env) (Post G c Q) (fun _ _ => False) s
noncomputable def Exs (G : Gl) (sc : Scope) (k : Nat) (σ : St) (ss : List Stmt) (Q : Fl -> St -> Prop) : Prop :=
 ∀ c μ A s, c.env.scope = sc -> c.fm = true -> Aok k A -> R G c μ σ s -> wpAny (model G.prog G.w) A (execs ss c.env) (Post G c Q) (fun _ _ => False) s
theorem exs_nil {Q : Fl -> St -> Prop} (h : Q .next σ) : Exs G sc k σ [] Q := fun _ μ _ _ _ _ _ r => wpAny_execs_nil ⟨.next, σ, μ, h, r, rfl⟩
theorem exs_cons {st : Stmt} {ss : List Stmt} {Q Q1 : Fl -> St -> Prop} (h : Ex G sc k σ st Q1) (hn : ∀ σ1, Q1 .next σ1 -> Exs G sc k σ1 ss Q) (ho : ∀ fl σ1, fl ≠ .next -> Q1 fl σ1 -> Q fl σ1) : Exs G sc k σ (st :: ss) Q := by
 intro c μ A s hc hfm hA r
 refine wpAny_execs_cons (wpAny_mono (h c μ A s hc hfm hA r) (fun f s1 hq => ?_) fun _ _ f => f)
 obtain ⟨fl, σ1, μ1, q, r1, hf⟩ := hq
 cases fl with
 | next => cases hf; exact hn σ1 q c μ1 A s1 hc hfm hA r1
 | brk => cases hf; exact ⟨.brk, σ1, μ1, ho _ _ (by nofun) q, r1, rfl⟩
 | cont => cases hf; exact ⟨.cont, σ1, μ1, ho _ _ (by nofun) q, r1, rfl⟩
 | ret d => obtain ⟨hd, v, rfl, hv⟩ := hf; exact ⟨.ret d, σ1, μ1, ho _ _ (by nofun) q, r1, hd, v, rfl, hv⟩
noncomputable def Ex1 (G : Gl) (sc : Scope) (k : Nat) (σ : St) (st : Stmt) (σ' : St) : Prop := Ex G sc k σ st fun fl σ1 => fl = .next ∧ σ1 = σ'
theorem exs_one {st : Stmt} {ss : List Stmt} {Q : Fl -> St -> Prop} {σ1 : St} (h : Ex1 G sc k σ st σ1) (hn : Exs G sc k σ1 ss Q) : Exs G sc k σ (st :: ss) Q :=
 exs_cons h (fun _ e => by rw [e.2]; exact hn) fun _ _ q e => absurd e.1 q
theorem Ex.mono {st : Stmt} {Q Q' : Fl -> St -> Prop} (h : Ex G sc k σ st Q) (hq : ∀ fl σ1, Q fl σ1 -> Q' fl σ1) : Ex G sc k σ st Q' := fun c μ A s hc hfm hA r =>
 wpAny_mono (h c μ A s hc hfm hA r) (fun _ _ hp => by obtain ⟨fl, σ1, μ1, q, x⟩ := hp; exact ⟨fl, σ1, μ1, hq _ _ q, x⟩) fun _ _ f => f
theorem Exs.mono {st : List Stmt} {Q Q' : Fl -> St -> Prop} (h : Exs G sc k σ st Q) (hq : ∀ fl σ1, Q fl σ1 -> Q' fl σ1) : Exs G sc k σ st Q' := fun c μ A s hc hfm hA r =>
 wpAny_mono (h c μ A s hc hfm hA r) (fun _ _ hp => by obtain ⟨fl, σ1, μ1, q, x⟩ := hp; exact ⟨fl, σ1, μ1, hq _ _ q, x⟩) fun _ _ f => f
theorem ex_ret {e : Expr} {p : Pos} {d : D} {Q : Fl -> St -> Prop} (h : Ev G sc k σ e d) (hq : Q (.ret d) σ) (hd : autoParam (d.firm = true) ir) : Ex G sc k σ (.Return (some e) p) Q := fun c μ A s hc hfm hA r =>
 wpAny_Return_some (wpAny_mono (h c μ A s hc hA r) (fun v s1 hp => by obtain ⟨k1, x1⟩ := hp; exact ⟨.ret d, σ, μ, hq, r.kp k1, hd, v, rfl, x1⟩) fun _ _ f => f)
theorem exs_ret {e : Expr} {p : Pos} {d : D} {ss : List Stmt} {Q : Fl -> St -> Prop} (h : Ev G sc k σ e d) (hq : Q (.ret d) σ) (hd : autoParam (d.firm = true) ir) : Exs G sc k σ (.Return (some e) p :: ss) Q :=
 exs_cons (Q1 := fun fl σ1 => fl = .ret d ∧ σ1 = σ) (ex_ret h ⟨rfl, rfl⟩ hd) (fun _ x => nomatch x.1) fun _ _ _ x => by rw [x.1, x.2]; exact hq
theorem ex_asg {t e : Expr} {x : Str} {p p' : Pos} {d : D} {σ' : St} (ht : t = .Name x p') (he : Ev G sc k σ e d) (ha : As G sc k t d σ σ') (hs : autoParam (∀ env, swapsWith e (some t) p.line env = pure false) ir) : Ex1 G sc k σ (.Assign [t] e p) σ' := by
 subst ht
 intro c μ A s hc hfm hA r
 have hx : exec (.Assign [.Name x p'] e p) c.env = (do
  standAt p
  let v ← eval e c.env
  assign (.Name x p') c.env v
  pure .next) := exec_Assign_Name c.env x p' e p (hs c.env)
 rw [hx]
 refine wpAny_bind (wpAny_standAt (wpAny_bind (wpAny_mono (he c μ A s hc hA r) (fun v s1 hq => ?_) fun _ _ f => f)))
 obtain ⟨k1, x1⟩ := hq
 exact wpAny_bind (wpAny_mono (ha c μ A s1 v hc hfm hA (r.kp k1) x1) (fun _ s2 hp => by obtain ⟨r2, _⟩ := hp; exact wpAny_pure ⟨.next, σ', μ, ⟨rfl, rfl⟩, r2, rfl⟩) fun _ _ f => f)
theorem ex_asgT {es : List Expr} {n : Nat} {e : Expr} {p p' : Pos} {d : D} {σ' : St} (he : Ev G sc k σ e d) (ha : As G sc k (.Tuple es n p') d σ σ') (hs : autoParam (∀ env, swapsWithSole [.Tuple es n p'] e p.line env = pure false) ir)
 (hw : autoParam (∀ env, swappedStores [.Tuple es n p'] e env = pure none) ir) : Ex1 G sc k σ (.Assign [.Tuple es n p'] e p) σ' := by
 intro c μ A s hc hfm hA r
 refine Assign_Tuple (wpAny_mono (he c μ A s hc hA r) (fun v s1 hq => ?_) fun _ _ f => f) (hs _) (hw _)
 obtain ⟨k1, x1⟩ := hq
 exact wpAny_mono (ha c μ A s1 v hc hfm hA (r.kp k1) x1) (fun _ s2 hp => by obtain ⟨r2, _⟩ := hp; exact ⟨.next, σ', μ, ⟨rfl, rfl⟩, r2, rfl⟩) fun _ _ f => f
theorem ex_if {t : Expr} {b : Bool} {ss es : List Stmt} {p : Pos} {Q : Fl -> St -> Prop} (ht : Tr G sc k σ t b) (h1 : b = true -> Exs G sc k σ ss Q) (h0 : b = false -> Exs G sc k σ es Q) : Ex G sc k σ (.If t ss es p) Q := by
 intro c μ A s hc hfm hA r
 refine wpAny_If (wpAny_mono (ht c μ A s hc hA r) (fun v s1 hq => ?_) fun _ _ f => f)
 obtain ⟨k1, x1⟩ := hq
 subst x1
 cases v with
 | true => exact h1 rfl c μ A s1 hc hfm hA (r.kp k1)
 | false => exact h0 rfl c μ A s1 hc hfm hA (r.kp k1)
theorem ex_cont {p : Pos} {Q : Fl -> St -> Prop} (h : Q .cont σ) : Ex G sc k σ (.Continue p) Q := fun _ μ _ _ _ _ _ r => wpAny_bind (wpAny_standAt (wpAny_pure ⟨.cont, σ, μ, h, r, rfl⟩))
end
end
section
section
variable {G : Gl} {sc : Scope} {k : Nat} {σ : St}
theorem R.move {c c' : Cx} {μ : List Addr} {s s' : Shared} (r : R G c μ σ s) (F : σ.Firm) (henv : c'.env = c.env) (hmc : c'.mutc = c.mutc)
 (hO : ∀ a o, ¬ c.all μ a -> s.heap.get? a = some o -> ¬ c'.all μ a) (keep : ∀ b o, ¬ c.O b -> s.heap.get? b = some o -> s'.heap.get? b = some o)
 (os : s'.os = c'.os) (tok : s.toks ≤ s'.toks) (bare : AllBare s'.gens) (gens : ∀ g x, c'.gb g x -> s'.gens[g]? = some x) (base : ∀ a o, c'.base a o -> s'.heap.get? a = some o)
 (top : ∀ h : Heap, (∀ a o, c'.base a o -> h.get? a = some o) -> TopG G h) (old : ∀ a, c'.O a -> ∃ o, c'.base a o) (mine : ∀ a, c'.mut μ a -> ¬ c'.O a ∧ ∀ o, ¬ c'.base a o) (hfm : c'.fm = c.fm) (fm : c.fm = true) : R G c' μ σ s' := by
 have hk : ∀ b o, ¬ c.all μ b -> s.heap.get? b = some o -> s'.heap.get? b = some o := fun b o h e => keep b o (fun q => h (.inl q)) e
 have hm : ∀ b o, c.mut μ b -> s.heap.get? b = some o -> s'.heap.get? b = some o := fun b o h e => keep b o (r.mine b h).1 e
 have hL : c.mut μ c.env.locals := .inr (.inl rfl)
 refine ⟨os, Nat.lt_of_lt_of_le r.tok tok, bare, gens, base, top, old, r.len, r.nodup, mine, ?_, ?_, ?_, ?_, ?_, ?_, ?_, ?_, ?_, ?_, ?_⟩
 · obtain ⟨m, hn, h⟩ := r.loc
   rw [henv]
   refine ⟨m, hn.at' fun o e => hm _ o hL e, fun x d e l => ?_⟩
   obtain ⟨v, e1, e2⟩ := h x d e l
   exact ⟨v, e1, e2.firm hO hk (F.1 x d e)⟩
 · rw [henv]
   intro x d e l
   obtain ⟨ca, v, e1, ⟨o, e2, e3⟩, e4⟩ := r.cell x d e l
   refine ⟨ca, v, e1, ?_, e4.firm hO hk (F.1 x d e)⟩
   have hc : c.mut μ ca := by
    rcases l with l | l
    · obtain ⟨ca', q1, q2⟩ := r.mcell fm x l
      rw [e1] at q1; cases q1
      exact .inr (.inr q2)
    · exact absurd l (r.nofree fm x)
   exact ⟨o, hm ca o hc e2, e3⟩
 · intro n l e
   obtain ⟨a, vs, e1, e2, e3⟩ := r.own n l e
   have ha : c.mut μ a := .inl (List.mem_of_getElem? e1)
   exact ⟨a, vs, e1, e2.at fun o => hm a o ha, e3.firm hO hk (F.2 n l e)⟩
 · rw [henv]; exact r.kind
 · rw [henv]; exact r.glob
 · rw [henv]; exact r.blt
 · rw [henv, hfm]; exact r.cells
 · rw [hmc]
   intro a h
   obtain ⟨x, o, e1, e2⟩ := r.mutc a h
   exact ⟨x, o, hm a o (.inr (.inr h)) e1, e2⟩
 · intro _; exact F
 · rw [henv, hmc, hfm]; exact r.mcell
 · rw [henv, hfm]; exact r.nofree
noncomputable def Cx.plus (c : Cx) (prot wr : Addr -> Prop) (gp : Nat -> Prop) (s : Shared) : Cx :=
 { c with O := fun a => c.O a ∨ wr a, base := fun a o => c.base a o ∨ (prot a ∧ s.heap.get? a = some o), gb := fun g x => c.gb g x ∨ (gp g ∧ s.gens[g]? = some x) }
set_option tactic.hygienic true in
theorem ex_for {tgt iter : Expr} {body : List Stmt} {p : Pos} {ds : List D} {ow : Bool} {Q : Fl -> St -> Prop} (hit : EvIt G sc k σ iter ds ow false) (how : ow = true ∨ ∀ it v, letOwnedTupleGo tgt it v = pure ()) (Inv : List D -> St -> Prop) (h0 : Inv ds σ)
 (turn : ∀ d r σ1, Inv (d :: r) σ1 -> ∃ σ2, As G sc k tgt d σ1 σ2 ∧ Exs G sc k σ2 body (fun fl σ3 => match fl with | .next => Inv r σ3 | .cont => Inv r σ3 | .brk => Q .next σ3 | .ret d => Q (.ret d) σ3))
 (fin : ∀ σ1, Inv [] σ1 -> Q .next σ1) (hs : autoParam (∀ env x, foldedSetIterable iter env x = pure x) ir) : Ex G sc k σ (.For tgt iter body [] p) Q := by
 intro c μ A s hc hfm hA r
 refine wpAny_For (wpAny_mono (hit c μ A s hc hA r) (fun x s1 h1 => wpAny_mono h1 (fun it s2 h2 => ?_) fun _ _ f => f) fun _ _ f => f) (hs _)
 obtain ⟨k2, wr, gp, hwf, hwe, hgf, hge, hW⟩ := h2
 have r2 := r.kp k2
 let prot : Addr -> Prop := fun a => (∃ o, s2.heap.get? a = some o) ∧ ¬ c.mut μ a
 have W0 : Walk G k (c.all μ) it ow prot wr gp ds s2 := (hW prot fun b o e h => ⟨⟨o, e⟩, h rfl⟩).1
 have wrp : ∀ b, wr b -> prot b := fun b hb => ⟨hwe b hb, fun hm => by
  obtain ⟨o, ho⟩ := r.mutAt hm
  rw [hwf b hb] at ho; cases ho⟩
 let J : Nat -> Shared -> Prop := fun n s' => ∃ rest σ1 μ1, rest.length = n ∧ Inv rest σ1 ∧ R G (c.plus prot wr gp s') μ1 σ1 s' ∧ Walk G k (c.all μ) it ow prot wr gp rest s' ∧ (∀ b, wr b -> ∃ o, s'.heap.get? b = some o) ∧ (∀ b, prot b -> ∃ o, s'.heap.get? b = some o)
 have back : ∀ {μ1 σ1 s'}, R G (c.plus prot wr gp s') μ1 σ1 s' -> R G c μ1 σ1 s' := fun {μ1 σ1 s'} q =>
  q.move (q.firm hfm) rfl rfl (fun a o n _ m => n (by rcases m with m | m; exact .inl (.inl m); exact .inr m)) (fun b o _ e => e) q.os (Nat.le_refl _) q.bare (fun g x h => q.gens g x (.inl h)) (fun a o h => q.base a o (.inl h)) r.top r.old
   (fun a h => ⟨fun q' => (q.mine a h).1 (.inl q'), fun o q' => (q.mine a h).2 o (.inl q')⟩) rfl hfm
 have step : ∀ {μ1 σ1} {s' s'' : Shared}, R G (c.plus prot wr gp s') μ1 σ1 s' -> (∀ b, prot b -> ∃ o, s'.heap.get? b = some o) -> (∀ b, wr b -> ∃ o, s''.heap.get? b = some o) -> Chg wr gp s' s'' -> R G (c.plus prot wr gp s'') μ1 σ1 s'' := fun {μ1 σ1 s' s''} q hp he ch => by
  refine q.move (q.firm hfm) rfl rfl (fun a o n _ m => n m) (fun b o h e => ch.heap b o (fun w => h (.inr w)) e) (ch.os.trans q.os) ch.toks (ch.bare q.bare) (fun g x h => ?_) (fun a o h => ?_) (fun h hb => r.top h fun a o e => hb a o (.inl e)) (fun a h => ?_) (fun a h => ?_) rfl hfm
  · rcases h with h | h
    · refine ch.gens g x (fun hg => ?_) (q.gens g x (.inl h))
      have := r.gens g x h
      rw [hgf g hg] at this; cases this
    · exact h.2
  · rcases h with h | h
    · refine ch.heap a o (fun hw => ?_) (q.base a o (.inl h))
      have := r.base a o h
      rw [hwf a hw] at this; cases this
    · exact h.2
  · rcases h with h | h
    · obtain ⟨o, ho⟩ := r.old a h
      exact ⟨o, .inl ho⟩
    · obtain ⟨o, ho⟩ := he a h
      exact ⟨o, .inr ⟨wrp a h, ho⟩⟩
  · refine ⟨(q.mine a h).1, fun o ho => ?_⟩
    rcases ho with ho | ho
    · exact (q.mine a h).2 o (.inl ho)
    · obtain ⟨o', ho'⟩ := hp a ho.1
      exact (q.mine a h).2 o' (.inr ⟨ho.1, ho'⟩)
 have again : ∀ {μ1 σ1} {s' s'' : Shared}, R G (c.plus prot wr gp s') μ1 σ1 s'' -> (∀ b, prot b -> ∃ o, s'.heap.get? b = some o) -> (∀ b, wr b -> ∃ o, s''.heap.get? b = some o) -> R G (c.plus prot wr gp s'') μ1 σ1 s'' := fun {μ1 σ1 s' s''} q hp he => by
  refine q.move (q.firm hfm) rfl rfl (fun a o n _ m => n m) (fun b o _ e => e) q.os (Nat.le_refl _) q.bare (fun g x h => ?_) (fun a o h => ?_) (fun h hb => r.top h fun a o e => hb a o (.inl e)) (fun a h => ?_) (fun a h => ?_) rfl hfm
  · rcases h with h | h
    · exact q.gens g x (.inl h)
    · exact h.2
  · rcases h with h | h
    · exact q.base a o (.inl h)
    · exact h.2
  · rcases h with h | h
    · obtain ⟨o, ho⟩ := r.old a h
      exact ⟨o, .inl ho⟩
    · obtain ⟨o, ho⟩ := he a h
      exact ⟨o, .inr ⟨wrp a h, ho⟩⟩
  · refine ⟨(q.mine a h).1, fun o ho => ?_⟩
    rcases ho with ho | ho
    · exact (q.mine a h).2 o (.inl ho)
    · obtain ⟨o', ho'⟩ := hp a ho.1
      exact (q.mine a h).2 o' (.inr ⟨ho.1, ho'⟩)
 have r0 : R G (c.plus prot wr gp s2) μ σ s2 := by
  refine r.move (r.firm hfm) rfl rfl (fun a o n e m => ?_) (fun b o _ e => k2.heap b o e) r2.os k2.toks r2.bare (fun g x h => ?_) (fun a o h => ?_) (fun h hb => r.top h fun a o e => hb a o (.inl e)) (fun a h => ?_) (fun a h => ?_) rfl hfm
  · rcases m with (m | m) | m
    · exact n (.inl m)
    · rw [hwf a m] at e; cases e
    · exact n (.inr m)
  · rcases h with h | h
    · exact r2.gens g x h
    · exact h.2
  · rcases h with h | h
    · exact r2.base a o h
    · exact h.2
  · rcases h with h | h
    · obtain ⟨o, ho⟩ := r.old a h
      exact ⟨o, .inl ho⟩
    · obtain ⟨o, ho⟩ := hwe a h
      exact ⟨o, .inr ⟨wrp a h, ho⟩⟩
  · refine ⟨fun q => ?_, fun o ho => ?_⟩
    · rcases q with q | q
      · exact (r2.mine a h).1 q
      · exact (wrp a q).2 h
    · rcases ho with ho | ho
      · exact (r2.mine a h).2 o ho
      · exact ho.1.2 h
 refine codeAny_forLoop_any J (fun n s' hq => ?_) ds.length ⟨ds, σ, μ, rfl, h0, r0, W0, hwe, fun b hb => hb.1⟩
 obtain ⟨rest, σ1, μ1, hn, hI, q, W, e1, e2⟩ := hq
 cases rest with
 | nil =>
  refine wpAny_mono (W s' A (fun _ _ _ e => e) (fun _ _ _ e => e) q.bare (Nat.le_refl _) q.topG hA) (fun rr s'' hq => ?_) fun _ _ f => f.elim
  obtain ⟨hr, ch⟩ := hq
  subst hr
  have q1 : R G c μ1 σ1 s'' := by
   refine q.move (q.firm hfm) rfl rfl (fun a o n _ m => n (by rcases m with m | m; exact .inl (.inl m); exact .inr m)) (fun b o h e => ch.heap b o (fun w => h (.inr w)) e) (ch.os.trans q.os) ch.toks (ch.bare q.bare) (fun g x h => ?_) (fun a o h => ?_) r.top r.old
    (fun a h => ⟨fun q' => (q.mine a h).1 (.inl q'), fun o q' => (q.mine a h).2 o (.inl q')⟩) rfl hfm
   · refine ch.gens g x (fun hg => ?_) (q.gens g x (.inl h))
     have := r.gens g x h
     rw [hgf g hg] at this; cases this
   · refine ch.heap a o (fun hw => ?_) (q.base a o (.inl h))
     have := r.base a o h
     rw [hwf a hw] at this; cases this
  exact wpAny_execs_nil ⟨.next, σ1, μ1, fin σ1 hI, q1, rfl⟩
 | cons d rest =>
  refine wpAny_mono (W s' A (fun _ _ _ e => e) (fun _ _ _ e => e) q.bare (Nat.le_refl _) q.topG hA) (fun rr s'' hq => ?_) fun _ _ f => f.elim
  obtain ⟨v, hr, hv, he, hown, ch, W'⟩ := hq
  subst hr
  have q' := step q e2 he ch
  obtain ⟨σ2, hAs, hEx⟩ := turn d rest σ1 hI
  have hp2 : ∀ b, prot b -> ∃ o, s''.heap.get? b = some o := fun b hb => by
   by_cases hw : wr b
   · exact he b hw
   · obtain ⟨o, ho⟩ := e2 b hb
     exact ⟨o, ch.heap b o hw ho⟩
  have hv' := hv ((c.plus prot wr gp s'').all μ1) μ1 fun a ha => by
   rcases ha with (ha | ha) | ha
   · obtain ⟨o, ho⟩ := r.old a ha
     exact ⟨.inl (.inl ha), o, q.base a o (.inl ho)⟩
   · exact ⟨.inr (.inr ha), e1 a ha⟩
   · refine ⟨.inr (.inl fun hp => ?_), q.mutAt ha⟩
     obtain ⟨o, ho⟩ := e2 a hp
     exact (q.mine a ha).2 o (.inr ⟨hp, ho⟩)
  have rest3 : wpAny (model G.prog G.w) A (assign tgt c.env v) (fun _ s₂ => wpAny (model G.prog G.w) A (execs body c.env) (fun f s₃ => match f with
   | .next | .cont => ∃ m, m < n ∧ J m s₃
   | .brk => Post G c Q .next s₃
   | .ret v => Post G c Q (.ret v) s₃) (fun _ _ => False) s₂) (fun _ _ => False) s'' := by
   refine wpAny_mono (wpAny_toks_of (Nat.le_refl s''.toks) (hAs (c.plus prot wr gp s'') μ1 A s'' v hc hfm hA q' hv')) (fun _ s3 hq => ?_) fun _ _ f => f.2
   obtain ⟨htk0, r3, p3⟩ := hq
   refine wpAny_mono (wpAny_toks_of htk0 (hEx (c.plus prot wr gp s'') μ1 A s3 hc hfm hA r3)) (fun f s4 hq => ?_) fun _ _ f => f.2
   obtain ⟨htk, fl, σ3, μ3, hQ, r4, hf⟩ := hq
   have wr4 : ∀ b, wr b -> ∃ o, s4.heap.get? b = some o := fun b hb => by
    obtain ⟨o, ho⟩ := he b hb
    exact ⟨o, r4.base b o (.inr ⟨wrp b hb, ho⟩)⟩
   have go : Inv rest σ3 -> ∃ m, m < n ∧ J m s4 := fun hI3 => by
    refine ⟨rest.length, by simp at hn; exact Nat.le_of_eq hn, rest, σ3, μ3, rfl, hI3, again r4 hp2 wr4, W'.later (fun b o hp e => r4.base b o (.inr ⟨hp, e⟩)) (fun g x hg e => r4.gens g x (.inr ⟨hg, e⟩)) htk, wr4, fun b hb => ?_⟩
    obtain ⟨o, ho⟩ := hp2 b hb
    exact ⟨o, r4.base b o (.inr ⟨hb, ho⟩)⟩
   have out : R G c μ3 σ3 s4 := r4.move (r4.firm hfm) rfl rfl (fun a o n _ m => n (by rcases m with m | m; exact .inl (.inl m); exact .inr m)) (fun b o _ e => e) r4.os (Nat.le_refl _) r4.bare (fun g x h => r4.gens g x (.inl h)) (fun a o h => r4.base a o (.inl h)) r.top r.old
    (fun a h => ⟨fun q' => (r4.mine a h).1 (.inl q'), fun o q' => (r4.mine a h).2 o (.inl q')⟩) rfl hfm
   cases fl with
   | next => cases hf; exact go hQ
   | cont => cases hf; exact go hQ
   | brk => cases hf; exact ⟨.next, σ3, μ3, hQ, out, rfl⟩
   | ret dd =>
    obtain ⟨hd, u, rfl, hu⟩ := hf
    exact ⟨.ret dd, σ3, μ3, hQ, out, hd, u, rfl, hu.firm (fun a o n _ m => n (by rcases m with m | m; exact .inl (.inl m); exact .inr m)) (fun _ _ _ e => e) hd⟩
  have fin3 := wpAny_mono rest3 (fun _ _ x => wpAny_mono x (fun _ _ y => y) (fun e s' f => (f.elim : notedBy (model G.prog G.w) A c.env (fun e s' => cameBackBy (model G.prog G.w) A c.env (fun _ _ => False) e s') e s'))) (fun e s' f => (f.elim : notedBy (model G.prog G.w) A c.env (fun e s' => cameBackBy (model G.prog G.w) A c.env (fun _ _ => False) e s') e s'))
  rcases how with ho | ho
  · exact hown ho tgt fin3
  · show wpAny _ A (letOwnedTupleGo tgt it v) _ _ s''
    rw [ho]
    exact wpAny_pure fin3
end
end
section
mutual
theorem Holds.grow {O : Addr -> Prop} {μ : List Addr} {h : Heap} (z : Addr) : ∀ {d : D} {v : Value}, Holds O μ h d v -> Holds O (μ ++ [z]) h d v
 | .none, _, e => e
 | .bool _, _, e => e
 | .int _, _, e => e
 | .str _, _, e => e
 | .tup _, _, ⟨a, vs, e, n, t, l⟩ => ⟨a, vs, e, n, t, HoldsL.grow z l⟩
 | .lst _, _, ⟨a, vs, e, n, t, l⟩ => ⟨a, vs, e, n, t, HoldsL.grow z l⟩
 | .bor _, _, ⟨a, vs, e, t, l⟩ => ⟨a, vs, e, t, HoldsL.grow z l⟩
 | .new _, _, ⟨a, vs, e, n, t, l⟩ => ⟨a, vs, e, n, t, HoldsL.grow z l⟩
 | .val _, _, e => e
 | .rng _ _, _, e => e
 | .dct _, _, e => e
 | .h k, _, ⟨a, e1, e2⟩ => ⟨a, by rw [List.getElem?_append_left (List.getElem?_eq_some_iff.mp e1).1]; exact e1, e2⟩
theorem HoldsL.grow {O : Addr -> Prop} {μ : List Addr} {h : Heap} (z : Addr) : ∀ {ds : List D} {vs : List Value}, HoldsL O μ h ds vs -> HoldsL O (μ ++ [z]) h ds vs
 | [], [], _ => trivial
 | _ :: _, _ :: _, ⟨e, r⟩ => ⟨Holds.grow z e, HoldsL.grow z r⟩
 | [], _ :: _, e => e
 | _ :: _, [], e => e
end
section
variable {G : Gl} {sc : Scope} {k : Nat} {σ : St}
theorem all_grow {c : Cx} {μ : List Addr} {z a : Addr} (h : c.all (μ ++ [z]) a) : c.all μ a ∨ a = z := by
 rcases h with h | h | h | h
 · exact .inl (.inl h)
 · rcases List.mem_append.mp h with h | h
   · exact .inl (.inr (.inl h))
   · exact .inr (List.mem_singleton.mp h)
 · exact .inl (.inr (.inr (.inl h)))
 · exact .inl (.inr (.inr (.inr h)))
theorem R.own_new {c : Cx} {μ : List Addr} {s s' : Shared} (r : R G c μ σ s) (kp : Kp s s') {l : List D} {v : Value} (n : NewL c μ s s' l v) (hl : D.firmL l = true) (fm : c.fm = true) :
 ∃ z, v = .ref z ∧ R G c (μ ++ [z]) { σ with own := σ.own ++ [l] } s' := by
 obtain ⟨z, vs, rfl, hz, hp, hh⟩ := n
 have r' := r.kp kp
 refine ⟨z, rfl, ?_⟩
 have nz : ∀ a, (∃ o, s.heap.get? a = some o) -> a ≠ z := fun a ⟨o, e⟩ q => by rw [q, hz] at e; cases e
 have zall : ¬ c.all μ z := r.fresh hz
 have F := r.firm fm
 have sh : ∀ {d : D} {v : Value}, Holds (c.all μ) μ s.heap d v -> Holds (c.all (μ ++ [z])) (μ ++ [z]) s'.heap d v := fun {d v} x => (((x.avoid hz).keep kp.heap).weak fun a h => all_grow h).grow z
 refine { r' with len := by simp [r'.len], nodup := ?_, mine := ?_, loc := ?_, cell := ?_, own := ?_, firm := ?_ }
 · refine List.nodup_append.mpr ⟨r'.nodup, by simp, fun a ha b hb => ?_⟩
   rw [List.mem_singleton.mp hb]
   rintro rfl
   exact zall (.inr (.inl ha))
 · intro a ha
   rcases all_grow (.inr ha) with h | h
   · rcases ha with ha | ha
     · rcases List.mem_append.mp ha with ha | ha
       · exact r'.mine a (.inl ha)
       · rw [List.mem_singleton.mp ha] at h; exact absurd h zall
     · exact r'.mine a (.inr ha)
   · subst h
     exact ⟨fun q => zall (.inl q), fun o ho => by have := r.base _ o ho; rw [hz] at this; cases this⟩
 · obtain ⟨m, hn, h⟩ := r.loc
   exact ⟨m, hn.keeps kp.heap, fun x d e l' => (by obtain ⟨v, e1, e2⟩ := h x d e l'; exact ⟨v, e1, sh e2⟩)⟩
 · exact fun x d e l' => (by obtain ⟨ca, v, e1, e2, e3⟩ := r.cell x d e l'; exact ⟨ca, v, e1, e2.keeps kp.heap, sh e3⟩)
 · intro i items e
   by_cases hi : i < σ.own.length
   · rw [List.getElem?_append_left hi] at e
     obtain ⟨a, us, e1, e2, e3⟩ := r.own i items e
     refine ⟨a, us, by rw [List.getElem?_append_left (by rw [r.len]; exact hi)]; exact e1, e2.at (kp.heap a), ?_⟩
     exact (((e3.avoid hz).keep kp.heap).weak fun a h => all_grow h).grow z
   · have hi' : i = σ.own.length := by
      have := (List.getElem?_eq_some_iff.mp e).1
      simp at this; exact Nat.le_antisymm (dl1 0 0 1 1 this rfl) (Nat.le_of_not_lt hi)
     subst hi'
     simp at e
     subst e
     exact ⟨z, vs, by rw [← r.len]; simp, hp, (hh.weak fun a h => all_grow h).grow z⟩
 · intro _
   refine ⟨F.1, fun i items e => ?_⟩
   by_cases hi : i < σ.own.length
   · rw [List.getElem?_append_left hi] at e; exact F.2 i items e
   · have hi' : i = σ.own.length := by
      have := (List.getElem?_eq_some_iff.mp e).1
      simp at this; exact Nat.le_antisymm (dl1 0 0 1 1 this rfl) (Nat.le_of_not_lt hi)
     subst hi'
     simp at e
     subst e; exact hl
theorem R.own_set {c : Cx} {μ : List Addr} {s : Shared} (r : R G c μ σ s) (fm : c.fm = true) {n : Nat} {a : Addr} {l : List D} {vs : Array Value} {h' : Heap} {tk : Nat} (ha : μ[n]? = some a) (hs : Heap.SameBut a s.heap h') (htk : s.toks ≤ tk)
 (hp : h'.PlainList a vs) (hh : HoldsL (c.all μ) μ s.heap l vs.toList) (hl : D.firmL l = true) : R G c μ { σ with own := σ.own.set n l } { s with heap := h', toks := tk } := by
 have F := r.firm fm
 have hm : c.mut μ a := .inl (List.mem_of_getElem? ha)
 have kd : ∀ b o, ¬ c.all μ b -> s.heap.get? b = some o -> h'.get? b = some o := fun b o hb e => (hs.2 b (fun q => hb (q ▸ .inr hm))).trans e
 obtain ⟨m, hn, hloc⟩ := r.loc
 have hnn : n < σ.own.length := by rw [← r.len]; exact (List.getElem?_eq_some_iff.mp ha).1
 obtain ⟨a', vs0, q1, q2, q3⟩ := r.own n _ (List.getElem?_eq_getElem hnn)
 rw [ha] at q1; cases q1
 refine r.turn F hm hs htk ⟨F.1, fun i items e => ?_⟩ (by simp) ⟨m, hn.sameBut hs (Ne.symm (list_ne_ns q2 hn)), fun x d e l' => ?_⟩ (fun x d e l' => ?_) (fun i items e => ?_) (fun b hb => ?_)
 · simp only [List.getElem?_set] at e
   by_cases hni : n = i
   · subst hni
     simp only [if_true, hnn] at e
     cases e; exact hl
   · rw [if_neg hni] at e; exact F.2 i items e
 · obtain ⟨v, e1, e2⟩ := hloc x d e l'
   exact ⟨v, e1, e2.firm (fun _ _ z _ => z) kd (F.1 x d e)⟩
 · obtain ⟨ca, v, e1, e2, e3⟩ := r.cell x d e l'
   exact ⟨ca, v, e1, e2.sameBut hs (Ne.symm (list_ne_cell q2 e2)), e3.firm (fun _ _ z _ => z) kd (F.1 x d e)⟩
 · simp only [List.getElem?_set] at e
   by_cases hni : n = i
   · subst hni
     simp only [if_true, hnn] at e
     cases e
     exact ⟨a, vs, ha, hp, hh.firm (fun _ _ z _ => z) kd hl⟩
   · rw [if_neg hni] at e
     obtain ⟨b, us, e1, e2, e3⟩ := r.own i items e
     have hba : b ≠ a := fun q => by
      subst q
      have h1 := List.getElem?_eq_some_iff.mp ha
      have h2 := List.getElem?_eq_some_iff.mp e1
      obtain ⟨h1a, h1b⟩ := h1
      obtain ⟨h2a, h2b⟩ := h2
      have P := List.pairwise_iff_getElem.mp r.nodup
      rcases Nat.lt_trichotomy n i with q | q | q
      · exact P n i h1a h2a q (h1b.trans h2b.symm)
      · exact hni q
      · exact P i n h2a h1a q (h2b.trans h1b.symm)
     exact ⟨b, us, e1, e2.extBut hs.extBut hba, e3.firm (fun _ _ z _ => z) kd (F.2 i items e)⟩
 · obtain ⟨y, hy⟩ := r.mutc b hb
   exact ⟨y, hy.sameBut hs (Ne.symm (list_ne_cell q2 hy))⟩
end
end
section
section
variable {G : Gl} {sc : Scope} {k : Nat} {σ : St}
theorem ex_own {t e : Expr} {x : Str} {p p' : Pos} {l : List D} {σ' : St} (ht : t = .Name x p') (he : EvN G sc k σ e l) (hl : D.firmL l = true) (ha : As G sc k t (.h σ.own.length) { σ with own := σ.own ++ [l] } σ') (hs : autoParam (∀ env, swapsWith e (some t) p.line env = pure false) ir) : Ex1 G sc k σ (.Assign [t] e p) σ' := by
 subst ht
 intro c μ A s hc hfm hA r
 have hx : exec (.Assign [.Name x p'] e p) c.env = (do
  standAt p
  let v ← eval e c.env
  assign (.Name x p') c.env v
  pure .next) := exec_Assign_Name c.env x p' e p (hs c.env)
 rw [hx]
 refine wpAny_bind (wpAny_standAt (wpAny_bind (wpAny_mono (he c μ A s hc hA r) (fun v s1 hq => ?_) fun _ _ f => f)))
 obtain ⟨k1, x1⟩ := hq
 obtain ⟨z, rfl, r1⟩ := r.own_new k1 x1 hl hfm
 exact wpAny_bind (wpAny_mono (ha c _ A s1 (.ref z) hc hfm hA r1 ⟨z, by rw [← r.len]; simp, rfl⟩) (fun _ s2 hp => by obtain ⟨r2, _⟩ := hp; exact wpAny_pure ⟨.next, σ', _, ⟨rfl, rfl⟩, r2, rfl⟩) fun _ _ f => f)
theorem wp_meth {o : Expr} {name : Str} {apos p : Pos} {args : List Expr} {T id : String} {d0 : D} {ds : List D} {K : Value -> Shared -> Prop} {c : Cx} {μ : List Addr} {A : Around} {s : Shared} (hc : c.env.scope = sc) (hA : Aok k A) (r : R G c μ σ s)
 (ho : Ev G sc k σ o d0) (ha : EvL G sc k σ args ds) (pa : PlainAttrs T) (slot : Slot T name id) (ty : typeOf (.builtin id) = pure (.type "method_descriptor"))
 (hT : ∀ s v, R G c μ σ s -> Holds (c.all μ) μ s.heap d0 v -> s.TypeIs v T ∧ ∀ a, v = .ref a -> ∃ ob, s.heap.get? a = some ob ∧ ob.dict = none)
 (hc' : ∀ s' v vs, Kp s s' -> R G c μ σ s' -> Holds (c.all μ) μ s'.heap d0 v -> HoldsL (c.all μ) μ s'.heap ds vs -> wpAny (model G.prog G.w) A (call (.builtin id) (v :: vs)) K (fun _ _ => False) s')
 (hbase : autoParam (∀ env, attributeBase o name env (eval o env) = eval o env) ir)
 (hfew : autoParam (∀ env, ((backTo p (starEach args env)).all (fun x => !x.1) && (backToKw p (keywordEach [] env)).all (fun x => x.1.isSome) && decide (args.length + ([] : List Keyword).length + (if ([] : List Keyword).isEmpty then 0 else 1) < 30)) = true) ir)
 (hline : autoParam ((apos.endLine == p.line) = true) ir) : wpAny (model G.prog G.w) A (eval (.Call (.Attribute o name apos) args [] p) c.env) K (fun _ _ => False) s := by
 refine wpAny_Call_method_lateS (hbase _) (hfew _) hline (wpAny_mono (ho c μ A s hc hA r) (fun v s1 hq => ?_) fun _ _ f => f)
 obtain ⟨k1, x1⟩ := hq
 have r1 := r.kp k1
 obtain ⟨t1, t2⟩ := hT s1 v r1 x1
 refine ⟨T, id, pa, slot, ty, t1, t2, ?_⟩
 have hx := ha c μ A s1 p hc hA r1
 refine Calls.callWith_builtin hx.1 (evalArgs_any hx.1 (wpAny_mono hx.2 (fun vs s2 hq => ?_) fun _ _ f => f))
 obtain ⟨k2, x2⟩ := hq
 exact hc' s2 v vs (k1.trans k2) (r1.kp k2) (x1.keep k2.heap) x2
theorem ev_meth {o : Expr} {name : Str} {apos p : Pos} {args : List Expr} {T id : String} {d0 d : D} {ds : List D} (ho : Ev G sc k σ o d0) (ha : EvL G sc k σ args ds) (pa : PlainAttrs T) (slot : Slot T name id) (ty : typeOf (.builtin id) = pure (.type "method_descriptor"))
 (hT : ∀ c μ s v, R G c μ σ s -> Holds (c.all μ) μ s.heap d0 v -> s.TypeIs v T ∧ ∀ a, v = .ref a -> ∃ ob, s.heap.get? a = some ob ∧ ob.dict = none)
 (hc' : Cal G k σ (.builtin id) (d0 :: ds) d)
 (hbase : autoParam (∀ env, attributeBase o name env (eval o env) = eval o env) ir)
 (hfew : autoParam (∀ env, ((backTo p (starEach args env)).all (fun x => !x.1) && (backToKw p (keywordEach [] env)).all (fun x => x.1.isSome) && decide (args.length + ([] : List Keyword).length + (if ([] : List Keyword).isEmpty then 0 else 1) < 30)) = true) ir)
 (hline : autoParam ((apos.endLine == p.line) = true) ir) : Ev G sc k σ (.Call (.Attribute o name apos) args [] p) d := fun c μ A s hc hA r =>
 wp_meth hc hA r ho ha pa slot ty (hT c μ) (fun s' v vs kp r' hv hvs => wpAny_mono (hc' c μ A s' (v :: vs) hA r' ⟨hv, hvs⟩) (fun u s2 hp => by obtain ⟨k2, x2⟩ := hp; exact ⟨kp.trans k2, x2⟩) fun _ _ f => f) hbase hfew hline
theorem ty_str {x : List Nat} : ∀ (c : Cx) μ s v, R G c μ σ s -> Holds (c.all μ) μ s.heap (.str x) v -> s.TypeIs v "str" ∧ ∀ a, v = .ref a -> ∃ ob, s.heap.get? a = some ob ∧ ob.dict = none := by
 rintro c μ s v r ⟨t, rfl⟩
 exact ⟨typeIs_str _ _ _, fun _ e => nomatch e⟩
theorem ex_ownMeth {o : Expr} {name : Str} {apos p q : Pos} {args : List Expr} {id : String} {n : Nat} {l : List D} {ds : List D} {σ' : St}
 (ho : Ev G sc k σ o (.h n)) (hn : σ.own[n]? = some l) (ha : EvL G sc k σ args ds) (slot : Slot "list" name id) (ty : typeOf (.builtin id) = pure (.type "method_descriptor"))
 (hc' : ∀ c μ A s a vs us, c.fm = true -> Aok k A -> R G c μ σ s -> μ[n]? = some a -> s.heap.PlainList a vs -> HoldsL (c.all μ) μ s.heap l vs.toList -> HoldsL (c.all μ) μ s.heap ds us ->
  wpAny (model G.prog G.w) A (call (.builtin id) (.ref a :: us)) (fun v s' => (∀ a, v ≠ .ref a) ∧ R G c μ σ' s') (fun _ _ => False) s)
 (hbase : autoParam (∀ env, attributeBase o name env (eval o env) = eval o env) ir)
 (hfew : autoParam (∀ env, ((backTo p (starEach args env)).all (fun x => !x.1) && (backToKw p (keywordEach [] env)).all (fun x => x.1.isSome) && decide (args.length + ([] : List Keyword).length + (if ([] : List Keyword).isEmpty then 0 else 1) < 30)) = true) ir)
 (hline : autoParam ((apos.endLine == p.line) = true) ir) (hsw : autoParam (∀ env, swapsWith (.Call (.Attribute o name apos) args [] p) none q.line env = pure false) ir) : Ex1 G sc k σ (.Expr (.Call (.Attribute o name apos) args [] p) q) σ' := by
 intro c μ A s hc hfm hA r
 refine wpAny_Expr (wpAny_mono (wp_meth hc hA r ho ha PySem.F.plainAttrs_list slot ty (fun s v r' x => ?_) (fun s' v vs kp r' hv hvs => ?_) hbase hfew hline (K := fun v s' => (∀ a, v ≠ .ref a) ∧ R G c μ σ' s')) (fun v s2 ⟨h1, h2⟩ => ?_) fun _ _ f => f) (by show (c.env.scope.kind == ScopeKind.module && _) = false; rw [r.kind]; rfl) (hsw _)
 · obtain ⟨a, e1, rfl⟩ := x
   obtain ⟨a', vs, e2, ⟨n', e3⟩, _⟩ := r'.own n l hn
   rw [e1] at e2; cases e2
   exact ⟨⟨_, e3, rfl⟩, fun b e => by cases e; exact ⟨_, e3, rfl⟩⟩
 · obtain ⟨a, e1, rfl⟩ := hv
   obtain ⟨a', us, e2, e3, e4⟩ := r'.own n l hn
   rw [e1] at e2; cases e2
   exact hc' c μ A s' a us vs hfm hA r' e1 e3 e4 hvs
 · cases v <;> first | exact absurd rfl (h1 _) | exact ⟨.next, σ', μ, ⟨rfl, rfl⟩, h2, rfl⟩
theorem ex_append {o e : Expr} {apos p q : Pos} {n : Nat} {l : List D} {d : D} (ho : Ev G sc k σ o (.h n)) (hn : σ.own[n]? = some l) (he : Ev G sc k σ e d) (hd : d.firm = true) (hz : l.length ≤ 16777216)
 (hs : autoParam (∀ env, starEach [e] env = (false, eval e env) :: starEach [] env) ir)
 (hbase : autoParam (∀ env, attributeBase o (Str.ofString "append") env (eval o env) = eval o env) ir)
 (hfew : autoParam (∀ env, ((backTo p (starEach [e] env)).all (fun x => !x.1) && (backToKw p (keywordEach [] env)).all (fun x => x.1.isSome) && decide ([e].length + ([] : List Keyword).length + (if ([] : List Keyword).isEmpty then 0 else 1) < 30)) = true) ir)
 (hline : autoParam ((apos.endLine == p.line) = true) ir) (hsw : autoParam (∀ env, swapsWith (.Call (.Attribute o (Str.ofString "append") apos) [e] [] p) none q.line env = pure false) ir) :
 Ex1 G sc k σ (.Expr (.Call (.Attribute o (Str.ofString "append") apos) [e] [] p) q) { σ with own := σ.own.set n (l ++ [d]) } := by
 refine ex_ownMeth ho hn (evL_cons he evL_nil hs) PySem.F.slot_list_append PySem.F.type_list_append (fun c μ A s a vs us fm hA r e1 e2 e3 e4 => ?_) hbase hfew hline hsw
 obtain ⟨u, rfl, hu⟩ := e4.one
 · have hlen : l.length = vs.size := by simpa using e3.length
   refine wpAny_list_append_plain (hsz := by rw [sizeLine_eq]; exact dl2 0 16777216 0 0 0 16777216 (Nat.le_of_eq hlen.symm) hz rfl) e2 fun h' hp hs => ⟨fun a e => (nomatch e), ?_⟩
   refine r.own_set (tk := s.toks) fm e1 hs (Nat.le_refl _) hp ?_ ?_
   · simpa using e3.append (us := [u]) (es := [d]) ⟨hu, trivial⟩
   · rw [firmL_append, (r.firm fm).2 n l hn]
     show (true && (d.firm && true)) = true
     rw [hd]; rfl
theorem ex_extend {o e : Expr} {apos p q : Pos} {n : Nat} {l l2 : List D} (ho : Ev G sc k σ o (.h n)) (hn : σ.own[n]? = some l) (he : EvN G sc k σ e l2) (hd : D.firmL l2 = true) (hz : l.length + l2.length ≤ 16777216)
 (hs : autoParam (∀ env, starEach [e] env = (false, eval e env) :: starEach [] env) ir)
 (hbase : autoParam (∀ env, attributeBase o (Str.ofString "extend") env (eval o env) = eval o env) ir)
 (hfew : autoParam (∀ env, ((backTo p (starEach [e] env)).all (fun x => !x.1) && (backToKw p (keywordEach [] env)).all (fun x => x.1.isSome) && decide ([e].length + ([] : List Keyword).length + (if ([] : List Keyword).isEmpty then 0 else 1) < 30)) = true) ir)
 (hline : autoParam ((apos.endLine == p.line) = true) ir) (hsw : autoParam (∀ env, swapsWith (.Call (.Attribute o (Str.ofString "extend") apos) [e] [] p) none q.line env = pure false) ir) :
 Ex1 G sc k σ (.Expr (.Call (.Attribute o (Str.ofString "extend") apos) [e] [] p) q) { σ with own := σ.own.set n (l ++ l2) } := by
 refine ex_ownMeth ho hn (evL_cons he.ev evL_nil hs) PySem.F.slot_list_extend PySem.F.type_list_extend (fun c μ A s a vs us fm hA r e1 e2 e3 e4 => ?_) hbase hfew hline hsw
 obtain ⟨u, rfl, hu⟩ := e4.one
 · obtain ⟨b, ws, rfl, hb, hwl, hw⟩ := hu
   have hlen : l.length = vs.size := by simpa using e3.length
   have hlen2 : l2.length = ws.size := by simpa using hw.length
   obtain ⟨n0, ho⟩ := id e2
   obtain ⟨ob, hob, hcb, nb, hdb⟩ := hwl
   refine wpAny_call_entry PySem.F.slot_list_extend ⟨_, ho, rfl⟩ PySem.F.entry_list_extend ?_ (PySem.F.args_list_extend_2 _ _)
   show wpAny _ _ (Builtin.List.listExtendWith (.ref a) (.ref b) .none) _ _ s
   unfold Builtin.List.listExtendWith
   refine wpAny_bind (wpAny_typeOf ⟨_, hob, hcb⟩ ?_)
   have h1 : (Builtin.List.listSameRef (.ref a) (.ref b) || Value.type "list" == Value.type "list" || Value.type "list" == Value.type "tuple") = true := by simp
   simp only [h1, if_true]
   refine wpAny_bind ?_
   unfold Builtin.List.listItems
   refine wpAny_bind (wpAny_seqItems hob hdb (wpAny_pure ?_))
   refine wpAny_bind ?_
   refine wpAny_bind (wpAny_seqItems ho rfl (wpAny_pure ?_))
   have hbig : ¬ ((!vs.isEmpty && Builtin.List.listTooLong (vs.size + ws.size)) = true) := by
    have : Builtin.List.listTooLong (vs.size + ws.size) = false := by
     unfold Builtin.List.listTooLong
     simp only [decide_eq_false_iff_not]
     have := sizeLine_eq
     omega
    rw [this]; simp
   rw [if_neg hbig]
   show wpAny _ _ (updateSeq a (· ++ ws) >>= fun _ => ret .none) _ _ s
   have hup : (s.heap.update a (Obj.mapSeq (· ++ ws))).PlainList a (vs ++ ws) := by
    refine ⟨if (vs ++ ws).size == vs.size then n0 else n0 + 1, ?_⟩
    rw [Heap.get?_update_self _ ho (by simp only [Obj.mapSeq]; rfl)]
    simp only [Obj.mapSeq]
   refine wpAny_bind (wpAny_updateSeq ho rfl (wpAny_pure ⟨.none, rfl, fun a e => (nomatch e), ?_⟩))
   refine r.own_set (tk := s.toks) fm e1 (Heap.SameBut.update ..) (Nat.le_refl _) hup ?_ ?_
   · simpa using e3.append hw
   · rw [firmL_append, (r.firm fm).2 n l hn, hd]; rfl
end
end
section
noncomputable def rel (sc scope : Scope) : Scope :=
 { scope with names := scope.names.map fun (n, k) => if (k == .free && sc.kind == .function && sc.names.lookup n == some .cell) then (n, .cell) else (n, k) }
theorem relabel_eq {sc scope : Scope} {env : Env} (h : env.scope = sc) : relabel scope env = rel sc scope := by
 subst h; rfl
noncomputable def closL (cells : List (Str × Addr)) : List (Str × NameKind) -> List (Str × Addr) -> List (Str × Addr)
 | [], acc => acc
 | (n, k) :: r, acc => if k == .free then (match cells.lookup n with | some a => closL cells r ((n, a) :: acc) | none => closL cells r acc) else closL cells r acc
theorem closFor_aux {env : Env} (f : Str × NameKind -> List (Str × Addr) -> Sem (ForInStep (List (Str × Addr))))
 (hf : ∀ n k acc, f (n, k) acc = if k == .free then (do let a ← cellOf env n; pure (.yield ((n, a) :: acc))) else pure (.yield acc)) :
 ∀ (l : List (Str × NameKind)) (acc : List (Str × Addr)), (∀ x ∈ l, x.2 = .free -> (env.cells.lookup x.1).isSome = true) -> forIn l acc f = pure (closL env.cells l acc)
 | [], acc, _ => by rw [List.forIn_nil]; rfl
 | (n, k) :: r, acc, h => by
  have ih := closFor_aux f hf r
  have hr : ∀ x ∈ r, x.2 = .free -> (env.cells.lookup x.1).isSome = true := fun x hx => h x (List.mem_cons_of_mem _ hx)
  rw [List.forIn_cons, hf]
  unfold closL
  by_cases hk : (k == NameKind.free) = true
  · rw [if_pos hk, if_pos hk]
    have := h (n, k) List.mem_cons_self (by simpa using hk)
    obtain ⟨a, ha⟩ := Option.isSome_iff_exists.mp this
    have ha' : env.cells.lookup n = some a := ha
    have hc : cellOf env n = pure a := by unfold cellOf; rw [ha']
    rw [hc, ha']
    exact ih _ hr
  · rw [if_neg hk, if_neg hk]
    exact ih _ hr
theorem closFor_eq {env : Env} {scope : Scope} (h : ∀ x ∈ scope.names, x.2 = .free -> (env.cells.lookup x.1).isSome = true) : closureFor scope env = pure (closL env.cells scope.names []) := by
 unfold closureFor
 dsimp only
 rw [closFor_aux (env := env) _ (fun n k acc => ?_) scope.names [] h]
 · rfl
 · cases hk : k == NameKind.free <;> simp only [hk, if_true, Bool.false_eq_true, if_false] <;> rfl
set_option tactic.hygienic true in
theorem closL_lookup {cells : List (Str × Addr)} : ∀ (l : List (Str × NameKind)) (acc : List (Str × Addr)) (x : Str), (x, NameKind.free) ∈ l -> (cells.lookup x).isSome = true -> (∀ a, acc.lookup x = some a -> cells.lookup x = some a) ->
 (closL cells l acc).lookup x = cells.lookup x
 | [], _, _, h, _, _ => by cases h
 | (n, k) :: r, acc, x, h, hs, ha => by
  have stay : ∀ (l : List (Str × NameKind)) (acc : List (Str × Addr)), acc.lookup x = cells.lookup x -> (closL cells l acc).lookup x = cells.lookup x := by
   intro l
   induction l with
   | nil => intro acc h; exact h
   | cons y r ih =>
    intro acc h
    obtain ⟨m, k⟩ := y
    unfold closL
    split
    · split
      · rename_i a he
        refine ih _ ?_
        by_cases hxm : x = m
        · subst hxm; simp [List.lookup, he]
        · have : (x == m) = false := by simpa using hxm
          simp [List.lookup, this, h]
      · exact ih _ h
    · exact ih _ h
  by_cases hx : x = n ∧ k = .free
  · obtain ⟨rfl, rfl⟩ := hx
    obtain ⟨a, he⟩ := Option.isSome_iff_exists.mp hs
    unfold closL
    simp only [beq_self_eq_true, if_true, he]
    rw [stay r _ (by simp [List.lookup, he]), he]
  · have hm : (x, NameKind.free) ∈ r := by
     rcases List.mem_cons.mp h with h | h
     · cases h; exact absurd ⟨rfl, rfl⟩ hx
     · exact h
    unfold closL
    split
    · split
      · rename_i a he
        refine closL_lookup r _ x hm hs fun b hb => ?_
        by_cases hxn : x = n
        · subst hxn; simp [List.lookup] at hb; subst hb; exact he
        · have : (x == n) = false := by simpa using hxn
          simp [List.lookup, this] at hb; exact ha b hb
      · exact closL_lookup r _ x hm hs ha
    · exact closL_lookup r _ x hm hs ha
theorem cellsFrom_app : ∀ (l : List (Str × NameKind)) (n : Nat) (acc : List (Str × Addr)), cellsFrom n l acc = cellsFrom n l [] ++ acc
 | [], _, _ => rfl
 | (x, k) :: r, n, acc => by
  unfold cellsFrom
  split
  · rw [cellsFrom_app r (n + 1) ((x, n) :: acc), cellsFrom_app r (n + 1) [(x, n)], List.append_assoc]; rfl
  · exact cellsFrom_app r n acc
set_option tactic.hygienic true in
theorem cellsFrom_mem : ∀ (l : List (Str × NameKind)) (n : Nat) (acc : List (Str × Addr)) (x : Str) (a : Addr), (x, a) ∈ cellsFrom n l acc -> (x, NameKind.cell) ∈ l ∨ (x, a) ∈ acc
 | [], _, _, _, _, h => .inr h
 | (y, k) :: r, n, acc, x, a, h => by
  unfold cellsFrom at h
  split at h
  · rename_i hk
    rcases cellsFrom_mem r _ _ x a h with h | h
    · exact .inl (List.mem_cons_of_mem _ h)
    · rcases List.mem_cons.mp h with h | h
      · cases h
        have : k = .cell := by simpa using hk
        subst this
        exact .inl List.mem_cons_self
      · exact .inr h
  · rcases cellsFrom_mem r _ _ x a h with h | h
    · exact .inl (List.mem_cons_of_mem _ h)
    · exact .inr h
set_option tactic.hygienic true in
theorem cellsFrom_some : ∀ (l : List (Str × NameKind)) (n : Nat) (acc : List (Str × Addr)) (x : Str), ((x, NameKind.cell) ∈ l ∨ (acc.lookup x).isSome = true) -> ((cellsFrom n l acc).lookup x).isSome = true
 | [], _, _, _, h => by
  rcases h with h | h
  · cases h
  · exact h
 | (y, k) :: r, n, acc, x, h => by
  unfold cellsFrom
  split
  · refine cellsFrom_some r _ _ x ?_
    by_cases hx : x = y
    · subst hx; right; simp [List.lookup]
    · have hb : (x == y) = false := by simpa using hx
      rcases h with h | h
      · rcases List.mem_cons.mp h with h | h
        · cases h; exact absurd rfl hx
        · exact .inl h
      · right; simp [List.lookup, hb, h]
  · rename_i hk
    refine cellsFrom_some r _ _ x ?_
    rcases h with h | h
    · rcases List.mem_cons.mp h with h | h
      · cases h; exact absurd rfl hk
      · exact .inl h
    · exact .inr h
theorem lookup_append' {α : Type} (x : Str) : ∀ (a b : List (Str × α)), (a ++ b).lookup x = match a.lookup x with | some v => some v | none => b.lookup x
 | [], b => rfl
 | (y, v) :: r, b => by
  by_cases hx : x = y
  · subst hx; simp [List.lookup]
  · have hb : (x == y) = false := by simpa using hx
    simp only [List.cons_append, List.lookup, hb]
    exact lookup_append' x r b
mutual
noncomputable def D.noh : D -> Bool
 | .h _ => false
 | .tup l => D.nohL l
 | .lst l => D.nohL l
 | .new l => D.nohL l
 | .bor l => D.nohL l
 | _ => true
noncomputable def D.nohL : List D -> Bool
 | [] => true
 | d :: r => d.noh && D.nohL r
end
mutual
theorem Holds.noh {O O' : Addr -> Prop} {μ μ' : List Addr} {h h' : Heap} (hO : ∀ a o, ¬ O a -> h.get? a = some o -> ¬ O' a) (hk : ∀ b o, h.get? b = some o -> h'.get? b = some o) : ∀ {d : D} {v : Value}, d.noh = true -> Holds O μ h d v -> Holds O' μ' h' d v
 | .none, _, _, e => e
 | .bool _, _, _, e => e
 | .int _, _, _, e => e
 | .str _, _, _, e => e
 | .tup _, _, f, ⟨a, vs, e, n, t, l⟩ => ⟨a, vs, e, ((by obtain ⟨_, e'⟩ := t; exact hO a _ n e')), t.keeps fun o => hk a o, HoldsL.noh hO hk f l⟩
 | .lst _, _, f, ⟨a, vs, e, n, t, l⟩ => ⟨a, vs, e, ((by obtain ⟨_, e', _⟩ := t; exact hO a _ n e')), t.at fun o => hk a o, HoldsL.noh hO hk f l⟩
 | .bor _, _, f, ⟨a, vs, e, t, l⟩ => ⟨a, vs, e, t.at fun o => hk a o, HoldsL.noh hO hk f l⟩
 | .new _, _, f, ⟨a, vs, e, n, t, l⟩ => ⟨a, vs, e, ((by obtain ⟨_, e'⟩ := t; exact hO a _ n e')), t.at fun o => hk a o, HoldsL.noh hO hk f l⟩
 | .val _, _, _, e => e
 | .rng _ _, _, _, ⟨a, e, n, t⟩ => ⟨a, e, ((by obtain ⟨_, _, _, e'⟩ := t; exact hO a _ n e')), t.keeps fun o => hk a o⟩
 | .dct _, _, _, ⟨a, o, e, n, t, p⟩ => ⟨a, o, e, hO a o n t, hk a o t, p⟩
 | .h _, _, f, _ => nomatch f
theorem HoldsL.noh {O O' : Addr -> Prop} {μ μ' : List Addr} {h h' : Heap} (hO : ∀ a o, ¬ O a -> h.get? a = some o -> ¬ O' a) (hk : ∀ b o, h.get? b = some o -> h'.get? b = some o) : ∀ {ds : List D} {vs : List Value}, D.nohL ds = true -> HoldsL O μ h ds vs -> HoldsL O' μ' h' ds vs
 | [], [], _, _ => trivial
 | _ :: _, _ :: _, f, ⟨e, r⟩ => ⟨Holds.noh hO hk (Bool.and_eq_true_iff.mp f).1 e, HoldsL.noh hO hk (Bool.and_eq_true_iff.mp f).2 r⟩
 | [], _ :: _, _, e => e
 | _ :: _, [], _, e => e
end
noncomputable def view (own : List (List D)) : Nat -> D -> D
 | n + 1, .h k => match own[k]? with | some l => .bor (l.map (view own n)) | none => .h k
 | _, d => d
theorem holdsL_map {O O' : Addr -> Prop} {μ μ' : List Addr} {h h' : Heap} {f : D -> D} (hf : ∀ d v, (f d).noh = true -> Holds O μ h d v -> Holds O' μ' h' (f d) v) : ∀ (l : List D) (vs : List Value), D.nohL (l.map f) = true -> HoldsL O μ h l vs -> HoldsL O' μ' h' (l.map f) vs
 | [], [], _, _ => trivial
 | d :: r, v :: vs, hn, ⟨x, y⟩ => ⟨hf d v (Bool.and_eq_true_iff.mp hn).1 x, holdsL_map hf r vs (Bool.and_eq_true_iff.mp hn).2 y⟩
 | [], _ :: _, _, e => e.elim
 | _ :: _, [], _, e => e.elim
theorem R.view {G : Gl} {c : Cx} {μ : List Addr} {σ : St} {s : Shared} (r : R G c μ σ s) {O' : Addr -> Prop} {μ' : List Addr} {h' : Heap} (hO : ∀ a o, ¬ c.all μ a -> s.heap.get? a = some o -> ¬ O' a) (hk : ∀ b o, s.heap.get? b = some o -> h'.get? b = some o) :
 ∀ (n : Nat) (d : D) (v : Value), (Mine.view σ.own n d).noh = true -> Holds (c.all μ) μ s.heap d v -> Holds O' μ' h' (Mine.view σ.own n d) v
 | 0, d, v, hn, x => Holds.noh hO hk hn x
 | n + 1, d, v, hn, x => by
  cases d with
  | h k =>
   obtain ⟨a, e1, rfl⟩ := x
   unfold Mine.view at hn ⊢
   cases hl : σ.own[k]? with
   | none => rw [hl] at hn; cases hn
   | some l =>
    rw [hl] at hn
    obtain ⟨a', vs, q1, q2, q3⟩ := r.own k l hl
    rw [e1] at q1; cases q1
    exact ⟨a, vs, rfl, q2.isList.at fun o => hk a o, holdsL_map (fun d v f y => r.view hO hk n d v f y) l _ hn q3⟩
  | _ => exact Holds.noh hO hk hn x
end
section
noncomputable def fvOf (σ : St) : List (Str × NameKind) -> List (Str × D)
 | [] => []
 | (x, k) :: r => if k == .free then (match σ.vars.lookup x with | some d => (x, view σ.own 3 d) :: fvOf σ r | none => fvOf σ r) else fvOf σ r
set_option tactic.hygienic true in
theorem fvOf_lookup {σ : St} : ∀ {l : List (Str × NameKind)} {x : Str} {d : D}, (fvOf σ l).lookup x = some d -> (x, NameKind.free) ∈ l ∧ ∃ d0, σ.vars.lookup x = some d0 ∧ d = view σ.own 3 d0
 | [], _, _, h => by cases h
 | (y, k) :: r, x, d, h => by
  unfold fvOf at h
  split at h
  · rename_i hk
    have hk' : k = .free := by simpa using hk
    subst hk'
    split at h
    · rename_i d0 he
      by_cases hx : x = y
      · subst hx
        simp [List.lookup] at h
        exact ⟨List.mem_cons_self, d0, he, h.symm⟩
      · have hb : (x == y) = false := by simpa using hx
        simp only [List.lookup, hb] at h
        obtain ⟨q1, q2⟩ := fvOf_lookup h
        exact ⟨List.mem_cons_of_mem _ q1, q2⟩
    · obtain ⟨q1, q2⟩ := fvOf_lookup h
      exact ⟨List.mem_cons_of_mem _ q1, q2⟩
  · obtain ⟨q1, q2⟩ := fvOf_lookup h
    exact ⟨List.mem_cons_of_mem _ q1, q2⟩
noncomputable def compOk (sc : Scope) (σ : St) (scope : Scope) : Bool :=
 scope.kind == .function && sc.kind == .function && scope.names.all fun (x, k) =>
  (k != .free || ((σ.vars.lookup x).isSome && (sc.names.lookup x == some .cell || sc.names.lookup x == some .free) && !(scope.names.any fun (y, k') => y == x && k' == .cell) && scope.names.lookup x == some .free)) && (k != .local || scope.names.lookup x == some .local)
structure Frm (Ω : Addr -> Prop) (env : Env) (mc : List Addr) (tv : List (Str × D)) (s : Shared) : Prop where
 loc : ∃ m, s.heap.Ns env.locals m ∧ ∀ x d, tv.lookup x = some d -> env.kindOf x = some .local -> ∃ v, m x = some v ∧ Holds Ω [] s.heap d v
 cell : ∀ x d, tv.lookup x = some d -> env.kindOf x = some .cell -> ∃ ca v, env.cells.lookup x = some ca ∧ s.heap.IsCell ca (some v) ∧ Holds Ω [] s.heap d v
 mc : ∀ a ∈ mc, ∃ x, s.heap.IsCell a x
theorem Chg.refl (wr : Addr -> Prop) (gp : Nat -> Prop) (s : Shared) : Chg wr gp s s := ⟨fun _ _ _ e => e, rfl, fun h => h, fun _ _ _ e => e, Nat.le_refl _⟩
theorem Chg.trans {wr : Addr -> Prop} {gp : Nat -> Prop} {a b c : Shared} (x : Chg wr gp a b) (y : Chg wr gp b c) : Chg wr gp a c :=
 ⟨fun d o h e => y.heap d o h (x.heap d o h e), y.os.trans x.os, fun h => y.bare (x.bare h), fun g z h e => y.gens g z h (x.gens g z h e), Nat.le_trans x.toks y.toks⟩
theorem Chg.of_kp {wr : Addr -> Prop} {gp : Nat -> Prop} {a b : Shared} (x : Kp a b) : Chg wr gp a b := ⟨fun d o _ e => x.heap d o e, x.os, x.bare, fun g z _ e => x.gens g z e, x.toks⟩
theorem Chg.wider {wr wr' : Addr -> Prop} {gp gp' : Nat -> Prop} {a b : Shared} (x : Chg wr gp a b) (h : ∀ b, wr b -> wr' b) (h' : ∀ b, gp b -> gp' b) : Chg wr' gp' a b := ⟨fun d o n e => x.heap d o (fun q => n (h _ q)) e, x.os, x.bare, fun g z n e => x.gens g z (fun q => n (h' _ q)) e, x.toks⟩
section
variable {M : Model} {A : Around} {Ω : Addr -> Prop} {env : Env} {mc : List Addr} {tv : List (Str × D)} {s : Shared}
theorem frm_loc {x : Str} {p : Pos} {d : D} {v : Value} (F : Frm Ω env mc tv s) (hk : env.scope.kind = .function) (hn : env.kindOf x = some .local) (hL : Ω env.locals) (hd : d.firm = true) (ht : ∀ x d, tv.lookup x = some d -> d.firm = true) (hv : Holds Ω [] s.heap d v) :
 wpAny M A (assign (.Name x p) env v) (fun _ s' => Frm Ω env mc ((x, d) :: tv) s' ∧ Chg (fun a => a = env.locals ∨ a ∈ mc) (fun _ => False) s s') (fun _ _ => False) s := by
 obtain ⟨m, hm, hl⟩ := F.loc
 refine wpAny_assign_Name (wpAny_storeName_local hn hm (fun h' hns hsb => ?_) (by show (env.scope.kind == .class || (env.scope.kind == .module && _)) = false; rw [hk]; rfl))
 have keep : ∀ {d : D} {v : Value}, d.firm = true -> Holds Ω [] s.heap d v -> Holds Ω [] h' d v := fun f y => y.firm (fun _ _ z _ => z) (fun b o hb e => (hsb.2 b (fun q => hb (q ▸ hL))).trans e) f
 refine ⟨⟨⟨_, hns, fun y e hy hky => ?_⟩, fun y e hy hky => ?_, fun b hb => ?_⟩, ⟨fun b o hb e => (hsb.2 b (fun q => hb (.inl q))).trans e, rfl, fun h => h, fun _ _ _ e => e, Nat.le_succ _⟩⟩
 · by_cases hyx : y = x
   · subst hyx
     simp [List.lookup] at hy
     subst hy
     exact ⟨v, by simp, keep hd hv⟩
   · have hb : (y == x) = false := by simpa using hyx
     simp only [List.lookup, hb] at hy
     obtain ⟨v', e1, e2⟩ := hl y e hy hky
     exact ⟨v', by simp [hyx, e1], keep (ht y e hy) e2⟩
 · by_cases hyx : y = x
   · subst hyx; rw [hn] at hky; cases hky
   · have hb : (y == x) = false := by simpa using hyx
     simp only [List.lookup, hb] at hy
     obtain ⟨ca, v', e1, e2, e3⟩ := F.cell y e hy hky
     exact ⟨ca, v', e1, e2.sameBut hsb (cell_ne_ns e2 hm), keep (ht y e hy) e3⟩
 · obtain ⟨y, hy⟩ := F.mc b hb
   exact ⟨y, hy.sameBut hsb (cell_ne_ns hy hm)⟩
theorem frm_cell {x : Str} {p : Pos} {d : D} {v : Value} {ca : Addr} (F : Frm Ω env mc [] s) (hk : env.scope.kind = .function) (hn : env.kindOf x = some .cell) (hca : env.cells.lookup x = some ca) (hmc : ca ∈ mc) (hL : Ω ca) (hd : d.firm = true) (hv : Holds Ω [] s.heap d v) :
 wpAny M A (assign (.Name x p) env v) (fun _ s' => Frm Ω env mc [(x, d)] s' ∧ Chg (fun a => a = env.locals ∨ a ∈ mc) (fun _ => False) s s') (fun _ _ => False) s := by
 obtain ⟨m, hm, hl⟩ := F.loc
 obtain ⟨v0, hv0⟩ := F.mc ca hmc
 refine wpAny_assign_Name (wpAny_storeName_cell hk hn hca hv0 fun h' hcell hsb => ?_)
 have keep : ∀ {d : D} {v : Value}, d.firm = true -> Holds Ω [] s.heap d v -> Holds Ω [] h' d v := fun f y => y.firm (fun _ _ z _ => z) (fun b o hb e => (hsb.2 b (fun q => hb (q ▸ hL))).trans e) f
 refine ⟨⟨⟨m, hm.sameBut hsb (Ne.symm (cell_ne_ns hv0 hm)), fun y e hy hky => ?_⟩, fun y e hy hky => ?_, fun b hb => ?_⟩, ⟨fun b o hb e => (hsb.2 b (fun q => hb (.inr (q ▸ hmc)))).trans e, rfl, fun h => h, fun _ _ _ e => e, Nat.le_refl _⟩⟩
 · by_cases hyx : y = x
   · subst hyx; rw [hn] at hky; cases hky
   · have hb : (y == x) = false := by simpa using hyx
     simp only [List.lookup, hb] at hy
     cases hy
 · by_cases hyx : y = x
   · subst hyx
     simp [List.lookup] at hy
     subst hy
     exact ⟨ca, v, hca, hcell, keep hd hv⟩
   · have hb : (y == x) = false := by simpa using hyx
     simp only [List.lookup, hb] at hy
     cases hy
 · obtain ⟨y, hy⟩ := F.mc b hb
   by_cases hbc : b = ca
   · subst hbc; exact ⟨_, hcell⟩
   · exact ⟨y, hy.sameBut hsb hbc⟩
end
inductive TV (sc' : Scope) (scope : Scope) : Expr -> D -> List (Str × D) -> Prop
 | loc (x : Str) (p : Pos) (d : D) (h : sc'.names.lookup x = some .local) : TV sc' scope (.Name x p) d [(x, d)]
 | cell (x : Str) (p : Pos) (d : D) (h : sc'.names.lookup x = some .cell) (h' : (scope.names.any fun y => y == (x, NameKind.cell)) = true) : TV sc' scope (.Name x p) d [(x, d)]
 | two (x y : Str) (p q t : Pos) (n : Nat) (d e : D) (h1 : sc'.names.lookup x = some .local) (h2 : sc'.names.lookup y = some .local) : TV sc' scope (.Tuple [.Name x p, .Name y q] n t) (.tup [d, e]) [(y, e), (x, d)]
theorem tv_wp {prog : Program} {w : World} {A : Around} {Ω : Addr -> Prop} {env : Env} {mc : List Addr} {s : Shared} {sc' scope : Scope} {tgt : Expr} {d : D} {tv : List (Str × D)} {v : Value} (T : TV sc' scope tgt d tv) (F : Frm Ω env mc [] s) (hA : A.handled = none) (hs : env.scope = sc') (hk : sc'.kind = .function)
 (hL : Ω env.locals) (hmc : ∀ a ∈ mc, Ω a) (hcell : ∀ x, (x, NameKind.cell) ∈ scope.names -> ∃ ca, env.cells.lookup x = some ca ∧ ca ∈ mc) (hd : d.firm = true) (hv : Holds Ω [] s.heap d v) :
 wpAny (model prog w) A (assign tgt env v) (fun _ s' => Frm Ω env mc tv s' ∧ Chg (fun a => a = env.locals ∨ a ∈ mc) (fun _ => False) s s') (fun _ _ => False) s := by
 have hk' : env.scope.kind = .function := by rw [hs]; exact hk
 cases T with
 | loc x p d h => exact frm_loc F hk' (kindOf_of hs h) hL hd (fun _ _ e => by cases e) hv
 | cell x p d h h' =>
  obtain ⟨y, hy, he⟩ := List.any_eq_true.mp h'
  have : y = (x, NameKind.cell) := by simpa using he
  subst this
  obtain ⟨ca, q1, q2⟩ := hcell x hy
  exact frm_cell F hk' (kindOf_of hs h) q1 q2 (hmc ca q2) hd hv
 | two x y p q t n d e h1 h2 =>
  obtain ⟨a, vs, rfl, hO, ⟨n', ht⟩, hl⟩ := hv
  have hf : d.firm = true ∧ e.firm = true := by
   have : (d.firm && (e.firm && true)) = true := hd
   simp only [Bool.and_true, Bool.and_eq_true] at this
   exact this
  have hlen := hl.length
  have hlen2 : 2 = vs.size := by simpa using hlen
  refine assign_Tuple_tuple (env := env) (elts := [.Name x p, .Name y q]) hA ⟨_, ht, rfl, n', rfl⟩ hlen2 rfl fun h' he => ?_
  have kp : Kp s { s with heap := h' } := ⟨⟨fun b o e => he b o (fun q => Nat.lt_irrefl _ (q ▸ Heap.lt_size e)) e, rfl, fun z => z, fun _ _ e => e⟩, Nat.le_refl _⟩
  obtain ⟨v1, v2, e1, x1, x2⟩ := hl.two
  rw [e1]
  have F1 : Frm Ω env mc [] { s with heap := h' } := ⟨(by obtain ⟨m, hm, _⟩ := F.loc; exact ⟨m, hm.keeps kp.heap, fun _ _ e => by cases e⟩), fun _ _ e => (by cases e), fun b hb => (by obtain ⟨y, hy⟩ := F.mc b hb; exact ⟨y, hy.keeps kp.heap⟩)⟩
  refine assignInOrder_cons (wpAny_mono (frm_loc F1 hk' (kindOf_of hs h1) hL hf.1 (fun _ _ e => by cases e) (x1.keep kp.heap)) (fun _ s1 hq => ?_) fun _ _ f => f)
  obtain ⟨F2, c2⟩ := hq
  have x2' : Holds Ω [] s1.heap e v2 := (x2.keep kp.heap).firm (fun _ _ z _ => z) (fun b o hb e => c2.heap b o (fun q => hb (by rcases q with q | q; rw [q]; exact hL; exact hmc b q)) e) hf.2
  refine assignInOrder_cons (wpAny_mono (frm_loc F2 hk' (kindOf_of hs h2) hL hf.2 (fun y e he => ?_) x2') (fun _ s2 ⟨F3, c3⟩ => ?_) fun _ _ f => f)
  · by_cases hyx : y = x
    · subst hyx; simp [List.lookup] at he; subst he; exact hf.1
    · have hb : (y == x) = false := by simpa using hyx
      simp only [List.lookup, hb] at he
      cases he
  · exact assignInOrder_nil ⟨F3, (Chg.of_kp kp).trans (c2.trans c3)⟩
theorem wp_compEnv {M : Model} {A : Around} {E : Value -> Shared -> Prop} {scope : Scope} {env : Env} {cl : List (Str × Addr)} {Q : Env -> Shared -> Prop} {s : Shared}
 (hQ : Q { scope := scope, locals := s.heap.objs.size, globals := env.globals, cells := cellsFrom (s.heap.objs.size + 1) scope.names cl, qual := env.qual, func := none, code := env.code, frame := env.frame, builtins := env.builtins }
  { s with heap := pushCells (s.heap.push { cls := .type "dict", data := .dict #[] }) scope.names }) : wpAny M A (newFunctionEnv scope env.globals cl [] env.qual none .none (some env)) Q E s := by
 simp only [newFunctionEnv, Option.isSome_some, if_true]
 refine wpAny_bind (wpAny_alloc ?_)
 refine wpAny_bind (wpAny_layCells _ (fun name kind cells => by cases hkc : kind == NameKind.cell <;> simp [hkc]) _ _ _ _ ?_)
 rw [show ({ s with heap := s.heap.push { cls := .type "dict", data := .dict #[] } } : Shared).heap.objs.size = s.heap.objs.size + 1 from Heap.size_push ..]
 rw [List.forIn_nil]
 exact wpAny_bind (wpAny_pure (wpAny_pure hQ))
theorem compLoop_own {prog : Program} {w : World} {A : Around} {R : Result -> Shared -> Prop} {s : Shared} {elt target iter : Expr} {ifs : List Expr} {scope : Scope} {pos : Pos} {it acc : Value} {env : Env} (I : Nat -> Shared -> Prop)
 (turn : ∀ n s, I n s -> wpAny (model prog w) A (pyNext it) (fun r s₁ => match r with
  | none => R (.ok .next) s₁
  | some v => wpAny (model prog w) A (letOwnedTupleGo target it v) (fun _ s₁ => wpAny (model prog w) A (assign target env v) (fun _ s₂ =>
   wpAny (model prog w) A (forIn ifs true fun c r => if r = true then do let ok ← isTrue c env (eval c env); pure (ForInStep.yield ok) else pure (ForInStep.yield r)) (fun ok s₃ =>
    if ok = true then wpAny (model prog w) A (eval elt env) (fun x s₄ =>
     wpAny (model prog w) A (call (.builtin "list.append") [acc, x]) (fun _ s₅ => ∃ m, m < n ∧ I m s₅) (fun _ _ => False) s₄) (fun _ _ => False) s₃
    else ∃ m, m < n ∧ I m s₃) (fun _ _ => False) s₂) (fun _ _ => False) s₁) (fun _ _ => False) s₁) (fun _ _ => False) s)
 (n : Nat) (h : I n s) :
 codeAny (model prog w) A (.compLoop (.ListComp elt [⟨target, iter, ifs, 0⟩] scope pos) 0 it acc env) R s := by
 refine codeAny_loop rfl I (fun n s hI => ?_) n h
 show wpAny _ A ((compTurn (.ListComp elt [⟨target, iter, ifs, 0⟩] scope pos) 0 it acc env).onRaise (fun x => do noteFrame x env; theTreesLotGoes x)) _ _ s
 refine wpAny_noted ?_
 rw [compTurn_list]
 refine wpAny_bind (wpAny_standAt (wpAny_bind (wpAny_mono (turn n s hI) (fun r s₁ h₁ => ?_) fun _ _ h' => h'.elim)))
 cases r with
 | none => exact wpAny_pure h₁
 | some v =>
  refine wpAny_bind (wpAny_mono h₁ (fun _ s₁ h₁ => ?_) fun _ _ h' => h'.elim)
  refine wpAny_bind (wpAny_mono h₁ (fun _ s₂ h₂ => wpAny_bind (wpAny_mono h₂ (fun ok s₃ h₃ => ?_) fun _ _ h' => h'.elim)) fun _ _ h' => h'.elim)
  cases ok with
  | false => exact wpAny_pure ⟨rfl, h₃⟩
  | true =>
   exact wpAny_bind (wpAny_bind (wpAny_mono h₃ (fun x s₄ h₄ => wpAny_bind (wpAny_mono h₄ (fun _ s₅ h₅ => wpAny_pure (wpAny_pure ⟨rfl, h₅⟩)) fun _ _ h' => h'.elim)) fun _ _ h' => h'.elim))
end
section
noncomputable def TI (G : Gl) (sc : Scope) (k : Nat) (σ : St) (ifs : List Expr) (b : Bool) : Prop := (ifs = [] ∧ b = true) ∨ ∃ t, ifs = [t] ∧ Tr G sc k σ t b
noncomputable def ElI (G : Gl) (sc : Scope) (k : Nat) (σ : St) (e : Expr) (d : D) (fr : Bool) : Prop := (fr = false -> Ev G sc k σ e d) ∧ (fr = true -> ∃ l, d = .new l ∧ EvN G sc k σ e l)
structure CompDone (c : Cx) (μ : List Addr) (s : Shared) (l : List D) (fr : Bool) (C : Addr) (acc : Value) (s' : Shared) : Prop where
 kp : Kp s s'
 ns : ∃ m, s'.heap.Ns C m
 new : s.heap.get? C = none
 out : ∃ Z ys, acc = .ref Z ∧ Z ≠ C ∧ s.heap.get? Z = none ∧ s'.heap.PlainList Z ys ∧ HoldsL (fun b => c.all μ b ∨ b = Z ∨ b = C) [] s'.heap l ys.toList ∧
  (fr = true -> ys.toList.Nodup ∧ ∀ y ∈ ys.toList, ∃ a, y = .ref a ∧ s.heap.get? a = none)
noncomputable def cin (c : Cx) (μ : List Addr) (sc' : Scope) (L Z : Addr) (cells : List (Str × Addr)) (mc : List Addr) (wr : Addr -> Prop) (s' : Shared) : Cx :=
 { env := { scope := sc', locals := L, globals := c.env.globals, cells := cells, qual := c.env.qual, func := none, code := c.env.code, frame := c.env.frame, builtins := c.env.builtins }
   O := fun a => c.all μ a ∨ a = Z ∨ wr a
   base := fun a o => c.base a o ∨ ((c.mut μ a ∨ a = Z ∨ wr a) ∧ s'.heap.get? a = some o)
   gb := c.gb, os := c.os, mutc := mc, fm := false }
theorem PlainList.lt {h : Heap} {a : Addr} {vs : Array Value} (x : h.PlainList a vs) : ∃ o, h.get? a = some o := (by obtain ⟨_, e⟩ := x; exact ⟨_, e⟩)
section
variable {G : Gl} {sc : Scope} {k : Nat} {σ : St}
theorem R.inner {c : Cx} {μ : List Addr} {s s' : Shared} {sc' scope : Scope} {L Z : Addr} {cells : List (Str × Addr)} {mc : List Addr} {wr : Addr -> Prop} {tv : List (Str × D)} (r : R G c μ σ s) (hc : c.env.scope = sc)
 (ch : Chg wr (fun _ => False) s s') (hb : AllBare s'.gens) (ok : compOk sc σ scope = true) (hnoh : ∀ x d, (fvOf σ scope.names).lookup x = some d -> d.noh = true)
 (hwn : ∀ b, wr b -> s.heap.get? b = none) (hwe : ∀ b, wr b -> ∃ o, s'.heap.get? b = some o) (hD : s.heap.get? Z = none) (hDe : ∃ o, s'.heap.get? Z = some o) (hL : s.heap.get? L = none) (hLD : L ≠ Z) (hLw : ¬ wr L)
 (hmc : ∀ a ∈ mc, s.heap.get? a = none ∧ a ≠ Z ∧ ¬ wr a) (hsc : sc'.kind = .function)
 (hfree : ∀ x, (x, NameKind.free) ∈ scope.names -> ∃ ca, c.env.cells.lookup x = some ca ∧ cells.lookup x = some ca)
 (hnl : ∀ x, (x, NameKind.free) ∈ scope.names -> sc'.names.lookup x ≠ some .local)
 (F : Frm (fun a => (cin c μ sc' L Z cells mc wr s').all [] a) (cin c μ sc' L Z cells mc wr s').env mc tv s') (htv : ∀ x d, tv.lookup x = some d -> sc'.names.lookup x ≠ some .free) :
 R G (cin c μ sc' L Z cells mc wr s') [] ⟨tv ++ fvOf σ scope.names, []⟩ s' := by
 have hk : ∀ b o, s.heap.get? b = some o -> s'.heap.get? b = some o := fun b o e => ch.heap b o (fun q => by rw [hwn b q] at e; cases e) e
 have hO : ∀ a o, ¬ c.all μ a -> s.heap.get? a = some o -> ¬ (cin c μ sc' L Z cells mc wr s').all [] a := fun a o n e q => by
  rcases q with (q | q | q) | (q | q | q)
  · exact n q
  · rw [q, hD] at e; cases e
  · rw [hwn a q] at e; cases e
  · cases q
  · have q' : a = L := q
    rw [q', hL] at e; cases e
  · rw [(hmc a q).1] at e; cases e
 have hfv : ∀ x d, (fvOf σ scope.names).lookup x = some d -> ∃ ca v, cells.lookup x = some ca ∧ s'.heap.IsCell ca (some v) ∧ Holds ((cin c μ sc' L Z cells mc wr s').all []) [] s'.heap d v := fun x d e => by
  obtain ⟨q1, d0, q2, q3⟩ := fvOf_lookup e
  obtain ⟨ca, q4, q5⟩ := hfree x q1
  have hok := List.all_eq_true.mp (Bool.and_eq_true_iff.mp ok).2 _ q1
  simp only [Bool.and_eq_true, Bool.or_eq_true, bne_self_eq_false, Bool.false_eq_true, false_or] at hok
  obtain ⟨ca', v, e1, e2, e3⟩ := r.cell x d0 q2 (by
   rcases hok.1.1.1.2 with h | h
   · exact .inl (kindOf_of hc (by simpa using h))
   · exact .inr (kindOf_of hc (by simpa using h)))
  rw [q4] at e1; cases e1
  refine ⟨ca, v, q5, e2.keeps hk, ?_⟩
  have hn := hnoh x d e
  subst q3
  exact r.view hO hk 3 d0 v hn e3
 refine ⟨ch.os.trans r.os, Nat.lt_of_lt_of_le r.tok ch.toks, hb, fun g x h => ch.gens g x (fun f => f) (r.gens g x h), fun a o h => ?_, fun h hh => r.top h fun a o e => hh a o (.inl e), fun a h => ?_, rfl, List.nodup_nil, fun a h => ?_, ?_, ?_, (fun n items e => by cases e), hsc, r.glob, r.blt, (fun h => nomatch h), F.mc, (fun h => nomatch h), (fun h => nomatch h), (fun h => nomatch h)⟩
 · rcases h with h | h
   · exact hk a o (r.base a o h)
   · exact h.2
 · rcases h with h | h | h
   · rcases h with h | h
     · obtain ⟨o, ho⟩ := r.old a h
       exact ⟨o, .inl ho⟩
     · obtain ⟨o, ho⟩ := r.mutAt h
       exact ⟨o, .inr ⟨.inl h, hk a o ho⟩⟩
   · obtain ⟨o, ho⟩ := hDe
     exact ⟨o, .inr ⟨.inr (.inl h), by rw [h]; exact ho⟩⟩
   · obtain ⟨o, ho⟩ := hwe a h
     exact ⟨o, .inr ⟨.inr (.inr h), ho⟩⟩
 · have hn : s.heap.get? a = none ∧ a ≠ Z ∧ ¬ wr a := by
    rcases h with h | h | h
    · cases h
    · have h' : a = L := h
      rw [h']; exact ⟨hL, hLD, hLw⟩
    · exact hmc a h
   refine ⟨fun q => ?_, fun o q => ?_⟩
   · rcases q with q | q | q
     · obtain ⟨o, ho⟩ := r.allAt q
       rw [hn.1] at ho; cases ho
     · exact hn.2.1 q
     · exact hn.2.2 q
   · rcases q with q | ⟨q | q | q, _⟩
     · have := r.base a o q
       rw [hn.1] at this; cases this
     · obtain ⟨o, ho⟩ := r.mutAt q
       rw [hn.1] at ho; cases ho
     · exact hn.2.1 q
     · exact hn.2.2 q
 · obtain ⟨m, hm, hl⟩ := F.loc
   refine ⟨m, hm, fun x d e hk => ?_⟩
   have e' : (tv ++ fvOf σ scope.names).lookup x = some d := e
   rw [lookup_append'] at e'
   cases ht : tv.lookup x with
   | some d' => rw [ht] at e'; cases e'; exact hl x d ht hk
   | none =>
    rw [ht] at e'
    exact absurd hk (hnl x (fvOf_lookup e').1)
 · intro x d e hk
   have e' : (tv ++ fvOf σ scope.names).lookup x = some d := e
   rw [lookup_append'] at e'
   cases ht : tv.lookup x with
   | some d' =>
    rw [ht] at e'; cases e'
    rcases hk with hk | hk
    · exact F.cell x d ht hk
    · exact absurd hk (htv x d ht)
   | none =>
    rw [ht] at e'
    exact hfv x d e'
end
end
section
section
variable {G : Gl} {sc : Scope} {k : Nat} {σ : St}
set_option tactic.hygienic true in
theorem rel_map {sc : Scope} : ∀ (l : List (Str × NameKind)) (x : Str),
 (l.map fun (n, k) => if (k == NameKind.free && sc.kind == .function && sc.names.lookup n == some .cell) then (n, NameKind.cell) else (n, k)).lookup x =
  (l.lookup x).map fun k => if (k == NameKind.free && sc.kind == .function && sc.names.lookup x == some .cell) then NameKind.cell else k
 | [], _ => rfl
 | (n, k) :: r, x => by
  by_cases hx : x = n
  · subst hx
    show List.lookup x ((if _ then _ else _) :: _) = _
    split <;> rename_i h <;> simp only [List.lookup, beq_self_eq_true, Option.map_some, h, if_true, if_false] <;> rfl
  · have hb : (x == n) = false := by simpa using hx
    show List.lookup x ((if _ then _ else _) :: _) = _
    split <;> simp only [List.lookup, hb] <;> exact rel_map r x
theorem TV.nf {sc' scope : Scope} {tgt : Expr} {d : D} {tv : List (Str × D)} (T : TV sc' scope tgt d tv) : ∀ x e, tv.lookup x = some e -> sc'.names.lookup x ≠ some .free := by
 have one : ∀ (x y : Str) (d e : D), List.lookup y [(x, d)] = some e -> y = x := fun x y d e h => by
  by_cases hx : y = x
  · exact hx
  · have hb : (y == x) = false := by simpa using hx
    simp only [List.lookup, hb] at h
    cases h
 cases T with
 | loc x p d h => intro y e he; rw [one x y d e he, h]; simp
 | cell x p d h h' => intro y e he; rw [one x y d e he, h]; simp
 | two x y p q t n d e h1 h2 =>
  intro z g he
  by_cases hz : z = y
  · rw [hz, h2]; simp
  · have hb : (z == y) = false := by simpa using hz
    simp only [List.lookup, hb] at he
    have := one x z d g (by simpa [List.lookup] using he)
    rw [this, h1]; simp
theorem Frm.later {Ω P : Addr -> Prop} {env : Env} {mc : List Addr} {tv : List (Str × D)} {s s' : Shared} {gp : Nat -> Prop} (F : Frm Ω env mc tv s) (ch : Chg P gp s s') (hL : ¬ P env.locals) (hmc : ∀ a ∈ mc, ¬ P a) : Frm Ω env mc [] s' := by
 refine ⟨?_, (fun _ _ e => by cases e), fun a ha => ?_⟩
 · obtain ⟨m, hm, _⟩ := F.loc
   exact ⟨m, hm.at' fun o e => ch.heap _ o hL e, fun _ _ e => by cases e⟩
 · obtain ⟨y, o, ho, hd⟩ := F.mc a ha
   exact ⟨y, o, ch.heap a o (hmc a ha) ho, hd⟩
structure Turn (c : Cx) (μ : List Addr) (Ω N : Addr -> Prop) (gp : Nat -> Prop) (env : Env) (mc : List Addr) (wr : Addr -> Prop) (Z : Addr) (s : Shared) (l : List D) (fr : Bool) (ys : Array Value) (s' : Shared) : Prop where
 ch : Chg N gp s s'
 bare : AllBare s'.gens
 frm : Frm Ω env mc [] s'
 acc : s'.heap.PlainList Z ys
 holds : HoldsL Ω [] s'.heap l ys.toList
 fresh : fr = true -> ys.toList.Nodup ∧ ∀ y ∈ ys.toList, ∃ a, y = .ref a ∧ s.heap.get? a = none ∧ ¬ Ω a ∧ ∃ o, s'.heap.get? a = some o
 wre : ∀ b, wr b -> ∃ o, s'.heap.get? b = some o
theorem comp_core {α : Type} {c : Cx} {μ : List Addr} {A : Around} {s : Shared} {E : Value -> Shared -> Prop} {elt tgt iter : Expr} {ifs : List Expr} {scope : Scope} {pos : Pos} {use : Option (Value -> Sem Unit)} {Q : Value -> Shared -> Prop} {ow : Bool}
 (xs : List α) (itm : α -> D) (tv : α -> List (Str × D)) (p : α -> Bool) (f : α -> D) (fr : Bool)
 (hc : c.env.scope = sc) (hA : Aok k A) (r : R G c μ σ s) (hit : EvIt G sc k σ iter (xs.map itm) ow true) (how : ow = true ∨ ∀ it v, letOwnedTupleGo tgt it v = pure ())
 (ok : compOk sc σ scope = true) (hnoh : ∀ x d, (fvOf σ scope.names).lookup x = some d -> d.noh = true)
 (hds : ∀ x ∈ xs, (itm x).firm = true) (hlen : xs.length ≤ 16777216) (ht : ∀ x ∈ xs, TV (rel sc scope) scope tgt (itm x) (tv x))
 (htest : ∀ x ∈ xs, TI G (rel sc scope) k ⟨tv x ++ fvOf σ scope.names, []⟩ ifs (p x))
 (helt : ∀ x ∈ xs, p x = true -> (f x).clean = true ∧ ElI G (rel sc scope) k ⟨tv x ++ fvOf σ scope.names, []⟩ elt (f x) fr)
 (hs : ∀ env x, foldedSetIterable iter env x = pure x)
 (hfin : ∀ C acc s', CompDone c μ s ((xs.filter p).map f) fr C acc s' -> compPost (model G.prog G.w) A E use Q acc C (.ok .next) s') :
 wpAny (model G.prog G.w) A (comprehension (.ListComp elt [⟨tgt, iter, ifs, 0⟩] scope pos) scope c.env (firstIterPos [⟨tgt, iter, ifs, 0⟩] pos) (newList []) false (eval iter c.env) use) Q E s := by
 have okk := ok
 simp only [compOk, Bool.and_eq_true, beq_iff_eq] at okk
 obtain ⟨⟨hkf, hkf'⟩, hall⟩ := okk
 have hfr : ∀ x, (x, NameKind.free) ∈ scope.names -> (∃ d, σ.vars.lookup x = some d) ∧ (sc.names.lookup x = some .cell ∨ sc.names.lookup x = some .free) ∧ (x, NameKind.cell) ∉ scope.names ∧ scope.names.lookup x = some .free := fun x hx => by
  have h1 := List.all_eq_true.mp hall _ hx
  simp only [Bool.and_eq_true, Bool.or_eq_true, bne_self_eq_false, Bool.false_eq_true, false_or] at h1
  refine ⟨Option.isSome_iff_exists.mp h1.1.1.1.1, ?_, fun hm => ?_, by simpa using h1.1.2⟩
  · rcases h1.1.1.1.2 with h | h
    · exact .inl (by simpa using h)
    · exact .inr (by simpa using h)
  · have h2 := h1.1.1.2
    have : (scope.names.any fun y => y.1 == x && y.2 == NameKind.cell) = true := List.any_eq_true.mpr ⟨_, hm, by simp⟩
    rw [this] at h2; cases h2
 have hcellsome : ∀ x, (x, NameKind.free) ∈ scope.names -> ∃ ca, c.env.cells.lookup x = some ca := fun x hx => by
  obtain ⟨⟨d, hd⟩, hk, _⟩ := hfr x hx
  obtain ⟨ca, v, e1, _⟩ := r.cell x d hd (hk.imp (kindOf_of hc) (kindOf_of hc))
  exact ⟨ca, e1⟩
 have hclos := closFor_eq (env := c.env) (scope := scope) fun x hx hk => by
  obtain ⟨n, kk⟩ := x
  have : kk = .free := hk
  subst this
  obtain ⟨ca, e⟩ := hcellsome n hx
  show (c.env.cells.lookup n).isSome = true
  rw [e]; rfl
 have hnames : ∀ x ∈ scope.names, x.2 = .local -> scope.names.lookup x.1 = some .local := fun x hx hk => by
  obtain ⟨n, kk⟩ := x
  have : kk = .local := hk
  subst this
  have h1 := List.all_eq_true.mp hall _ hx
  simp only [Bool.and_eq_true, Bool.or_eq_true, bne_self_eq_false, Bool.false_eq_true, false_or] at h1
  simpa using h1.2
 refine wpAny_comprehension_free (g := ⟨tgt, iter, ifs, 0⟩) (gs := []) rfl (hs c.env) hclos hkf hnames ?_
 refine wpAny_mono (hit c μ A s hc hA r) (fun xv s1 h1 => wpAny_mono h1 (fun it s2 h2 => ?_) fun _ _ f => f.elim) fun _ _ f => f.elim
 obtain ⟨k2, wr, gp, hwf, hwe, hgf, hge, hW⟩ := h2
 obtain ⟨W0, S0⟩ := hW (fun a => ∃ o, s2.heap.get? a = some o) fun b o e _ => ⟨o, e⟩
 refine wpAny_newObj_type ?_ (sizeOk_list (by simp))
 refine wp_compEnv ?_
 rw [relabel_eq hc]
 generalize hH3 : s2.heap.push { cls := .type "list", dict := none, data := .seq ([] : List Value).toArray } = H3
 generalize hZ : s2.heap.objs.size = Z
 have hL' : H3.objs.size = Z + 1 := by rw [← hH3, Heap.size_push, hZ]
 show codeAny _ A (.compStart _ 0 it (.ref Z) { scope := rel sc scope, locals := H3.objs.size, globals := c.env.globals, cells := cellsFrom (H3.objs.size + 1) scope.names (closL c.env.cells scope.names []), qual := c.env.qual, func := none, code := c.env.code, frame := c.env.frame, builtins := c.env.builtins })
  (compPost _ A E use Q (.ref Z) H3.objs.size) { s2 with heap := pushCells (H3.push { cls := .type "dict", data := .dict #[] }) scope.names }
 generalize hL : H3.objs.size = L at hL'
 have cok := cellsFrom_ok scope.names (H3.push { cls := .type "dict", data := .dict #[] }) (L + 1) [] ⟨fun _ _ hm => (nomatch hm), List.Pairwise.nil⟩ (by rw [Heap.size_push, hL]; exact Nat.le_refl _)
 rw [Heap.size_push, hL] at cok
 rw [cellsFrom_app]
 generalize hown : cellsFrom (L + 1) scope.names [] = own at cok
 generalize hH4 : pushCells (H3.push { cls := .type "dict", data := .dict #[] }) scope.names = H4 at cok
 generalize hmc : own.map (·.2) = mc
 generalize hcl : closL c.env.cells scope.names [] = cl
 generalize henv : ({ scope := rel sc scope, locals := L, globals := c.env.globals, cells := own ++ cl, qual := c.env.qual, func := none, code := c.env.code, frame := c.env.frame, builtins := c.env.builtins } : Env) = env'
 have old4 : ∀ b o, s2.heap.get? b = some o -> H4.get? b = some o := fun b o e => by
  rw [← hH4]; exact pushCells_keeps _ _ b o (Heap.get?_push_of_some _ (by rw [← hH3]; exact Heap.get?_push_of_some _ e))
 have ns4 : H4.Ns L (fun _ => none) := by
  rw [← hH4, ← hL]; exact (Heap.Ns.new H3 (.type "dict")).keeps (pushCells_keeps _ _)
 have acc4 : H4.PlainList Z #[] := ⟨_, by rw [← hH4]; exact pushCells_keeps _ _ _ _ (Heap.get?_push_of_some _ (by rw [← hH3, ← hZ]; exact Heap.get?_push_size _ rfl))⟩
 have nos2 : ∀ a, Z ≤ a -> s2.heap.get? a = none := fun a ha => by
  cases e : s2.heap.get? a with
  | none => rfl
  | some o' => exact absurd (Heap.lt_size e) (by rw [hZ]; exact Nat.not_lt.mpr ha)
 have mcge : ∀ a ∈ mc, L + 1 ≤ a ∧ H4.IsCell a none := fun a ha => by
  rw [← hmc] at ha
  obtain ⟨y, hy, rfl⟩ := List.mem_map.mp ha
  obtain ⟨q1, q2⟩ := cok.empty y.1 y.2 hy
  exact ⟨q2, q1⟩
 have hwr : ∀ a, wr a -> a < Z := fun a ha => by
  obtain ⟨o, ho⟩ := hwe a ha
  rw [← hZ]; exact Heap.lt_size ho
 have hfree' : ∀ x, (x, NameKind.free) ∈ scope.names -> ∃ ca, c.env.cells.lookup x = some ca ∧ (own ++ cl).lookup x = some ca := fun x hx => by
  obtain ⟨ca, e⟩ := hcellsome x hx
  refine ⟨ca, e, ?_⟩
  rw [lookup_append']
  have h1 : own.lookup x = none := by
   cases hq : own.lookup x with
   | none => rfl
   | some a =>
    have := cellsFrom_mem scope.names (L + 1) [] x a (by rw [hown]; exact mem_of_lookup hq)
    rcases this with h | h
    · exact absurd h (hfr x hx).2.2.1
    · cases h
  rw [h1, ← hcl]
  show (closL c.env.cells scope.names []).lookup x = _
  rw [closL_lookup _ _ x hx (by rw [e]; rfl) (fun a h => by cases h), e]
 have hcellown : ∀ x, (x, NameKind.cell) ∈ scope.names -> ∃ ca, env'.cells.lookup x = some ca ∧ ca ∈ mc := fun x hx => by
  have := cellsFrom_some scope.names (L + 1) [] x (.inl hx)
  rw [hown] at this
  obtain ⟨ca, e⟩ := Option.isSome_iff_exists.mp this
  refine ⟨ca, by rw [← henv]; show (own ++ cl).lookup x = _; rw [lookup_append', e], ?_⟩
  rw [← hmc]
  exact List.mem_map.mpr ⟨_, mem_of_lookup e, rfl⟩
 have hnl : ∀ x, (x, NameKind.free) ∈ scope.names -> (rel sc scope).names.lookup x ≠ some .local := fun x hx => by
  show (scope.names.map _).lookup x ≠ _
  rw [rel_map, (hfr x hx).2.2.2]
  simp only [Option.map_some]
  split <;> simp
 have hZL : Z ≤ L := by rw [hL']; exact Nat.le_succ Z
 have hZnL : Z ≠ L := by rw [hL']; exact Nat.ne_of_lt (Nat.lt_succ_self Z)
 let Ω : Addr -> Prop := fun a => (c.all μ a ∨ a = Z ∨ wr a) ∨ (a ∈ ([] : List Addr) ∨ a = L ∨ a ∈ mc)
 let N : Addr -> Prop := fun a => wr a ∨ a = Z ∨ a = L ∨ a ∈ mc
 have NΩ : ∀ a, N a -> Ω a := fun a h => by
  rcases h with h | h | h | h
  · exact .inl (.inr (.inr h))
  · exact .inl (.inr (.inl h))
  · exact .inr (.inr (.inl h))
  · exact .inr (.inr (.inr h))
 have Nnew : ∀ a, N a -> s.heap.get? a = none := fun a h => by
  rcases h with h | h | h | h
  · exact hwf a h
  · exact none_of_kp k2 (nos2 a (by rw [h]; exact Nat.le_refl _))
  · exact none_of_kp k2 (nos2 a (by rw [h, hL']; exact Nat.le_succ _))
  · exact none_of_kp k2 (nos2 a (Nat.le_trans hZL (Nat.le_of_lt (mcge a h).1)))
 have nwr : ∀ a, Z ≤ a -> ¬ wr a := fun a h q => Nat.not_lt.mpr h (hwr a q)
 have hE : env' = (cin c μ (rel sc scope) L Z (own ++ cl) mc wr s).env := by rw [← henv]; rfl
 have gpk : ∀ {t : Shared}, Chg N gp s t -> Kp s t := fun {t} ch => ⟨⟨fun b o e => ch.heap b o (fun q => by rw [Nnew b q] at e; cases e) e, ch.os, ch.bare, fun g x e => ch.gens g x (fun q => by rw [hgf g q] at e; cases e) e⟩, ch.toks⟩
 have wrch : ∀ {t : Shared}, Chg N gp s t -> Chg wr (fun _ => False) s t := fun {t} ch => Chg.of_kp (gpk ch)
 let I : Nat -> Shared -> Prop := fun n s' => ∃ pre rest ys, xs = pre ++ rest ∧ rest.length = n ∧ Turn c μ Ω N gp env' mc wr Z s ((pre.filter p).map f) fr ys s' ∧ Walk G k (c.all μ) it ow (fun a => ∃ o, s2.heap.get? a = some o) wr gp (rest.map itm) s'
 have c4 : Chg N gp s { s2 with heap := H4 } := ⟨fun b o _ e => old4 b o (k2.heap b o e), k2.os, k2.bare, fun g x _ e => k2.gens g x e, k2.toks⟩
 have start : I xs.length { s2 with heap := H4 } := by
  refine ⟨[], xs, #[], rfl, rfl, ⟨c4, k2.bare r.bare, ⟨⟨_, by rw [← henv]; exact ns4, fun _ _ e => by cases e⟩, (fun _ _ e => by cases e), fun a ha => ⟨none, (mcge a ha).2⟩⟩, acc4, trivial, fun _ => ⟨List.nodup_nil, fun y hy => by cases hy⟩, fun b hb => ?_⟩, ?_⟩
  · obtain ⟨o, ho⟩ := hwe b hb
    exact ⟨o, old4 b o ho⟩
  · exact W0.later (fun b o _ e => old4 b o e) (fun g x _ e => e) (Nat.le_refl _)
 have loop : codeAny (model G.prog G.w) A (.compLoop (.ListComp elt [⟨tgt, iter, ifs, 0⟩] scope pos) 0 it (.ref Z) env') (compPost (model G.prog G.w) A E use Q (.ref Z) L) { s2 with heap := H4 } := by
  refine compLoop_own I (fun n s' hI => ?_) xs.length start
  obtain ⟨pre, rest, ys, hxs, hn, T, W⟩ := hI
  have TG : TopG G s'.heap := r.topG.keeps (gpk T.ch).heap
  cases rest with
  | nil =>
   refine wpAny_mono (W s' A (fun _ _ _ e => e) (fun _ _ _ e => e) T.bare (Nat.le_refl _) TG hA) (fun rr t hq => ?_) fun _ _ f => f.elim
   obtain ⟨hr, ch⟩ := hq
   subst hr
   have ch' : Chg N gp s t := T.ch.trans (ch.wider (fun a h => .inl h) fun _ h => h)
   have hpre : xs = pre := by rw [hxs, List.append_nil]
   have hclean : D.cleanL ((xs.filter p).map f) = true := cleanL_iff.mpr fun d hd => by
    obtain ⟨x, hx, rfl⟩ := List.mem_map.mp hd
    have hx' := List.mem_filter.mp hx
    exact (helt x hx'.1 hx'.2).1
   rw [← hpre] at T
   refine hfin L (.ref Z) t ⟨gpk ch', ?_, Nnew L (.inr (.inr (.inl rfl))), Z, ys, rfl, hZnL, Nnew Z (.inr (.inl rfl)), ?_, ?_, fun h => ⟨(T.fresh h).1, fun y hy => ?_⟩⟩
   · obtain ⟨m, hm, _⟩ := T.frm.loc
     rw [← henv] at hm
     exact ⟨m, hm.at' fun o e => ch.heap L o (nwr L hZL) e⟩
   · exact T.acc.at fun o e => ch.heap Z o (nwr Z (Nat.le_refl _)) e
   · refine T.holds.clean (fun a o na e q => ?_) (fun b o hb e => ch.heap b o (fun q => hb (NΩ b (.inl q))) e) hclean
     rcases q with q | q | q
     · exact na (.inl (.inl q))
     · exact na (NΩ a (.inr (.inl q)))
     · exact na (NΩ a (.inr (.inr (.inl q))))
   · obtain ⟨a, e1, e2, _⟩ := (T.fresh h).2 y hy
     exact ⟨a, e1, e2⟩
  | cons x rest =>
   have hx : x ∈ xs := by rw [hxs]; exact List.mem_append_right _ List.mem_cons_self
   refine wpAny_mono (W s' A (fun _ _ _ e => e) (fun _ _ _ e => e) T.bare (Nat.le_refl _) TG hA) (fun rr t hq => ?_) fun _ _ f => f.elim
   obtain ⟨v, hr, hv, he, hlet, ch, W'⟩ := hq
   subst hr
   have ns' : ∃ o, s'.heap.get? L = some o := by
    obtain ⟨m, ⟨o, _, _, e, _⟩, _⟩ := T.frm.loc
    rw [← henv] at e
    exact ⟨o, e⟩
   have hv' := hv Ω [] fun a ha => by
    rcases ha with (ha | ha | ha) | (ha | ha | ha)
    · obtain ⟨o, ho⟩ := r.allAt ha
      exact ⟨.inl ha, o, (gpk T.ch).heap a o ho⟩
    · refine ⟨.inr (.inl fun hq => ?_), by rw [ha]; exact PlainList.lt T.acc⟩
      obtain ⟨o, ho⟩ := hq
      rw [nos2 a (by rw [ha]; exact Nat.le_refl _)] at ho; cases ho
    · exact ⟨.inr (.inr ha), T.wre a ha⟩
    · cases ha
    · refine ⟨.inr (.inl fun hq => ?_), by rw [ha]; exact ns'⟩
      obtain ⟨o, ho⟩ := hq
      rw [nos2 a (by rw [ha]; exact hZL)] at ho; cases ho
    · refine ⟨.inr (.inl fun ⟨o, ho⟩ => ?_), ?_⟩
      · rw [nos2 a (Nat.le_trans hZL (Nat.le_of_lt (mcge a ha).1))] at ho; cases ho
      · obtain ⟨y, o, ho, _⟩ := T.frm.mc a ha
        exact ⟨o, ho⟩
   have hmcw : ∀ a ∈ mc, ¬ wr a := fun a ha => nwr a (Nat.le_trans hZL (Nat.le_of_lt (mcge a ha).1))
   have F1 : Frm Ω env' mc [] t := by
    refine ⟨?_, (fun _ _ e => by cases e), fun a ha => ?_⟩
    · obtain ⟨m, hm, _⟩ := T.frm.loc
      refine ⟨m, hm.at' fun o e => ch.heap _ o ?_ e, fun _ _ e => by cases e⟩
      rw [← henv]
      exact nwr L hZL
    · obtain ⟨y, o, ho, hd⟩ := T.frm.mc a ha
      exact ⟨y, o, ch.heap a o (hmcw a ha) ho, hd⟩
   have t1c : Chg N gp s t := T.ch.trans (ch.wider (fun a h => .inl h) fun _ h => h)
   have go : wpAny (model G.prog G.w) A (assign tgt env' v) (fun _ s₂ =>
    wpAny (model G.prog G.w) A (forIn ifs true fun c r => if r = true then do let ok ← isTrue c env' (eval c env'); pure (ForInStep.yield ok) else pure (ForInStep.yield r)) (fun ok s₃ =>
     if ok = true then wpAny (model G.prog G.w) A (eval elt env') (fun x s₄ =>
      wpAny (model G.prog G.w) A (call (.builtin "list.append") [.ref Z, x]) (fun _ s₅ => ∃ m, m < n ∧ I m s₅) (fun _ _ => False) s₄) (fun _ _ => False) s₃
     else ∃ m, m < n ∧ I m s₃) (fun _ _ => False) s₂) (fun _ _ => False) t := by
    refine wpAny_mono (wpAny_toks_of (Nat.le_refl t.toks) (tv_wp (ht x hx) F1 hA.1 (by rw [← henv]) hkf (by rw [← henv]; exact .inr (.inr (.inl rfl))) (fun a ha => .inr (.inr (.inr ha))) hcellown (hds x hx) hv')) (fun _ u hq => ?_) fun _ _ f => f.2
    obtain ⟨_, F2, c2⟩ := hq
    subst henv
    have hmcN : ∀ a ∈ mc, Z < a ∧ L < a := fun a ha => ⟨Nat.lt_of_le_of_lt hZL (mcge a ha).1, (mcge a ha).1⟩
    have c2' : Chg N gp t u := c2.wider (fun a h => h.elim (fun h => .inr (.inr (.inl h))) fun h => .inr (.inr (.inr h))) fun _ h => h.elim
    have uc : Chg N gp s u := t1c.trans c2'
    have nP : ∀ a, a ≠ L -> a ∉ mc -> ¬ (a = L ∨ a ∈ mc) := fun a h1 h2 h => h.elim h1 h2
    have Zmc : Z ∉ mc := fun h => Nat.lt_irrefl _ (hmcN Z h).1
    have hweu : ∀ b, wr b -> ∃ o, u.heap.get? b = some o := fun b hb => by
     obtain ⟨o, ho⟩ := he b hb
     exact ⟨o, c2.heap b o (nP b (fun q => nwr L hZL (q ▸ hb)) fun q => hmcw b q hb) ho⟩
    have accu : u.heap.PlainList Z ys := (T.acc.at fun o e => ch.heap Z o (nwr Z (Nat.le_refl _)) e).at fun o e => c2.heap Z o (nP Z hZnL Zmc) e
    have RI : R G (cin c μ (rel sc scope) L Z (own ++ cl) mc wr u) [] ⟨tv x ++ fvOf σ scope.names, []⟩ u :=
     r.inner hc (wrch uc) (c2.bare (ch.bare T.bare)) ok hnoh hwf hweu (Nnew Z (.inr (.inl rfl))) (PlainList.lt accu) (Nnew L (.inr (.inr (.inl rfl)))) (Ne.symm hZnL) (nwr L hZL)
      (fun a ha => ⟨Nnew a (.inr (.inr (.inr ha))), fun q => Zmc (q ▸ ha), hmcw a ha⟩) hkf hfree' hnl F2 (ht x hx).nf
    have tests : wpAny (model G.prog G.w) A (forIn ifs true fun cc r => if r = true then do let ok ← isTrue cc (cin c μ (rel sc scope) L Z (own ++ cl) mc wr u).env (eval cc (cin c μ (rel sc scope) L Z (own ++ cl) mc wr u).env); pure (ForInStep.yield ok) else pure (ForInStep.yield r)) (fun ok s3 => Kp u s3 ∧ ok = p x) (fun _ _ => False) u := by
     rcases htest x hx with ⟨rfl, hb⟩ | ⟨tt, rfl, hT⟩
     · exact wpAny_tests_nil ⟨Kp.refl u, hb.symm⟩
     · exact wpAny_tests_one (hT _ [] A u rfl hA RI)
    refine wpAny_mono tests (fun b s3 hq => ?_) fun _ _ f => f
    obtain ⟨k3, hb⟩ := hq
    subst hb
    have R3 := RI.kp k3
    have uc3 : Chg N gp s s3 := uc.trans (Chg.of_kp k3)
    have clean : D.cleanL ((pre.filter p).map f) = true := cleanL_iff.mpr fun d hd => by
     obtain ⟨y, hy, rfl⟩ := List.mem_map.mp hd
     have hy' := List.mem_filter.mp hy
     exact (helt y (by rw [hxs]; exact List.mem_append_left _ hy'.1) hy'.2).1
    have later : ∀ {q : Shared}, Chg N gp s' q -> HoldsL Ω [] q.heap ((pre.filter p).map f) ys.toList := fun {q} cq => T.holds.clean (fun _ _ z _ => z) (fun b o hb e => cq.heap b o (fun h => hb (NΩ b h)) e) clean
    have tc : Chg N gp s' u := (ch.wider (fun a h => .inl h) fun _ h => h).trans c2'
    have keepW : ∀ {q : Shared}, Kp u q -> ∀ h', Heap.SameBut Z q.heap h' -> Walk G k (c.all μ) it ow (fun a => ∃ o, s2.heap.get? a = some o) wr gp (rest.map itm) { q with heap := h' } := fun {q} kq h' hsb => by
     refine W'.later (fun b o hp e => ?_) (fun g x _ e => kq.gens g x (c2.gens g x (fun f => f) e)) (Nat.le_trans c2.toks kq.toks)
     obtain ⟨o2, ho2⟩ := hp
     have hlt : b < Z := by rw [← hZ]; exact Heap.lt_size ho2
     refine (hsb.2 b (Nat.ne_of_lt hlt)).trans (kq.heap b o (c2.heap b o (nP b (Nat.ne_of_lt (Nat.lt_of_lt_of_le hlt hZL)) fun q => Nat.lt_irrefl _ (Nat.lt_trans hlt (hmcN b q).1)) e))
    have hxs' : xs = (pre ++ [x]) ++ rest := by rw [hxs, List.append_assoc]; rfl
    have hm : rest.length < n := by rw [← hn]; exact Nat.lt_succ_self _
    cases hp : p x with
    | false =>
     simp only [Bool.false_eq_true, if_false]
     have hfl : ((pre ++ [x]).filter p) = pre.filter p := by rw [List.filter_append]; simp [hp]
     refine ⟨rest.length, hm, pre ++ [x], rest, ys, hxs', rfl, ⟨uc3, k3.bare (c2.bare (ch.bare T.bare)), F2.later (Chg.of_kp (wr := fun _ => False) (gp := fun _ => False) k3) (fun h => h) (fun _ _ h => h), accu.at (k3.heap Z), ?_, fun h => ?_, fun b hb => ?_⟩, keepW k3 _ (.refl ..)⟩
     · rw [hfl]; exact later (tc.trans (Chg.of_kp k3))
     · refine ⟨(T.fresh h).1, fun y hy => ?_⟩
       obtain ⟨a, e1, e2, e3, o, e4⟩ := (T.fresh h).2 y hy
       exact ⟨a, e1, e2, e3, o, (tc.trans (Chg.of_kp k3)).heap a o (fun q => e3 (NΩ a q)) e4⟩
     · obtain ⟨o, ho⟩ := hweu b hb
       exact ⟨o, k3.heap b o ho⟩
    | true =>
     simp only [if_true]
     obtain ⟨hcl', hel1, hel2⟩ := helt x hx hp
     have El : wpAny (model G.prog G.w) A (eval elt (cin c μ (rel sc scope) L Z (own ++ cl) mc wr u).env) (fun y s4 => Kp s3 s4 ∧ Holds Ω [] s4.heap (f x) y ∧ (fr = true -> ∃ a, y = .ref a ∧ s3.heap.get? a = none ∧ ¬ Ω a ∧ ∃ o, s4.heap.get? a = some o)) (fun _ _ => False) s3 := by
      cases fr with
      | false => exact wpAny_mono (hel1 rfl _ [] A s3 rfl hA R3) (fun y s4 hp => by obtain ⟨q1, q2⟩ := hp; exact ⟨q1, q2, fun h => nomatch h⟩) fun _ _ f => f
      | true =>
       obtain ⟨l, e1, e2⟩ := hel2 rfl
       rw [e1]
       refine wpAny_mono (e2 _ [] A s3 rfl hA R3) (fun y s4 hp => by obtain ⟨q1, a, vs, q2, q3, q4, q5⟩ := hp; exact ⟨q1, ⟨a, vs, q2, R3.fresh q3, q4, q5.weak fun _ h => .inl h⟩, fun _ => ⟨a, q2, q3, R3.fresh q3, PlainList.lt q4⟩⟩) fun _ _ f => f
     refine wpAny_mono El (fun y s4 hq => ?_) fun _ _ f => f
     obtain ⟨k4, hy, hfy⟩ := hq
     have hsz : ys.size ≤ sizeLine := by
      rw [sizeLine_eq]
      have e1 := T.holds.length
      have e2 : (pre.filter p).length ≤ pre.length := List.length_filter_le _ _
      have e3 : xs.length = pre.length + (rest.length + 1) := by rw [hxs]; simp
      rw [List.length_map] at e1
      have e4 : ys.toList.length = ys.size := by simp
      exact Nat.le_trans (Nat.le_of_eq (e4.symm.trans e1.symm)) (Nat.le_trans e2 (Nat.le_trans (Nat.le_add_right _ _) (Nat.le_trans (Nat.le_of_eq e3.symm) hlen)))
     have k34 := k3.trans k4
     refine wpAny_list_append_plain (hsz := hsz) (accu.at (k34.heap Z)) fun h' hpl hsb => ?_
     have hfl : ((pre ++ [x]).filter p).map f = (pre.filter p).map f ++ [f x] := by rw [List.filter_append, List.map_append]; simp [hp]
     have cz : Chg N gp s4 { s4 with heap := h' } := ⟨fun b o hb e => (hsb.2 b (fun q => hb (.inr (.inl q)))).trans e, rfl, fun h => h, fun _ _ _ e => e, Nat.le_refl _⟩
     have tcz : Chg N gp s' { s4 with heap := h' } := (tc.trans (Chg.of_kp k34)).trans cz
     refine ⟨rest.length, hm, pre ++ [x], rest, ys.push y, hxs', rfl, ⟨(uc.trans (Chg.of_kp k34)).trans cz, k34.bare (c2.bare (ch.bare T.bare)), ?_, hpl, ?_, fun h => ?_, fun b hb => ?_⟩, keepW k34 h' hsb⟩
     · refine F2.later (P := fun a => a = Z) (gp := fun _ => False) ⟨fun b o hb e => (hsb.2 b hb).trans (k34.heap b o e), k34.os, k34.bare, fun g x _ e => k34.gens g x e, k34.toks⟩ (fun q => hZnL q.symm) (fun a ha q => Zmc (q ▸ ha))
     · rw [hfl, Array.toList_push]
       refine (later tcz).append ⟨?_, trivial⟩
       exact hy.clean (fun _ _ z _ => z) (fun b o hb e => (hsb.2 b (fun q => hb (NΩ b (.inr (.inl q))))).trans e) hcl'
     · obtain ⟨a, e1, e2, e3, o, e4⟩ := hfy h
       obtain ⟨n1, n2⟩ := T.fresh h
       rw [Array.toList_push]
       refine ⟨List.nodup_append.mpr ⟨n1, by simp, fun z hz w hw => ?_⟩, fun z hz => ?_⟩
       · rw [List.mem_singleton.mp hw]
         obtain ⟨a', f1, f2, f3, o', f4⟩ := n2 z hz
         rintro rfl
         rw [f1] at e1; cases e1
         rw [(tc.trans (Chg.of_kp k3)).heap _ o' (fun q => f3 (NΩ _ q)) f4] at e2; cases e2
       · rcases List.mem_append.mp hz with hz | hz
         · obtain ⟨a', f1, f2, f3, o', f4⟩ := n2 z hz
           exact ⟨a', f1, f2, f3, o', tcz.heap a' o' (fun q => f3 (NΩ a' q)) f4⟩
         · rw [List.mem_singleton.mp hz]
           refine ⟨a, e1, none_of_kp (gpk uc3) e2, e3, o, cz.heap a o (fun q => e3 (NΩ a q)) e4⟩
     · obtain ⟨o, ho⟩ := hweu b hb
       exact ⟨o, (hsb.2 b (fun q => nwr Z (Nat.le_refl _) (q ▸ hb))).trans (k34.heap b o ho)⟩
   rcases how with ho | ho
   · exact hlet ho tgt go
   · show wpAny _ A (letOwnedTupleGo tgt it v) _ _ t
     rw [ho]
     exact wpAny_pure go
 have self := S0 { s2 with heap := H4 } A (notedBy (model G.prog G.w) A env' fun x s' => compPost (model G.prog G.w) A E use Q (.ref Z) L (.error x) s') (fun it' s' => codeAny (model G.prog G.w) A (.compLoop (.ListComp elt [⟨tgt, iter, ifs, 0⟩] scope pos) 0 it' (.ref Z) env') (compPost (model G.prog G.w) A E use Q (.ref Z) L) s') (fun b o _ e => old4 b o e) loop
 exact codeAny_compStart_list loop self
end
end
section
section
variable {G : Gl} {sc : Scope} {k : Nat} {σ : St}
noncomputable def Comp (G : Gl) (sc : Scope) (k : Nat) (σ : St) (elt tgt iter : Expr) (ifs : List Expr) (scope : Scope) (pos : Pos) (l : List D) (fr : Bool) : Prop :=
 ∀ c μ A s E use Q, c.env.scope = sc -> Aok k A -> R G c μ σ s -> (∀ C acc s', CompDone c μ s l fr C acc s' -> compPost (model G.prog G.w) A E use Q acc C (.ok .next) s') ->
  wpAny (model G.prog G.w) A (comprehension (.ListComp elt [⟨tgt, iter, ifs, 0⟩] scope pos) scope c.env (firstIterPos [⟨tgt, iter, ifs, 0⟩] pos) (newList []) false (eval iter c.env) use) Q E s
theorem comp_of {α : Type} {elt tgt iter : Expr} {ifs : List Expr} {scope : Scope} {pos : Pos} {ow : Bool} (xs : List α) (itm : α -> D) (tv : α -> List (Str × D)) (p : α -> Bool) (f : α -> D) (fr : Bool)
 (hit : EvIt G sc k σ iter (xs.map itm) ow true) (how : ow = true ∨ ∀ it v, letOwnedTupleGo tgt it v = pure ())
 (ok : compOk sc σ scope = true) (hnoh : ∀ x d, (fvOf σ scope.names).lookup x = some d -> d.noh = true)
 (hds : ∀ x ∈ xs, (itm x).firm = true) (hlen : xs.length ≤ 16777216) (ht : ∀ x ∈ xs, TV (rel sc scope) scope tgt (itm x) (tv x))
 (htest : ∀ x ∈ xs, TI G (rel sc scope) k ⟨tv x ++ fvOf σ scope.names, []⟩ ifs (p x))
 (helt : ∀ x ∈ xs, p x = true -> (f x).clean = true ∧ ElI G (rel sc scope) k ⟨tv x ++ fvOf σ scope.names, []⟩ elt (f x) fr)
 (hs : ∀ env x, foldedSetIterable iter env x = pure x) : Comp G sc k σ elt tgt iter ifs scope pos ((xs.filter p).map f) fr := fun c μ A s E use Q hc hA r h =>
 comp_core xs itm tv p f fr hc hA r hit how ok hnoh hds hlen ht htest helt hs h
theorem CompDone.newL {c : Cx} {μ : List Addr} {s s' : Shared} {l : List D} {fr : Bool} {C : Addr} {acc : Value} {h' : Heap} (d : CompDone c μ s l fr C acc s') (hl : D.cleanL l = true) (hs : Heap.SameBut C s'.heap h') : Kp s { s' with heap := h' } ∧ NewL c μ s { s' with heap := h' } l acc := by
 obtain ⟨Z, ys, e1, e2, e3, e4, e5, _⟩ := d.out
 refine ⟨⟨⟨fun b o e => (hs.2 b (fun q => ?_)).trans (d.kp.heap b o e), d.kp.os, d.kp.bare, d.kp.gens⟩, d.kp.toks⟩, Z, ys, e1, e3, e4.at fun o e => (hs.2 Z e2).trans e, ?_⟩
 · rw [q, d.new] at e; cases e
 · exact e5.clean (fun a o n _ q => n (q.imp (fun h => h) .inl)) (fun b o n e => (hs.2 b (fun q => n (.inr (.inr q)))).trans e) hl
theorem evN_comp {elt tgt iter : Expr} {ifs : List Expr} {scope : Scope} {pos : Pos} {l : List D} {fr : Bool} (C : Comp G sc k σ elt tgt iter ifs scope pos l fr) (hl : D.cleanL l = true) : EvN G sc k σ (.ListComp elt [⟨tgt, iter, ifs, 0⟩] scope pos) l := by
 intro c μ A s hc hA r
 rw [eval_ListComp]
 exact C c μ A s _ none _ hc hA r fun Cc acc s' d => ⟨_, d.ns.choose_spec, fun h' hs => d.newL hl hs⟩
theorem swaps_local {elt : Expr} {gens : List Comprehension} {scope : Scope} {pos p' : Pos} {t : Str} {line : Nat} {env : Env} (hc : env.scope = sc) (hb : sc.kind = .function) (hk : sc.names.lookup t = some .local) (hl : (p'.line == pos.line) = true)
 (hn : (scope.names.any fun (n, k) => n == t && (k == .local || k == .cell)) = false) : swapsWith (.ListComp elt gens scope pos) (some (.Name t p')) line env = pure true := by
 have h1 : env.kindOf t = some .local := kindOf_of hc hk
 have h2 : env.blockKind = .function := by unfold Env.blockKind; rw [hc, hb]; rfl
 unfold swapsWith
 show (pure (env.blockKind == .function && env.kindOf t == some .local && p'.line == pos.line && !(scope.names.any fun (n, k) => n == t && (k == .local || k == .cell))) : Sem Bool) = pure true
 rw [h1, h2, hl, hn]; rfl
theorem swaps_cell {elt : Expr} {gens : List Comprehension} {scope : Scope} {pos p' : Pos} {t : Str} {line : Nat} {env : Env} (hc : env.scope = sc) (hk : sc.names.lookup t = some .cell) : swapsWith (.ListComp elt gens scope pos) (some (.Name t p')) line env = pure false := by
 have h1 : env.kindOf t = some .cell := kindOf_of hc hk
 unfold swapsWith
 show (pure (env.blockKind == .function && env.kindOf t == some .local && p'.line == pos.line && !(scope.names.any fun (n, k) => n == t && (k == .local || k == .cell))) : Sem Bool) = pure false
 rw [h1]
 have : (some NameKind.cell == some NameKind.local) = false := by decide
 rw [this, Bool.and_false]; rfl
theorem ns_not {h : Heap} {C a : Addr} {m : Str -> Option Value} {o : Obj} (x : h.Ns C m) (e : h.get? a = some o) (hd : ∀ es ep, o.data ≠ .dict es ep) : a ≠ C := by
 rintro rfl
 obtain ⟨o', es, ep, e', hd', _⟩ := x
 rw [e] at e'; cases e'
 exact hd _ _ hd'
end
mutual
theorem Holds.aside {O : Addr -> Prop} {μ : List Addr} {h h' : Heap} {C : Addr} {m : Str -> Option Value} (hC : O C) (x : h.Ns C m) (hs : Heap.SameBut C h h') : ∀ {d : D} {v : Value}, Holds O μ h d v -> Holds O μ h' d v
 | .none, _, e => e
 | .bool _, _, e => e
 | .int _, _, e => e
 | .str _, _, e => e
 | .tup _, _, ⟨a, vs, e, n, ⟨n', t⟩, l⟩ => ⟨a, vs, e, n, ⟨n', (hs.2 a (fun q => n (q ▸ hC))).trans t⟩, HoldsL.aside hC x hs l⟩
 | .lst _, _, ⟨a, vs, e, n, ⟨o, t, tc, n', td⟩, l⟩ => ⟨a, vs, e, n, ⟨o, (hs.2 a (fun q => n (q ▸ hC))).trans t, tc, n', td⟩, HoldsL.aside hC x hs l⟩
 | .bor _, _, ⟨a, vs, e, ⟨o, t, tc, n', td⟩, l⟩ => ⟨a, vs, e, ⟨o, (hs.2 a (ns_not x t (by intro _ _ q; rw [td] at q; cases q))).trans t, tc, n', td⟩, HoldsL.aside hC x hs l⟩
 | .new _, _, ⟨a, vs, e, n, ⟨n', t⟩, l⟩ => ⟨a, vs, e, n, ⟨n', (hs.2 a (fun q => n (q ▸ hC))).trans t⟩, HoldsL.aside hC x hs l⟩
 | .val _, _, e => e
 | .rng _ _, _, ⟨a, e, n, ⟨t1, t2, t3, t⟩⟩ => ⟨a, e, n, ⟨t1, t2, t3, (hs.2 a (fun q => n (q ▸ hC))).trans t⟩⟩
 | .dct _, _, ⟨a, o, e, n, t, p⟩ => ⟨a, o, e, n, (hs.2 a (fun q => n (q ▸ hC))).trans t, p⟩
 | .h k, _, e => e
theorem HoldsL.aside {O : Addr -> Prop} {μ : List Addr} {h h' : Heap} {C : Addr} {m : Str -> Option Value} (hC : O C) (x : h.Ns C m) (hs : Heap.SameBut C h h') : ∀ {ds : List D} {vs : List Value}, HoldsL O μ h ds vs -> HoldsL O μ h' ds vs
 | [], [], _ => trivial
 | _ :: _, _ :: _, ⟨e, r⟩ => ⟨Holds.aside hC x hs e, HoldsL.aside hC x hs r⟩
 | [], _ :: _, e => e
 | _ :: _, [], e => e
end
section
variable {G : Gl} {sc : Scope} {k : Nat} {σ : St}
noncomputable def Cx.shun (c : Cx) (C : Addr) (o : Obj) : Cx := { c with O := fun a => c.O a ∨ a = C, base := fun a o' => c.base a o' ∨ (a = C ∧ o' = o) }
theorem R.shun {c : Cx} {μ : List Addr} {s s' : Shared} {C : Addr} {o : Obj} (r : R G c μ σ s) (kp : Kp s s') (hC : s.heap.get? C = none) (ho : s'.heap.get? C = some o) : R G (c.shun C o) μ σ s' := by
 have r' := r.kp kp
 have sh : ∀ {d : D} {v : Value}, Holds (c.all μ) μ s.heap d v -> Holds ((c.shun C o).all μ) μ s'.heap d v := fun {d v} x => ((x.avoid hC).keep kp.heap).weak fun a h => by
  rcases h with (h | h) | h
  · exact .inl (.inl h)
  · exact .inr h
  · exact .inl (.inr h)
 refine { r' with base := ?_, top := fun h hh => r.top h fun a o e => hh a o (.inl e), old := ?_, mine := ?_, loc := ?_, cell := ?_, own := ?_ }
 · rintro a o' (h | ⟨rfl, rfl⟩)
   · exact r'.base a o' h
   · exact ho
 · rintro a (h | rfl)
   · obtain ⟨o', h'⟩ := r.old a h; exact ⟨o', .inl h'⟩
   · exact ⟨o, .inr ⟨rfl, rfl⟩⟩
 · intro a ha
   have hne : a ≠ C := fun q => by
    obtain ⟨o', h'⟩ := r.mutAt (a := a) ha
    rw [q, hC] at h'; cases h'
   have := r.mine a ha
   refine ⟨fun q => q.elim this.1 hne, fun o' q => q.elim (this.2 o') fun q => hne q.1⟩
 · obtain ⟨m, hm, h⟩ := r.loc
   exact ⟨m, hm.keeps kp.heap, fun x d e l => (by obtain ⟨v, e1, e2⟩ := h x d e l; exact ⟨v, e1, sh e2⟩)⟩
 · exact fun x d e l => (by obtain ⟨ca, v, e1, e2, e3⟩ := r.cell x d e l; exact ⟨ca, v, e1, e2.keeps kp.heap, sh e3⟩)
 · intro n l e
   obtain ⟨a, vs, e1, e2, e3⟩ := r.own n l e
   refine ⟨a, vs, e1, e2.at (kp.heap a), ?_⟩
   refine ((e3.avoid hC).keep kp.heap).weak fun a h => ?_
   rcases h with (h | h) | h
   · exact .inl (.inl h)
   · exact .inr h
   · exact .inl (.inr h)
theorem R.aside {c : Cx} {μ : List Addr} {s : Shared} {C : Addr} {o : Obj} {h' : Heap} {m : Str -> Option Value} (r : R G (c.shun C o) μ σ s) (x : s.heap.Ns C m) (hCb : ∀ o, ¬ c.base C o) (top : ∀ h : Heap, (∀ a o, c.base a o -> h.get? a = some o) -> TopG G h) (old : ∀ a, c.O a -> ∃ o, c.base a o) (hs : Heap.SameBut C s.heap h') : R G c μ σ { s with heap := h' } := by
 have hC : (c.shun C o).all μ C := .inl (.inr rfl)
 have hm : ∀ a, c.mut μ a -> a ≠ C := fun a ha q => (r.mine a ha).1 (.inr q)
 have kp : ∀ b o, b ≠ C -> s.heap.get? b = some o -> h'.get? b = some o := fun b o n e => (hs.2 b n).trans e
 have pl : ∀ {a vs}, s.heap.PlainList a vs -> h'.PlainList a vs := fun {a vs} ⟨n, e⟩ => ⟨n, kp a _ (ns_not x e (by intro _ _ q; cases q)) e⟩
 have cl : ∀ {a y}, s.heap.IsCell a y -> h'.IsCell a y := fun {a y} ⟨o, e, hd⟩ => ⟨o, kp a _ (ns_not x e (by intro _ _ q; rw [hd] at q; cases q)) e, hd⟩
 have wk : ∀ a, c.all μ a -> (c.shun C o).all μ a := fun a h => h.elim (fun h => .inl (.inl h)) .inr
 have wh : ∀ {d : D} {v : Value}, Holds ((c.shun C o).all μ) μ s.heap d v -> Holds (c.all μ) μ h' d v := fun y => (y.aside hC x hs).weak wk
 refine { r with base := fun a o h => kp a o (fun q => hCb o (q ▸ h)) (r.base a o (.inl h)), top := top, old := old, mine := ?_, loc := ?_, cell := ?_, own := ?_, mutc := ?_ }
 · intro a ha
   have := r.mine a ha
   exact ⟨fun q => this.1 (.inl q), fun o q => this.2 o (.inl q)⟩
 · obtain ⟨m, hm', h⟩ := r.loc
   exact ⟨m, hm'.at' fun o e => kp _ o (hm _ (.inr (.inl rfl))) e, fun y d e l => (by obtain ⟨v, e1, e2⟩ := h y d e l; exact ⟨v, e1, wh e2⟩)⟩
 · exact fun y d e l => (by obtain ⟨ca, v, e1, e2, e4⟩ := r.cell y d e l; exact ⟨ca, v, e1, cl e2, wh e4⟩)
 · exact fun n l e => (by obtain ⟨a, vs, e1, e2, e3⟩ := r.own n l e; exact ⟨a, vs, e1, pl e2, (e3.aside hC x hs).weak wk⟩)
 · exact fun a h => (by obtain ⟨y, e1⟩ := r.mutc a h; exact ⟨y, cl e1⟩)
theorem ex_swap {elt tgt iter : Expr} {ifs : List Expr} {scope : Scope} {pos p p' : Pos} {x : Str} {l : List D} {fr : Bool} {σ' : St} (C : Comp G sc k σ elt tgt iter ifs scope pos l fr) (hl : D.cleanL l = true)
 (hb : sc.kind = .function) (hx : sc.names.lookup x = some .local) (hln : (p'.line == pos.line) = true) (hn : (scope.names.any fun (n, k) => n == x && (k == .local || k == .cell)) = false)
 (ho : As G sc k (.Name x p') (.lst l) σ σ') :
 Ex1 G sc k σ (.Assign [.Name x p'] (.ListComp elt [⟨tgt, iter, ifs, 0⟩] scope pos) p) σ' := by
 intro c μ A s hc hfm hA r
 rw [exec_Assign_Name_used _ _ _ _ (swaps_local hc hb hx hln hn)]
 refine wpAny_bind (wpAny_standAt (wpAny_bind ?_))
 show wpAny _ A (do let _ ← comprehension (.ListComp elt [⟨tgt, iter, ifs, 0⟩] scope pos) scope c.env _ (newList []) false (eval iter c.env) (some (assign (.Name x p') c.env))) _ _ s
 refine wpAny_bind (wpAny_mono (C c μ A s _ (some (assign (.Name x p') c.env)) (fun _ s' => ∃ μ', R G c μ' σ' s') hc hA r fun Cc acc s' d => ?_) (fun _ s' hp => by obtain ⟨μ', h⟩ := hp; exact wpAny_pure (wpAny_pure ⟨.next, σ', μ', ⟨rfl, rfl⟩, h, rfl⟩)) fun _ _ f => f)
 show wpAny _ A (assign (.Name x p') c.env acc) _ _ s'
 obtain ⟨m, hm⟩ := d.ns
 obtain ⟨o, hoC⟩ : ∃ o, s'.heap.get? Cc = some o := (by obtain ⟨o, _, _, e, _⟩ := hm; exact ⟨o, e⟩)
 have hCb : ∀ o, ¬ c.base Cc o := fun o q => by have := r.base _ o q; rw [d.new] at this; cases this
 obtain ⟨Z, ys, e1, e2, e3, e4, e5, _⟩ := d.out
 have rS := r.shun d.kp d.new hoC
 have sub : ∀ a, (c.shun Cc o).all μ a -> c.all μ a ∨ a = Z ∨ a = Cc := fun a h => by
  rcases h with (h | h) | h
  · exact .inl (.inl h)
  · exact .inr (.inr h)
  · exact .inl (.inr h)
 refine wpAny_mono (ho (c.shun Cc o) μ A s' acc hc hfm hA rS ⟨Z, ys, e1, fun q => ?_, e4.isList, e5.clean (fun a o n _ q => n (sub a q)) (fun _ _ _ e => e) hl⟩) (fun _ s2 ⟨r2, p2⟩ => ?_) fun _ _ f => f
 · rcases q with (q | q) | q
   · exact r.fresh e3 (.inl q)
   · exact e2 q
   · exact r.fresh e3 (.inr q)
 · have hm2 : s2.heap.Ns Cc m := hm.at' fun o' e => by rw [hoC] at e; cases e; exact r2.base _ _ (.inr ⟨rfl, rfl⟩)
   exact ⟨m, hm2, fun h' hs => ⟨μ, r2.aside hm2 hCb r.top r.old hs⟩⟩
theorem ex_compC {elt tgt iter : Expr} {ifs : List Expr} {scope : Scope} {pos p p' : Pos} {x : Str} {l : List D} {fr : Bool} {σ' : St} (C : Comp G sc k σ elt tgt iter ifs scope pos l fr) (hl : D.cleanL l = true) (hx : sc.names.lookup x = some .cell)
 (ha : As G sc k (.Name x p') (.lst l) σ σ') : Ex1 G sc k σ (.Assign [.Name x p'] (.ListComp elt [⟨tgt, iter, ifs, 0⟩] scope pos) p) σ' := by
 intro c μ A s hc hfm hA r
 have hxx : exec (.Assign [.Name x p'] (.ListComp elt [⟨tgt, iter, ifs, 0⟩] scope pos) p) c.env = (do
  standAt p
  let v ← eval (.ListComp elt [⟨tgt, iter, ifs, 0⟩] scope pos) c.env
  assign (.Name x p') c.env v
  pure .next) := exec_Assign_Name c.env x p' _ p (swaps_cell hc hx)
 rw [hxx]
 refine wpAny_bind (wpAny_standAt (wpAny_bind (wpAny_mono ((evN_comp C hl).ev c μ A s hc hA r) (fun v s1 hq => ?_) fun _ _ f => f)))
 obtain ⟨k1, x1⟩ := hq
 exact wpAny_bind (wpAny_mono (ha c μ A s1 v hc hfm hA (r.kp k1) x1) (fun _ s2 hp => by obtain ⟨r2, _⟩ := hp; exact wpAny_pure ⟨.next, σ', μ, ⟨rfl, rfl⟩, r2, rfl⟩) fun _ _ f => f)
end
end
section
noncomputable def frz (own : List (List D)) : Nat -> D -> D
 | n + 1, .h k => match own[k]? with | some l => .lst (l.map (frz own n)) | none => .h k
 | n + 1, .tup l => .tup (l.map (frz own n))
 | _, d => d
theorem holdsL_mapc {O O' : Addr -> Prop} {μ μ' : List Addr} {h h' : Heap} {f : D -> D} (hf : ∀ d v, (f d).clean = true -> Holds O μ h d v -> Holds O' μ' h' (f d) v) : ∀ (l : List D) (vs : List Value), D.cleanL (l.map f) = true -> HoldsL O μ h l vs -> HoldsL O' μ' h' (l.map f) vs
 | [], [], _, _ => trivial
 | d :: r, v :: vs, hn, ⟨x, y⟩ => ⟨hf d v (Bool.and_eq_true_iff.mp hn).1 x, holdsL_mapc hf r vs (Bool.and_eq_true_iff.mp hn).2 y⟩
 | [], _ :: _, _, e => e.elim
 | _ :: _, [], _, e => e.elim
mutual
theorem D.clean_firm : ∀ {d : D}, d.clean = true -> d.firm = true
 | .none, _ => rfl
 | .bool _, _ => rfl
 | .int _, _ => rfl
 | .str _, _ => rfl
 | .tup l, q => D.cleanL_firmL (l := l) q
 | .lst l, q => D.cleanL_firmL (l := l) q
 | .bor _, q => nomatch q
 | .new l, q => D.cleanL_firmL (l := l) q
 | .val _, _ => rfl
 | .rng _ _, _ => rfl
 | .dct _, _ => rfl
 | .h _, q => nomatch q
theorem D.cleanL_firmL : ∀ {l : List D}, D.cleanL l = true -> D.firmL l = true
 | [], _ => rfl
 | d :: r, q => by
  have h' : (d.clean && D.cleanL r) = true := q
  rw [Bool.and_eq_true] at h'
  show (d.firm && D.firmL r) = true
  rw [D.clean_firm h'.1, D.cleanL_firmL h'.2]; rfl
end
section
variable {G : Gl} {sc : Scope} {k : Nat} {σ : St}
theorem R.frz {c : Cx} {μ : List Addr} {s : Shared} (r : R G c μ σ s) {μ' : List Addr} :
 ∀ (n : Nat) (d : D) (v : Value), (Mine.frz σ.own n d).clean = true -> Holds (c.all μ) μ s.heap d v -> Holds c.O μ' s.heap (Mine.frz σ.own n d) v
 | 0, d, v, hn, x => Holds.clean (fun a o na _ q => na (.inl q)) (fun _ _ _ e => e) hn x
 | n + 1, d, v, hn, x => by
  cases d with
  | h k =>
   obtain ⟨a, e1, rfl⟩ := x
   unfold Mine.frz at hn ⊢
   cases hl : σ.own[k]? with
   | none => rw [hl] at hn; cases hn
   | some l =>
    rw [hl] at hn
    obtain ⟨a', vs, q1, q2, q3⟩ := r.own k l hl
    rw [e1] at q1; cases q1
    exact ⟨a, vs, rfl, (r.mine a (.inl (List.mem_of_getElem? e1))).1, q2.isList, holdsL_mapc (fun d v f y => r.frz n d v f y) l _ hn q3⟩
  | tup l =>
   obtain ⟨a, vs, e1, e2, e3, e4⟩ := x
   exact ⟨a, vs, e1, fun q => e2 (.inl q), e3, holdsL_mapc (fun d v f y => r.frz n d v f y) l _ hn e4⟩
  | _ => exact Holds.clean (fun a o na _ q => na (.inl q)) (fun _ _ _ e => e) hn x
theorem bindL_other {kd : Str -> Option NameKind} {x : Str} : ∀ (xs : List Str) (vs : List Value) (m : Str -> Option Value), x ∉ xs -> bindL kd (xs.zip vs) m x = m x
 | [], _, _, _ => rfl
 | y :: r, [], _, _ => rfl
 | y :: r, v :: vs, m, h => by
  have h1 : x ≠ y := fun q => h (q ▸ List.mem_cons_self)
  have h2 : x ∉ r := fun q => h (List.mem_cons_of_mem _ q)
  show bindL kd (r.zip vs) _ x = _
  rw [bindL_other r vs _ h2]
  by_cases hk : kd y = some .local
  · simp [hk, h1]
  · simp [hk]
theorem bindC_other {kd : Str -> Option NameKind} {x : Str} : ∀ (xs : List Str) (vs : List Value) (m : Str -> Option Value), x ∉ xs -> bindC kd (xs.zip vs) m x = m x
 | [], _, _, _ => rfl
 | y :: r, [], _, _ => rfl
 | y :: r, v :: vs, m, h => by
  have h1 : x ≠ y := fun q => h (q ▸ List.mem_cons_self)
  have h2 : x ∉ r := fun q => h (List.mem_cons_of_mem _ q)
  show bindC kd (r.zip vs) _ x = _
  rw [bindC_other r vs _ h2]
  by_cases hk : kd y = some .local
  · simp [hk]
  · simp [hk, h1]
theorem bind_args {O : Addr -> Prop} {μ : List Addr} {h : Heap} {kd : Str -> Option NameKind} {x : Str} {d : D} : ∀ (xs : List Str) (ds : List D) (vs : List Value) (m cm : Str -> Option Value), xs.Nodup -> HoldsL O μ h ds vs -> xs.length = ds.length -> (xs.zip ds).lookup x = some d ->
 x ∈ xs ∧ d ∈ ds ∧ ∃ v, Holds O μ h d v ∧ (kd x = some .local -> bindL kd (xs.zip vs) m x = some v) ∧ (kd x ≠ some .local -> bindC kd (xs.zip vs) cm x = some v)
 | [], _, _, _, _, _, _, _, e => by cases e
 | y :: r, [], _, _, _, _, _, hl, _ => by cases hl
 | y :: r, d' :: ds, [], _, _, _, hh, _, _ => hh.elim
 | y :: r, d' :: ds, v :: vs, m, cm, hnd, ⟨hv, hvs⟩, hl, e => by
  obtain ⟨n1, n2⟩ := List.nodup_cons.mp hnd
  by_cases hx : x = y
  · subst hx
    simp [List.lookup] at e
    subst e
    refine ⟨List.mem_cons_self, List.mem_cons_self, v, hv, fun hk => ?_, fun hk => ?_⟩
    · show bindL kd (r.zip vs) _ x = _
      rw [bindL_other r vs _ n1]; simp [hk]
    · show bindC kd (r.zip vs) _ x = _
      rw [bindC_other r vs _ n1]; simp [hk]
  · have hb : (x == y) = false := by simpa using hx
    simp only [List.zip_cons_cons, List.lookup, hb] at e
    obtain ⟨q1, q2, v', q3, q4, q5⟩ := bind_args (kd := kd) r ds vs (if kd y = some .local then fun z => if z = y then some v else m z else m) (if kd y = some .local then cm else fun z => if z = y then some v else cm z) n2 hvs (by simpa using hl) e
    exact ⟨List.mem_cons_of_mem _ q1, List.mem_cons_of_mem _ q2, v', q3, q4, q5⟩
noncomputable def fnOk (scope : Scope) (xs : List Str) : Bool := scope.names.all (fun y => y.2 != .free) && (xs.all fun x => scope.names.lookup x == some .local || scope.names.lookup x == some .cell) && decide xs.Nodup
inductive RetIs : Fl -> D -> Prop
 | ret (d) : RetIs (.ret d) d
 | next : RetIs .next .none
theorem lookup_notfree : ∀ {l : List (Str × NameKind)} {x : Str}, l.all (fun y => y.2 != .free) = true -> l.lookup x ≠ some .free
 | [], _, _ => by simp
 | (y, k) :: r, x, h => by
  simp only [List.all_cons, Bool.and_eq_true] at h
  by_cases hx : x = y
  · subst hx
    simp only [List.lookup, beq_self_eq_true]
    intro q; cases q; simp at h
  · have hb : (x == y) = false := by simpa using hx
    simp only [List.lookup, hb]
    exact lookup_notfree h.2
structure Fn (G : Gl) (a : Addr) (fd : FuncData) (body : List Stmt) (xs : List Str) : Prop where
 at_ : ∃ o, G.K.lookup a = some o ∧ o.data = .func fd
 body : fd.body = .stmts body
 glob : fd.globals = mainGlobals
 blt : fd.builtins = builtinsNs
 clo : fd.closure = []
 co : fd.scope.isCoroutine = false
 gen : fd.scope.isGenerator = false
 kind : fd.scope.kind = .function
 code : codeIn G.K fd.code fd.qualname = true
 bind : ∀ vs : List Value, vs.length = xs.length -> bindArgs fd ⟨vs, []⟩ = pure (xs.zip vs)
 ok : fnOk fd.scope xs = true
theorem Fn.fk {a : Addr} {fd : FuncData} {body : List Stmt} {xs : List Str} (F : Fn G a fd body xs) : FK G (.ref a) := (by obtain ⟨o, h1, h2⟩ := F.at_; exact .fn a o fd h1 h2)
theorem cal_fn {a : Addr} {fd : FuncData} {body : List Stmt} {xs : List Str} {ds : List D} {d : D} (F : Fn G a fd body xs) (hk : k < 40) (hlen : ds.length = xs.length) (hclean : D.cleanL ds = true)
 (hex : Exs G fd.scope (k + 1) ⟨xs.zip ds, []⟩ body (fun fl σ' => ∃ d', RetIs fl d' ∧ frz σ'.own 3 d' = d)) (hd : d.clean = true) : Cal G k σ (.ref a) ds d := by
 intro c μ A s vs hA r hv
 obtain ⟨o, ho, hdata⟩ := F.at_
 have hok := F.ok
 simp only [fnOk, Bool.and_eq_true, decide_eq_true_eq] at hok
 obtain ⟨⟨hnf, hpar⟩, hnd⟩ := hok
 have hvl : vs.length = xs.length := by rw [← hv.length, hlen]
 refine wp_kp (wpAny_call (codeAny_call_function hA.room (r.topG.k _ _ ho) hdata F.co F.gen F.body (codeRec_of r.topG.k F.code) ?_))
 rw [F.bind vs hvl, F.clo]
 have zipk : ∀ (l : List Value), ∀ x ∈ xs.zip l, x.1 ∈ xs := fun l x hx => (List.of_mem_zip hx).1
 refine wpAny_pure (wpAny_mono (wpAny_toks_of (Nat.le_refl s.toks) (wpAny_newFunctionEnv_cells (Q := fun env s' => env = newEnv fd.scope s.heap.objs.size fd.globals (cellsFrom (s.heap.objs.size + 1) fd.scope.names []) (fd.qualname ++ ".<locals>.") (some a) fd.code none fd.builtins ∧
  InCallC s env.locals (bindL env.kindOf (xs.zip vs) fun _ => none) env.cells (bindC env.kindOf (xs.zip vs) fun _ => none) s') (E := fun _ _ => False) F.kind (fun x hx => ?_) fun env he s' X => ⟨he, X⟩)) (fun env s1 ⟨htk, he, X⟩ => ?_) fun _ _ f => f.2.elim)
 · have := List.all_eq_true.mp hpar _ (zipk vs x hx)
   rcases Bool.or_eq_true_iff.mp this with q | q
   · exact .inl (by simpa using q)
   · have q' : fd.scope.names.lookup x.1 = some .cell := by simpa using q
     exact .inr ⟨q', Mine.cellsFrom_some _ _ _ _ (.inl (mem_of_lookup q'))⟩
 have hloc : env.locals = s.heap.objs.size := by rw [he]; rfl
 have hsc : env.scope = fd.scope := by rw [he]; rfl
 refine ⟨r.topG.nolimit.keeps X.toInCall.keep, codeAny_func ?_⟩
 let c' : Cx := { env := env, O := c.all μ, base := fun b o => s.heap.get? b = some o, gb := fun g x => s.gens[g]? = some x, os := s.os, mutc := env.cells.filterMap fun y => env.cells.lookup y.1, fm := true }
 have mutge : ∀ b, c'.mut [] b -> s.heap.objs.size ≤ b := fun b hb => by
  rcases hb with hb | hb | hb
  · cases hb
  · rw [hb, ← hloc]; exact Nat.le_refl _
  · obtain ⟨y, _, hy⟩ := List.mem_filterMap.mp hb
    exact Nat.le_of_lt (hloc ▸ X.above _ _ (mem_of_lookup hy))
 have new : ∀ b, c'.mut [] b -> s.heap.get? b = none := fun b hb => by
  cases e : s.heap.get? b with
  | none => rfl
  | some o => exact absurd (Heap.lt_size e) (Nat.not_lt.mpr (mutge b hb))
 obtain ⟨h1, tk1, hs1⟩ := X.toInCall.same
 have sos : s1.os = s.os := by rw [hs1]
 have sgens : s1.gens = s.gens := by rw [hs1]
 have hv1 : HoldsL (c'.all []) [] s1.heap ds vs := hv.clean (fun b o nb e q => by
  rcases q with q | q
  · exact nb q
  · rw [new b q] at e; cases e) (fun b o _ e => X.toInCall.keep b o e) hclean
 have hcl1 : ∀ d' ∈ ds, d'.firm = true := fun d' h => D.clean_firm (cleanL_iff.mp hclean d' h)
 have r1 : R G c' [] ⟨xs.zip ds, []⟩ s1 := by
  refine ⟨sos, Nat.lt_of_lt_of_le r.tok htk, by rw [sgens]; exact r.bare, fun g x e => by rw [sgens]; exact e, X.toInCall.keep, fun h hh => r.topG.keeps hh, fun b hb => r.allAt hb, rfl, List.nodup_nil, fun b hb => ⟨fun q => ?_, fun o q => ?_⟩, ?_, ?_, (fun n items e => by cases e), ?_, ?_, ?_, fun _ => X.apart, ?_, fun _ => ⟨fun x d' e => ?_, fun n l e => by cases e⟩, fun _ x hx => ?_, fun _ x hx => ?_⟩
  · obtain ⟨o, ho⟩ := r.allAt q
    rw [new b hb] at ho; cases ho
  · have q' : s.heap.get? b = some o := q
    rw [new b hb] at q'; cases q'
  · refine ⟨_, X.toInCall.ns, fun x d' e hkx => ?_⟩
    obtain ⟨_, _, v, q1, q2, _⟩ := bind_args (kd := env.kindOf) xs ds vs (fun _ => none) (fun _ => none) hnd hv1 hlen.symm e
    exact ⟨v, q2 hkx, q1⟩
  · intro x d' e hkx
    obtain ⟨_, _, v, q1, _, q3⟩ := bind_args (kd := env.kindOf) xs ds vs (fun _ => none) (fun _ => none) hnd hv1 hlen.symm e
    have hkc : env.kindOf x = some .cell := by
     rcases hkx with h | h
     · exact h
     · have : env.scope.names.lookup x = some .free := h
       rw [hsc] at this
       exact absurd this (lookup_notfree hnf)
    have hmem : (x, NameKind.cell) ∈ fd.scope.names := by
     have : env.scope.names.lookup x = some .cell := hkc
     rw [hsc] at this
     exact mem_of_lookup this
    have := Mine.cellsFrom_some fd.scope.names (s.heap.objs.size + 1) [] x (.inl hmem)
    obtain ⟨ca, hca⟩ := Option.isSome_iff_exists.mp this
    have hca' : env.cells.lookup x = some ca := by rw [he]; exact hca
    refine ⟨ca, v, hca', ?_, q1⟩
    have := X.cell x ca hca'
    rwa [q3 (by rw [hkc]; simp)] at this
  · show env.scope.kind = _; rw [hsc]; exact F.kind
  · show env.globals = _; rw [he]; exact F.glob
  · show env.builtins = _; rw [he]; exact F.blt
  · intro b hb
    obtain ⟨y, _, hy⟩ := List.mem_filterMap.mp hb
    exact ⟨_, X.cell _ _ hy⟩
  · obtain ⟨_, q2, _⟩ := bind_args (kd := env.kindOf) xs ds vs (fun _ => none) (fun _ => none) hnd hv1 hlen.symm e
    exact hcl1 d' q2
  · have hmem : (x, NameKind.cell) ∈ fd.scope.names := by
     have : env.scope.names.lookup x = some .cell := hx
     rw [hsc] at this
     exact mem_of_lookup this
    have := Mine.cellsFrom_some fd.scope.names (s.heap.objs.size + 1) [] x (.inl hmem)
    obtain ⟨ca, hca⟩ := Option.isSome_iff_exists.mp this
    have hca' : env.cells.lookup x = some ca := by rw [he]; exact hca
    exact ⟨ca, hca', List.mem_filterMap.mpr ⟨_, mem_of_lookup hca', hca'⟩⟩
  · have : env.scope.names.lookup x = some .free := hx
    rw [hsc] at this
    exact lookup_notfree hnf this
 have hA' : Aok (k + 1) (A.deeper env) := hA.deep hk
 refine wpAny_mono (hex c' [] _ s1 hsc rfl hA' r1) (fun f s2 hq => ?_) fun _ _ f => f.elim
 obtain ⟨fl, σ', μ', ⟨d', hr, hfd⟩, r2, hf⟩ := hq
 have kp : Kp0 s s2 := ⟨fun b o e => r2.base b o e, r2.os, fun _ => r2.bare, fun g x e => r2.gens g x e⟩
 subst hfd
 cases hr with
 | ret d' =>
  obtain ⟨_, v, rfl, hv'⟩ := hf
  exact ⟨kp, r2.frz (μ' := μ) 3 d' v hd hv'⟩
 | next =>
  cases hf
  exact ⟨kp, rfl⟩
end
end
section
theorem ints_of {O : Addr -> Prop} {μ : List Addr} {h : Heap} : ∀ (ns : List Int) (vs : List Value), HoldsL O μ h (ns.map .int) vs -> ∃ xs : List (Int × Tok), vs = xs.map (fun p => .int p.1 p.2) ∧ xs.map (·.1) = ns
 | [], [], _ => ⟨[], rfl, rfl⟩
 | n :: r, v :: vs, ⟨⟨t, e⟩, y⟩ => by
  obtain ⟨xs, e1, e2⟩ := ints_of r vs y
  exact ⟨(n, t) :: xs, by rw [e, e1]; rfl, by rw [List.map_cons, e2]⟩
 | [], _ :: _, e => e.elim
 | _ :: _, [], e => e.elim
theorem strs_of {O : Addr -> Prop} {μ : List Addr} {h : Heap} : ∀ (ns : List (List Nat)) (vs : List Value), HoldsL O μ h (ns.map .str) vs -> ∃ xs : List (Str × Tok), vs = strValues xs ∧ xs.map (·.1) = ns.map toS
 | [], [], _ => ⟨[], rfl, rfl⟩
 | n :: r, v :: vs, ⟨⟨t, e⟩, y⟩ => by
  obtain ⟨xs, e1, e2⟩ := strs_of r vs y
  exact ⟨(toS n, t) :: xs, by rw [e, e1]; rfl, by rw [List.map_cons, e2]; rfl⟩
 | [], _ :: _, e => e.elim
 | _ :: _, [], e => e.elim
theorem strs_to {O : Addr -> Prop} {μ : List Addr} {h : Heap} : ∀ (xs : List (Str × Tok)) (ns : List (List Nat)), xs.map (·.1) = ns.map toS -> HoldsL O μ h (ns.map .str) (strValues xs)
 | [], [], _ => trivial
 | (x, t) :: r, n :: ns, e => by
  rw [List.map_cons, List.map_cons] at e
  injection e with e1 e2
  exact ⟨⟨t, by rw [← e1]⟩, strs_to r ns e2⟩
 | [], _ :: _, e => by simp at e
 | _ :: _, [], e => by simp at e
theorem toS_inj {x y : List Nat} (h : toS x = toS y) : x = y := by
 have := congrArg (fun s => s.cps.toList) h
 simpa [toS] using this
noncomputable def unS (s : Str) : List Nat := s.cps.toList
theorem toS_unS (s : Str) : toS (unS s) = s := by simp [toS, unS]
noncomputable def decS (i : Int) : List Nat := unS (Str.ofString (toString i))
theorem chars_of {O : Addr -> Prop} {μ : List Addr} {h : Heap} : ∀ (x : List Nat) (vs : List Value), vs.length = x.length -> (∀ (j : Nat) (v : Value), vs[j]? = some v -> ∃ (c : Nat) (u : Tok), x[j]? = some c ∧ v = Value.str ⟨#[c]⟩ u) -> HoldsL O μ h (charsD x) vs
 | [], [], _, _ => trivial
 | c :: r, v :: vs, hl, hv => by
  obtain ⟨c', u, e1, e2⟩ := hv 0 v rfl
  cases e1
  exact ⟨⟨u, e2⟩, chars_of r vs (by simpa using hl) fun j w hj => by simpa using hv (j + 1) w (by simpa using hj)⟩
 | [], _ :: _, e, _ => by simp at e
 | _ :: _, [], e, _ => by simp at e
section
variable {G : Gl} {sc : Scope} {k : Nat} {σ : St}
theorem sum_l {d : D} {ns : List Int} (hd : σ.seq d = some (ns.map .int)) : Cal G k σ (.builtin "sum") [d] (.int ns.sum) := by
 intro c μ A s vs hA r hv
 obtain ⟨v, rfl, x⟩ := hv.one
 obtain ⟨a, us, rfl, hl, hh⟩ := r.seqv hd x
 obtain ⟨xs, e1, e2⟩ := ints_of ns us.toList hh
 have hl' : s.heap.IsList a (intItems xs.toArray) := by
  have : us = intItems xs.toArray := by
   apply Array.ext'
   rw [e1]; simp [intItems]
  rwa [← this]
 refine wp_kp (sum_intListG hA.1 hl' fun h' tk t' hk => ⟨Kp0.htok hk, t', ?_⟩)
 rw [preSum_eq, List.take_of_length_le (by simp), e2]
theorem range1 {a : Int} : Cal G k σ (.type "range") [.int a] (.rng 0 a) := by
 intro c μ A s vs hA r hv
 obtain ⟨v, rfl, t, rfl⟩ := hv.one
 refine wp_kp (call_range_1 ?_)
 exact ⟨Kp0.push _ _ _, _, rfl, r.fresh (fresh_size _), _, _, _, Heap.get?_push_size _ rfl⟩
theorem range2 {a b : Int} : Cal G k σ (.type "range") [.int a, .int b] (.rng a b) := by
 intro c μ A s vs hA r hv
 obtain ⟨v, u, rfl, ⟨t, rfl⟩, ⟨t2, rfl⟩⟩ := hv.two
 refine wp_kp (call_range_2 ?_)
 exact ⟨Kp0.push _ _ _, _, rfl, r.fresh (fresh_size _), _, _, _, Heap.get?_push_size _ rfl⟩
theorem list_s {x : List Nat} (hz : x.length ≤ 16777216) : CalN G k σ (.type "list") [.str x] (charsD x) := by
 intro c μ A s vs hA r hv
 obtain ⟨v, rfl, t, rfl⟩ := hv.one
 refine wpAny_mono (wp_kp (P := fun v s' => NewL c μ s s' (charsD x) v) (call_list_str (hn := by rw [sizeLine_eq]; simpa [toS] using hz) hA.1 (toS x) t fun h' tk acc' c' hk ho hit => ⟨Kp0.htok hk, _, acc', rfl, fresh_size _, ⟨c', ho⟩, ?_⟩)) (fun v s' h => h) fun _ _ f => f
 obtain ⟨hs, hi⟩ := hit
 have hs' : acc'.toList.length = x.length := by simp only [Array.length_toList]; rw [hs]; simp [toS]
 exact chars_of x acc'.toList hs' fun j v hj => by
  obtain ⟨c, u, e1, e2⟩ := hi j v (by simpa using hj)
  exact ⟨c, u, by simpa [toS] using e1, e2⟩
theorem list_l {d : D} {l : List D} (hd : σ.seq d = some l) (hz : l.length ≤ 16777216) (hcl : l.all (fun d => d.clean) = true) : CalN G k σ (.type "list") [d] l := by
 intro c μ A s vs hA r hv
 obtain ⟨v, rfl, x⟩ := hv.one
 obtain ⟨a, us, rfl, hl, hh⟩ := r.seqv hd x
 obtain ⟨o, ho, hc, n, hdd⟩ := hl
 have hlen : l.length = us.size := by simpa using hh.length
 refine wpAny_mono (wp_kp (P := fun v s' => NewL c μ s s' l v) (call_list_seq (hsz := by rw [sizeLine_eq, ← hlen]; exact hz) a (.inl rfl) ho hc hdd fun h' c' hk ho' => ⟨Kp0.htok (t := s.toks) hk, _, us, rfl, fresh_size _, ⟨c', ho'⟩, ?_⟩)) (fun v s' h => h) fun _ _ f => f
 exact (hh.avoid (fresh_size _)).keep hk
theorem str_i {i : Int} (hi : i.natAbs.log2 < 1920) : Cal G k σ (.type "str") [.int i] (.str (decS i)) := by
 intro c μ A s vs hA r hv
 obtain ⟨v, rfl, t, rfl⟩ := hv.one
 exact P.str_of_int hi ⟨Kp.tok s _, _, by rw [decS, toS_unS]⟩
theorem abs_i {i : Int} : Cal G k σ (.builtin "abs") [.int i] (.int (if i < 0 then -i else i)) := by
 intro c μ A s vs hA r hv
 obtain ⟨v, rfl, t, rfl⟩ := hv.one
 exact wp_kp (call_abs_int fun u tk => ⟨Kp0.tok s tk, u, rfl⟩)
theorem int_s {x : List Nat} {n : Int} (hn : PySem.intText? (toS x) = some n) (hl : x.length ≤ 640) : Cal G k σ (.type "int") [.str x] (.int n) := by
 intro c μ A s vs hA r hv
 obtain ⟨v, rfl, t, rfl⟩ := hv.one
 exact KIN.call_text hn (by simpa [toS, Str.length] using hl) ⟨Kp.tok s _, _, rfl⟩
theorem m_endswith {x y : List Nat} : Cal G k σ (.builtin "str.endswith") [.str x, .str y] (.bool (Txt.endswith (toS x) (toS y))) := by
 intro c μ A s vs hA r hv
 obtain ⟨v, u, rfl, ⟨t, rfl⟩, ⟨t2, rfl⟩⟩ := hv.two
 exact SC.endswith ⟨Kp.refl s, rfl⟩
theorem m_count {x y : List Nat} : Cal G k σ (.builtin "str.count") [.str x, .str y] (.int (Txt.count (toS x) (toS y))) := by
 intro c μ A s vs hA r hv
 obtain ⟨v, u, rfl, ⟨t, rfl⟩, ⟨t2, rfl⟩⟩ := hv.two
 exact SC.count ⟨Kp.tok s _, _, rfl⟩
theorem m_rstrip {x y : List Nat} (hz : x.length ≤ 16777216) : Cal G k σ (.builtin "str.rstrip") [.str x, .str y] (.str (unS (Txt.rstripChars (toS x) (toS y)))) := by
 intro c μ A s vs hA r hv
 obtain ⟨v, u, rfl, ⟨t, rfl⟩, ⟨t2, rfl⟩⟩ := hv.two
 exact wp_kp (SC.rstripChars (hsz := by rw [sizeLine_eq, toS_length]; exact hz) fun t' k => ⟨Kp0.tok s k, t', by rw [toS_unS]⟩)
theorem m_join {x : List Nat} {d : D} {l : List (List Nat)} (hd : σ.seq d = some (l.map .str)) (hok : JoinOk (toS x) (l.map toS) = true) : Cal G k σ (.builtin "str.join") [.str x, d] (.str (unS (Txt.join (toS x) (l.map toS)))) := by
 intro c μ A s vs hA r hv
 obtain ⟨v, u, rfl, ⟨t, rfl⟩, x2⟩ := hv.two
 obtain ⟨a, us, rfl, hl, hh⟩ := r.seqv hd x2
 obtain ⟨xs, e1, e2⟩ := strs_of l us.toList hh
 have : us = (strValues xs).toArray := by rw [← e1]
 rw [this] at hl
 exact wp_kp (SC.join hl e2 hok fun t' k => ⟨Kp0.tok s k, t', by rw [toS_unS]⟩)
theorem m_split {x : List Nat} {ws : List (List Nat)} (hz : x.length ≤ 16777216) (hw : Txt.words (toS x) = ws.map toS) (hz2 : (Builtin.Str.spaceWords (toS x) ((toS x).length + 1)).length ≤ sizeLine) : Cal G k σ (.builtin "str.split") [.str x] (.bor (ws.map .str)) := by
 intro c μ A s vs hA r hv
 obtain ⟨v, rfl, t, rfl⟩ := hv.one
 refine wp_kp (SCH.split0 (P := fun h => ∀ b o, s.heap.get? b = some o -> h.get? b = some o) (fun h ob hk b o e => Heap.get?_push_of_some _ (hk b o e)) (fun _ _ e => e) (fun D l h' k ht hk hl => ⟨Kp0.htok hk, D, _, rfl, hl, ?_⟩) (by rw [sizeLine_eq, toS_length]; exact hz) hz2)
 exact strs_to l ws (ht.trans hw)
end
end
section
mutual
noncomputable def D.pd : D -> PyData
 | .bool b => .bool b
 | .int i => .int i
 | .str x => .str (toS x)
 | .tup l => .tuple (D.pdL l)
 | .lst l => .list (D.pdL l)
 | .bor l => .list (D.pdL l)
 | .new l => .list (D.pdL l)
 | _ => .none
noncomputable def D.pdL : List D -> List PyData
 | [] => []
 | d :: r => d.pd :: D.pdL r
end
mutual
noncomputable def D.isP : D -> Bool
 | .none => true
 | .bool _ => true
 | .int _ => true
 | .str _ => true
 | .tup l => D.isPL l
 | .lst l => D.isPL l
 | .bor l => D.isPL l
 | .new l => D.isPL l
 | _ => false
noncomputable def D.isPL : List D -> Bool
 | [] => true
 | d :: r => d.isP && D.isPL r
end
mutual
theorem reads_of {O : Addr -> Prop} {μ : List Addr} {h : Heap} : ∀ {d : D} {v : Value}, d.isP = true -> Holds O μ h d v -> ∃ as, Reads h v d.pd as
 | .none, _, _, e => ⟨[], by rw [show _ = Value.none from e]; exact Reads.none⟩
 | .bool b, _, _, e => ⟨[], by rw [show _ = Value.bool b from e]; exact Reads.bool b⟩
 | .int i, _, _, ⟨t, e⟩ => ⟨[], by rw [e]; exact Reads.int i t⟩
 | .str x, _, _, ⟨t, e⟩ => ⟨[], by rw [e]; exact Reads.str _ t⟩
 | .tup l, _, f, ⟨a, vs, e, _, ⟨n, t⟩, hl⟩ => by
  obtain ⟨as, r⟩ := readsL_of (ds := l) f hl
  exact ⟨as, by rw [e]; exact Reads.tuple t rfl rfl r⟩
 | .lst l, _, f, ⟨a, vs, e, _, ⟨o, t1, t2, n, t3⟩, hl⟩ => by
  obtain ⟨as, r⟩ := readsL_of (ds := l) f hl
  exact ⟨a :: as, by rw [e]; exact Reads.list t1 t2 t3 r⟩
 | .bor l, _, f, ⟨a, vs, e, ⟨o, t1, t2, n, t3⟩, hl⟩ => by
  obtain ⟨as, r⟩ := readsL_of (ds := l) f hl
  exact ⟨a :: as, by rw [e]; exact Reads.list t1 t2 t3 r⟩
 | .new l, _, f, ⟨a, vs, e, _, ⟨n, t⟩, hl⟩ => by
  obtain ⟨as, r⟩ := readsL_of (ds := l) f hl
  exact ⟨a :: as, by rw [e]; exact Reads.list t rfl rfl r⟩
 | .val _, _, f, _ => nomatch f
 | .rng _ _, _, f, _ => nomatch f
 | .dct _, _, f, _ => nomatch f
 | .h _, _, f, _ => nomatch f
theorem readsL_of {O : Addr -> Prop} {μ : List Addr} {h : Heap} : ∀ {ds : List D} {vs : List Value}, D.isPL ds = true -> HoldsL O μ h ds vs -> ∃ as, ReadsAll h vs (D.pdL ds) as
 | [], [], _, _ => ⟨_, ReadsAll.nil⟩
 | _ :: _, _ :: _, f, ⟨e, r⟩ => by
  have f' := Bool.and_eq_true_iff.mp f
  obtain ⟨as, x⟩ := reads_of f'.1 e
  obtain ⟨bs, y⟩ := readsL_of f'.2 r
  exact ⟨_, ReadsAll.cons x y⟩
 | [], _ :: _, _, e => e.elim
 | _ :: _, [], _, e => e.elim
end
noncomputable def St.pd (σ : St) (d : D) : Option PyData := match d with
 | .h k => match σ.own[k]? with
  | some l => if D.isPL l then some (.list (D.pdL l)) else none
  | none => none
 | d => if d.isP then some d.pd else none
section
variable {G : Gl} {sc : Scope} {k : Nat} {σ : St}
set_option tactic.hygienic true in
theorem R.reads {c : Cx} {μ : List Addr} {s : Shared} (r : R G c μ σ s) {d : D} {p : PyData} {v : Value} (h : σ.pd d = some p) (x : Holds (c.all μ) μ s.heap d v) : ∃ as, Reads s.heap v p as := by
 have gen : ∀ {d : D} {v : Value}, (if d.isP then some d.pd else none) = some p -> Holds (c.all μ) μ s.heap d v -> ∃ as, Reads s.heap v p as := fun {d v} h x => by
  split at h
  · rename_i hp; cases h; exact reads_of hp x
  · cases h
 cases d with
 | h k' =>
  obtain ⟨a, e1, rfl⟩ := x
  simp only [St.pd] at h
  cases hl : σ.own[k']? with
  | none => rw [hl] at h; cases h
  | some l =>
   rw [hl] at h
   simp only at h
   split at h
   · rename_i hp
     cases h
     obtain ⟨a', vs, q1, ⟨n, q2⟩, q3⟩ := r.own k' l hl
     rw [e1] at q1; cases q1
     obtain ⟨as, rd⟩ := readsL_of hp q3
     exact ⟨_, Reads.list q2 rfl rfl rd⟩
   · cases h
 | _ => refine gen ?_ x; exact h
theorem Aok.u64 {A : Around} (h : Aok k A) : A.units + 64 < cLine := by have := h.2.2.1; have := h.2.2.2; unfold cLine; omega
theorem cmp_eq_pd {d e : D} {p q : PyData} {b : Bool} (hd : σ.pd d = some p) (he : σ.pd e = some q) (sp : SeqAt.shaped p = true) (sq : SeqAt.shaped q = true) (hb : PyData.eqv p q = b) : Two G sc k σ (compareOp .Eq) d e (.bool b) := by
 intro c μ A s v1 v2 hc hA r x1 x2
 obtain ⟨as, r1⟩ := r.reads hd x1
 obtain ⟨bs, r2⟩ := r.reads he x2
 exact eq_dataH r1 r2 sp sq hA.u64 ⟨Kp.refl s, by rw [hb]; rfl⟩
theorem cmp_ne_pd {d e : D} {p q : PyData} {b : Bool} (hd : σ.pd d = some p) (he : σ.pd e = some q) (sp : SeqAt.shaped p = true) (sq : SeqAt.shaped q = true) (hb : PyData.eqv p q = b) : Two G sc k σ (compareOp .NotEq) d e (.bool (!b)) := by
 intro c μ A s v1 v2 hc hA r x1 x2
 obtain ⟨as, r1⟩ := r.reads hd x1
 obtain ⟨bs, r2⟩ := r.reads he x2
 exact ne_dataH r1 r2 sp sq hA.u64 ⟨Kp.refl s, by rw [hb]; rfl⟩
theorem cmp_in_ints {d : D} {ns : List Int} {i : Int} (hd : σ.seq d = some (ns.map .int)) : Two G sc k σ (compareOp .In) (.int i) d (.bool (ns.contains i)) := by
 rintro c μ A s v1 v2 hc hA r ⟨t, rfl⟩ x2
 obtain ⟨a, us, rfl, hl, hh⟩ := r.seqv hd x2
 obtain ⟨xs, e1, e2⟩ := ints_of ns us.toList hh
 have hi : ∀ y ∈ us, ∃ j u, y = Value.int j u := fun y hy => by
  have : y ∈ us.toList := Array.mem_toList_iff.mpr hy
  rw [e1] at this
  obtain ⟨p, _, rfl⟩ := List.mem_map.mp this
  exact ⟨p.1, p.2, rfl⟩
 refine SeqInW.in_listW (fun y => match y with | .int j _ => j == i | _ => false) (fun y hy => ?_) hl ⟨Kp.refl s, ?_⟩
 · obtain ⟨j, u, rfl⟩ := hi y hy
   exact MeetsSeq.EqGives.int j i u t
 · have : (us.any fun y => match y with | .int j _ => j == i | _ => false) = ns.contains i := by
    rw [← Array.any_toList, e1, ← e2]
    clear e1 e2 hi hh hl
    induction xs with
    | nil => rfl
    | cons p r ih =>
     simp only [List.map_cons, List.any_cons, List.contains_cons, ih]
     congr 1
     exact Bool.beq_comm ..
   rw [this]; rfl
theorem cmp_notIn_str {x y : List Nat} : Two G sc k σ (compareOp .NotIn) (.str y) (.str x) (.bool (!Txt.contains (toS x) (toS y))) := by
 rintro c μ A s v1 v2 hc hA r ⟨t, rfl⟩ ⟨u, rfl⟩; exact SB.notContains ⟨Kp.refl s, rfl⟩
theorem cmp_is_none {d : D} {b : Bool} (hd : ∀ (O : Addr -> Prop) μ h v, Holds O μ h d v -> (v == .none) = b) : Two G sc k σ (compareOp .Is) d .none (.bool b) := by
 intro c μ A s v1 v2 hc hA r x1 x2
 have : v2 = .none := x2
 subst this
 exact PyProof.Rows.is_none_gen ⟨Kp.refl s, by rw [hd _ _ _ _ x1]; rfl⟩
theorem bin_add_list {d e : D} {l m : List D} (hd : σ.seq d = some l) (he : σ.seq e = some m) (hz : l.length + m.length ≤ 16777216) : TwoN G sc k σ (binaryOp .Add) d e (l ++ m) := by
 intro c μ A s v1 v2 hc hA r x1 x2
 obtain ⟨a, us, rfl, ⟨⟨c1, d1, da1, s1⟩, q1, q2, n1, q3⟩, hh1⟩ := r.seqv hd x1
 obtain ⟨b, ws, rfl, ⟨⟨c2, d2, da2, s2⟩, w1, w2, n2, w3⟩, hh2⟩ := r.seqv he x2
 have z1 : l.length = us.size := by simpa using hh1.length
 have z2 : m.length = ws.size := by simpa using hh2.length
 simp only at q2 q3 w2 w3
 subst q2 q3 w2 w3
 refine concat_meets (T := "list") ⟨_, q1, rfl⟩ ⟨_, w1, rfl⟩ noFill_list_add seq_list_add F.slot_list_add F.entry_list_add (F.args_list_add_2 _ _) (list_addW a b us ws n1 n2 d1 d2 s1 s2 (by rw [sizeLine_eq]; omega)) ⟨q1, w1, ?_⟩
 have kp := Kp.push s { cls := .type "list", data := .seq (us ++ ws) } s.toks
 refine ⟨kp, _, us ++ ws, rfl, fresh_size _, ⟨_, Heap.get?_push_size _ rfl⟩, ?_⟩
 rw [Array.toList_append]
 exact ((hh1.append hh2).avoid (fresh_size _)).keep kp.heap
theorem flatten_map {O : Addr -> Prop} {μ : List Addr} {h : Heap} {l : List D} {vs : List Value} (x : HoldsL O μ h l vs) : ∀ n : Nat, HoldsL O μ h (List.replicate n l).flatten (List.replicate n vs).flatten
 | 0 => trivial
 | n + 1 => by rw [List.replicate_succ, List.replicate_succ, List.flatten_cons, List.flatten_cons]; exact x.append (flatten_map x n)
theorem bin_mul_list {d : D} {l : List D} {i : Int} (hd : σ.seq d = some l) (hlo : -(2 ^ 63 : Int) ≤ i) (hhi : i < 2 ^ 63) (hz : l.length * i.toNat ≤ 256) : TwoN G sc k σ (binaryOp .Mult) d (.int i) (List.replicate i.toNat l).flatten := by
 rintro c μ A s v1 v2 hc hA r x1 ⟨u, rfl⟩
 obtain ⟨a, us, rfl, ⟨⟨c1, d1, da1, s1⟩, q1, q2, n1, q3⟩, hh1⟩ := r.seqv hd x1
 have z1 : l.length = us.size := by simpa using hh1.length
 simp only at q2 q3
 subst q2 q3
 have hsz' : us.size * i.toNat ≤ 256 := by rw [← z1]; exact hz
 refine wpAny_binaryOp_repeat_ref (T := "list") (U := "int") (by decide) ⟨_, q1, rfl⟩ (fun s' => typeIs_int s' i u) noFill_list_mul F.fills_int_mul F.slot_int_rmul repeat_list F.slot_int_index.lookup
  (call_meets F.slot_int_rmul (typeIs_int s i u) F.entry_int_rmul (F.args_int_rmul_2 _ _) (lm_int_rmul_list_any i u a us n1 d1 s1)
   ⟨q1, rfl, ⟨_, q1, rfl⟩, call_meets F.slot_list_mul ⟨_, q1, rfl⟩ F.entry_list_mul (F.args_list_mul_2 _ _)
    (lm_list_mul_any a us n1 d1 s1 i u (by simp [Builtin.List.listFitsIndex]; omega) (by omega) (by simp [Builtin.List.listTooLong, sizeLine]; exact dl1 0 16777216 0 256 hsz' rfl))
    ⟨q1, ?_⟩⟩)
 have ef : (List.foldl (fun x1 x2 => x1 ++ x2) #[] (List.replicate (if us.isEmpty = true then 0 else i.toNat) us)) = (List.replicate i.toNat us.toList).flatten.toArray := by
  exact listMul_foldl_if _ _
 rw [ef]
 have kp := Kp.push s { cls := .type "list", data := .seq (List.replicate i.toNat us.toList).flatten.toArray } s.toks
 refine ⟨kp, _, _, rfl, fresh_size _, ⟨_, Heap.get?_push_size _ rfl⟩, ?_⟩
 exact ((flatten_map hh1 i.toNat).avoid (fresh_size _)).keep kp.heap
theorem bin_mul_str {x : List Nat} {i : Int} (hok : MulOk (toS x) i) : Two G sc k σ (binaryOp .Mult) (.str x) (.int i) (.str (unS (Txt.mul (toS x) i))) := by
 rintro c μ A s v1 v2 hc hA r ⟨t, rfl⟩ ⟨u, rfl⟩
 exact wp_kp (SB.mul hok fun t' k => ⟨Kp0.tok s k, t', by rw [toS_unS]⟩)
end
end
section
theorem HoldsL.set {O : Addr -> Prop} {μ : List Addr} {h : Heap} {d : D} {v : Value} (y : Holds O μ h d v) : ∀ {ds : List D} {vs : List Value} (_ : HoldsL O μ h ds vs) (i : Nat), HoldsL O μ h (ds.set i d) (vs.set i v)
 | [], [], _, _ => trivial
 | _ :: _, _ :: _, ⟨_, r⟩, 0 => ⟨y, r⟩
 | _ :: _, _ :: _, ⟨e, r⟩, i + 1 => ⟨e, HoldsL.set y r i⟩
 | [], _ :: _, e, _ => e.elim
 | _ :: _, [], e, _ => e.elim
theorem HoldsL.take {O : Addr -> Prop} {μ : List Addr} {h : Heap} : ∀ {ds : List D} {vs : List Value} (_ : HoldsL O μ h ds vs) (i : Nat), HoldsL O μ h (ds.take i) (vs.take i)
 | [], [], _, i => by simp; trivial
 | _ :: _, _ :: _, _, 0 => trivial
 | _ :: _, _ :: _, ⟨e, r⟩, i + 1 => ⟨e, HoldsL.take r i⟩
 | [], _ :: _, e, _ => e.elim
 | _ :: _, [], e, _ => e.elim
section
variable {G : Gl} {sc : Scope} {k : Nat} {σ : St}
inductive EvP (G : Gl) (sc : Scope) (k : Nat) (σ : St) : Option Expr -> Option Int -> Prop
 | none : EvP G sc k σ none none
 | some {e : Expr} {i : Int} (h : Ev G sc k σ e (.int i)) : EvP G sc k σ (some e) (some i)
theorem evP_wp {e : Option Expr} {o : Option Int} (h : EvP G sc k σ e o) {c : Cx} {μ : List Addr} {A : Around} {s : Shared} (hc : c.env.scope = sc) (hA : Aok k A) (r : R G c μ σ s) :
 wpAny (model G.prog G.w) A (evalPart e c.env) (fun v s' => Kp s s' ∧ ∃ l, v = partValue l ∧ l.map (·.1) = o) (fun _ _ => False) s := by
 cases h with
 | none => rw [evalPart_none]; exact wpAny_pure ⟨Kp.refl s, none, rfl, rfl⟩
 | some h =>
  rw [evalPart_some]
  exact wpAny_mono (h c μ A s hc hA r) (fun v s' hp => by obtain ⟨k1, t, e⟩ := hp; exact ⟨k1, some (_, t), e, rfl⟩) fun _ _ f => f
theorem ev_sliceS {e : Expr} {lo hi : Option Expr} {p pos : Pos} {x : List Nat} {i j : Option Int} (he : Ev G sc k σ e (.str x)) (h1 : EvP G sc k σ lo i) (h2 : EvP G sc k σ hi j) (hz : x.length ≤ 16777216)
 (ht : autoParam (∀ o r, letTemporaryGo e o r = pure ()) ir) : Ev G sc k σ (.Subscript e (.Slice lo hi none p) pos) (.str (unS (Txt.slice (toS x) i j))) := by
 intro c μ A s hc hA r
 refine wp_kp (wpAny_Subscript_str_slice (wpAny_mono (he c μ A s hc hA r) (fun v s1 ⟨k1, t, e1⟩ => wpAny_mono (evP_wp h1 hc hA (r.kp k1)) (fun vl s2 ⟨k2, l, e2, e3⟩ =>
  wpAny_mono (evP_wp h2 hc hA (r.kp (k1.trans k2))) (fun vu s3 ⟨k3, u, e4, e5⟩ => ?_) fun _ _ f => f) fun _ _ f => f) fun _ _ f => f) ht)
 refine ⟨toS x, t, l, u, e1, e2, e4, ?_⟩
 have e6 : sliceMade (toS x) t l u none = if ((1 : Int) == 1 && (Builtin.Str.strSliceIndices i j 1 (toS x).length).length == (toS x).length) = true then Made.val (.str (toS x) t) else Made.str ⟨((Builtin.Str.strSliceIndices i j 1 (toS x).length).filterMap ((toS x).cps[·]?)).toArray⟩ := by
  subst e3 e5; rfl
 rw [e6]
 refine post_val_or_str ⟨Nat.le_trans (Txt.slice_le (toS x) i j) (by rw [sizeLine_eq, toS_length]; exact hz), fun t' tk => ?_⟩
 have kp := (k1.trans k2).trans k3
 refine ⟨⟨fun b o e => Heap.get?_push_of_some _ (kp.heap b o e), kp.os, kp.bare, kp.gens⟩, t', ?_⟩
 rw [toS_unS]; rfl
noncomputable def pick (l : List D) (lo hi st : Option Int) : List D := (sliceRange (sliceBounds lo hi st l.length).1 (sliceBounds lo hi st l.length).2.1 (sliceBounds lo hi st l.length).2.2).filterMap (l[·]?)
theorem pick_holds {O : Addr -> Prop} {μ : List Addr} {h : Heap} {l : List D} {vs : List Value} (x : HoldsL O μ h l vs) : ∀ idx : List Nat, HoldsL O μ h (idx.filterMap (l[·]?)) (idx.filterMap (vs[·]?))
 | [] => trivial
 | i :: r => by
  have ih := pick_holds x r
  cases hd : l[i]? with
  | none =>
   have hv : vs[i]? = none := by rw [List.getElem?_eq_none_iff] at hd ⊢; rw [← x.length]; exact hd
   rw [List.filterMap_cons_none hd, List.filterMap_cons_none hv]; exact ih
  | some d =>
   obtain ⟨v, hv, hh⟩ := x.get hd
   rw [List.filterMap_cons_some hd, List.filterMap_cons_some hv]; exact ⟨hh, ih⟩
theorem evN_sliceL {e st : Expr} {lo hi : Option Expr} {p pos : Pos} {d : D} {l : List D} {i j : Option Int} {m : Int} (he : Ev G sc k σ e d) (hd : σ.seq d = some l) (h1 : EvP G sc k σ lo i) (h2 : EvP G sc k σ hi j) (h3 : Ev G sc k σ st (.int m)) (hm : m ≠ 0) (hz : l.length ≤ 16777216)
 (ht : autoParam (∀ o r, letTemporaryGo e o r = pure ()) ir) : EvN G sc k σ (.Subscript e (.Slice lo hi (some st) p) pos) (pick l i j (some m)) := by
 intro c μ A s hc hA r
 refine wpAny_Subscript_Slice_step (T := "list") slot_list_getitem.lookup (wpAny_mono (he c μ A s hc hA r) (fun o s₁ ⟨k1, x1⟩ => wpAny_Slice (wpAny_mono (evP_wp h1 hc hA (r.kp k1)) (fun vl s₂ ⟨k2, l1, e2, e3⟩ =>
  wpAny_mono (evP_wp h2 hc hA (r.kp (k1.trans k2))) (fun vu s₃ ⟨k3, u, e4, e5⟩ => ?_) fun _ _ e => e) fun _ _ e => e)) fun _ _ e => e) ht
 have kp := (k1.trans k2).trans k3
 rw [evalPart_some]
 refine wpAny_mono (h3 c μ A s₃ hc hA (r.kp kp)) (fun vs s4 hq => ?_) fun _ _ f => f
 obtain ⟨k4, t4, e7⟩ := hq
 have kp4 := kp.trans k4
 obtain ⟨a, us, rfl, hl, hh⟩ := (r.kp kp4).seqv hd (x1.keep ((k2.trans k3).trans k4).heap)
 have hlen : l.length = us.size := by simpa using hh.length
 have k5 := Kp.push s4 { cls := .type "slice", data := .fields #[vl, vu, vs] } s4.toks
 refine ⟨(hl.push _).typeIs, ?_⟩
 have part : ∀ {l1 : Option (Int × Tok)} {i : Option Int} {v : Value}, v = partValue l1 -> l1.map (·.1) = i -> IsPart v i := fun {l1 i v} h1 h2 => by
  subst h1 h2
  cases l1 with
  | none => exact .none
  | some q => exact .int _ _
 refine wpAny_getItem_list_slice (lo := i) (hi := j) (st := some m) (hl.push _) (Heap.IsSliceOf.new ..) (part e2 e3) (part e4 e5) (by rw [e7]; exact .int _ _) (by simpa using hm) ?_ (by rw [sizeLine_eq, ← hlen]; exact hz)
 have k6 := Kp.push { s4 with heap := s4.heap.push { cls := .type "slice", data := .fields #[vl, vu, vs] } } { cls := .type "list", data := .seq (slicePick us i j (some m)) } s4.toks
 refine ⟨(kp4.trans k5).trans k6, _, slicePick us i j (some m), rfl, none_of_kp (kp4.trans k5) (fresh_size _), ⟨_, Heap.get?_push_size _ rfl⟩, ?_⟩
 have e8 : (slicePick us i j (some m)).toList = (sliceRange (sliceBounds i j (some m) l.length).1 (sliceBounds i j (some m) l.length).2.1 (sliceBounds i j (some m) l.length).2.2).filterMap (us.toList[·]?) := by
  unfold slicePick
  rw [hlen]
  simp
 rw [e8]
 exact (((pick_holds hh _).keep k5.heap).avoid (fresh_size _)).keep k6.heap
theorem wp_constStr {M : Model} {A : Around} {E : Value -> Shared -> Prop} {x : Str} {n : Nat} {p : Pos} {env : Env} {s : Shared} {Q : Value -> Shared -> Prop} (h : Q (.str x s.toks) { s with toks := s.toks + 1 }) : wpAny M A (eval (.Constant (.str x) n p) env) Q E s := fun _ _ _ => h
theorem ev_replace {o : Expr} {y z : Str} {n1 n2 : Nat} {apos p p1 p2 : Pos} {x : List Nat} (ho : Ev G sc k σ o (.str x)) (hyz : (y == z) = false) (hb : x.length + (x.length + 1) * z.length ≤ 16777216)
 (hbase : autoParam (∀ env, attributeBase o (Str.ofString "replace") env (eval o env) = eval o env) ir)
 (hline : autoParam ((apos.endLine == p.line) = true) ir) : Ev G sc k σ (.Call (.Attribute o (Str.ofString "replace") apos) [.Constant (.str y) n1 p1, .Constant (.str z) n2 p2] [] p) (.str (unS (Txt.replace (toS x) y z))) := by
 intro c μ A s hc hA r
 refine wp_kp (wpAny_Call_method_lateS (hbase _) rfl hline (wpAny_mono (ho c μ A s hc hA r) (fun v s1 hq => ?_) fun _ _ f => f))
 obtain ⟨k1, x1⟩ := hq
 obtain ⟨t, rfl⟩ := x1
 refine ⟨"str", _, F.plainAttrs_str, F.slot_str_replace, F.type_str_replace, typeIs_str _ _ _, (fun _ e => nomatch e), ?_⟩
 refine Calls.callWith_builtin rfl (evalArgs_any rfl ?_)
 refine Calls.spliced_cons (x := eval (.Constant (.str y) n1 p1) c.env) (wp_constStr ?_)
 refine Calls.spliced_cons (x := eval (.Constant (.str z) n2 p2) c.env) (wp_constStr ?_)
 refine Calls.spliced_nil ?_
 have htk : s1.toks ≠ 0 := Nat.ne_of_gt (r.kp k1).tok
 refine SC.replace (x := toS x) htk (Nat.succ_ne_zero _) (Nat.ne_of_lt (Nat.lt_succ_self _)) hyz (by rw [toS_length]; exact hb) fun t' tk => ?_
 exact ⟨⟨k1.heap, k1.os, k1.bare, k1.gens⟩, t', by rw [toS_unS]⟩
theorem ex_try {body : List Stmt} {h0 : ExceptHandler} {hs : List ExceptHandler} {p : Pos} {Q : Fl -> St -> Prop} (h : Exs G sc k σ body Q) : Ex G sc k σ (.Try body (h0 :: hs) [] [] p) Q := by
 intro c μ A s hc hfm hA r
 refine wpAny_Try_except (wpAny_mono (h c μ A s hc hfm hA r) (fun f s1 hp => ?_) fun _ _ f => f.elim)
 cases f with
 | next => exact wpAny_execs_nil hp
 | brk => exact hp
 | cont => exact hp
 | ret v => exact hp
theorem sto_loc {c : Cx} {μ : List Addr} {A : Around} {s : Shared} {x : Str} {d : D} {v : Value} (hn : sc.names.lookup x = some .local) (hd : d.firm = true) (hc : c.env.scope = sc) (hfm : c.fm = true) (r : R G c μ σ s) (hv : Holds (c.all μ) μ s.heap d v) :
 wpAny (model G.prog G.w) A (storeName c.env x v) (fun _ s' => R G c μ (σ.set x d) s' ∧ Pres c μ s s') (fun _ _ => False) s := by
 obtain ⟨m, hm, hl⟩ := r.loc
 have hk := kindOf_of hc hn
 refine wpAny_storeName_local hk hm (fun h' hns hsb => ?_) (by show (c.env.scope.kind == .class || (c.env.scope.kind == .module && _)) = false; rw [r.kind]; rfl)
 have hL : c.mut μ c.env.locals := .inr (.inl rfl)
 have keep : ∀ {d : D} {v : Value}, d.firm = true -> Holds (c.all μ) μ s.heap d v -> Holds (c.all μ) μ h' d v := fun f y => y.firm (fun _ _ z _ => z) (fun b o hb e => (hsb.2 b (fun q => hb (q ▸ .inr hL))).trans e) f
 have F := r.firm hfm
 refine ⟨r.turn F hL hsb (Nat.le_succ _) (F.set x hd) rfl ⟨_, hns, fun y e hy hky => ?_⟩ (fun y e hy hky => ?_) (fun n l hnl => ?_) (fun b hb => ?_), Pres.of hL hsb⟩
 · simp only [St.set, setL_lookup] at hy
   by_cases hyx : y = x
   · simp only [if_pos hyx] at hy ⊢; cases hy; exact ⟨v, rfl, keep hd hv⟩
   · simp only [if_neg hyx] at hy ⊢
     obtain ⟨v', e1, e2⟩ := hl y e hy hky
     exact ⟨v', e1, keep (F.1 y e hy) e2⟩
 · simp only [St.set, setL_lookup] at hy
   by_cases hyx : y = x
   · subst hyx; rw [hk] at hky; rcases hky with h | h <;> cases h
   · rw [if_neg hyx] at hy
     obtain ⟨ca, v', e1, e2, e3⟩ := r.cell y e hy hky
     exact ⟨ca, v', e1, e2.sameBut hsb (cell_ne_ns e2 hm), keep (F.1 y e hy) e3⟩
 · obtain ⟨a, vs, e1, e2, e3⟩ := r.own n l hnl
   exact ⟨a, vs, e1, e2.extBut hsb.extBut (list_ne_ns e2 hm), e3.firm (fun _ _ z _ => z) (fun b o hb e => (hsb.2 b (fun q => hb (q ▸ .inr hL))).trans e) (F.2 n l hnl)⟩
 · obtain ⟨y, hy⟩ := r.mutc b hb
   exact ⟨y, hy.sameBut hsb (cell_ne_ns hy hm)⟩
theorem ex_aug {x : Str} {op : Operator} {e : Expr} {p p' : Pos} {d1 d2 d : D} (hn : sc.names.lookup x = some .local) (hv : σ.vars.lookup x = some d1) (he : Ev G sc k σ e d2) (ho : Two G sc k σ (inplaceOp op) d1 d2 d) (hd : d.firm = true) : Ex1 G sc k σ (.AugAssign (.Name x p') op e p) (σ.set x d) := by
 intro c μ A s hc hfm hA r
 obtain ⟨m, hm, h⟩ := r.loc
 obtain ⟨v, h1, h2⟩ := h x d1 hv (kindOf_of hc hn)
 refine wpAny_AugAssign_Name (wpAny_loadName_local r.kind (kindOf_of hc hn) hm h1 (wpAny_mono (he c μ A s hc hA r) (fun v2 s2 ⟨k2, x2⟩ => wpAny_mono (ho c μ A s2 v v2 hc hA (r.kp k2) (h2.keep k2.heap) x2) (fun u s3 hq => ?_) fun _ _ f => f) fun _ _ f => f))
 obtain ⟨k3, x3⟩ := hq
 exact wpAny_mono (sto_loc hn hd hc hfm (r.kp (k2.trans k3)) x3) (fun _ s4 hp => by obtain ⟨r4, _⟩ := hp; exact ⟨.next, _, μ, ⟨rfl, rfl⟩, r4, rfl⟩) fun _ _ f => f
theorem in_add_int {i j : Int} : Two G sc k σ (inplaceOp .Add) (.int i) (.int j) (.int (i + j)) := by
 rintro c μ A s v1 v2 hc hA r ⟨t, rfl⟩ ⟨u, rfl⟩; exact iadd_int ⟨Kp.tok s _, _, rfl⟩
theorem in_sub_int {i j : Int} : Two G sc k σ (inplaceOp .Sub) (.int i) (.int j) (.int (i - j)) := by
 rintro c μ A s v1 v2 hc hA r ⟨t, rfl⟩ ⟨u, rfl⟩; exact isub_int ⟨Kp.tok s _, _, rfl⟩
theorem ex_setitem {o i e : Expr} {p p' : Pos} {n : Nat} {l : List D} {j : Int} {d : D} (ho : Ev G sc k σ o (.h n)) (hn : σ.own[n]? = some l) (hi : Ev G sc k σ i (.int j)) (h0 : 0 ≤ j) (hlt : j < l.length) (hz : l.length < 2 ^ 63) (he : Ev G sc k σ e d) (hd : d.firm = true)
 (hs : autoParam (∀ env, swapsWith e (some (.Subscript o i p')) p.line env = pure false) ir) : Ex1 G sc k σ (.Assign [.Subscript o i p'] e p) { σ with own := σ.own.set n (l.set j.toNat d) } := by
 intro c μ A s hc hfm hA r
 refine wpAny_Assign_Subscript (wpAny_mono (he c μ A s hc hA r) (fun v s1 ⟨k1, x1⟩ => wpAny_mono (ho c μ A s1 hc hA (r.kp k1)) (fun ov s2 ⟨k2, x2⟩ => wpAny_mono (hi c μ A s2 hc hA (r.kp (k1.trans k2))) (fun iv s3 hq => ?_) fun _ _ f => f) fun _ _ f => f) fun _ _ f => f) (hs _)
 obtain ⟨k3, t, e3⟩ := hq
 have r3 := r.kp ((k1.trans k2).trans k3)
 obtain ⟨a, e1, rfl⟩ := x2
 subst e3
 obtain ⟨a', us, q1, ⟨n0, q2⟩, q3⟩ := r3.own n l hn
 rw [e1] at q1; cases q1
 have hlen : l.length = us.size := by simpa using q3.length
 refine ki_setAt (n := n0) q2 h0 (by omega) (by omega) ?_
 have hup : (s3.heap.update a (Obj.mapSeq (·.setIfInBounds j.toNat v))).PlainList a (us.setIfInBounds j.toNat v) := by
  refine ⟨if (us.setIfInBounds j.toNat v).size == us.size then n0 else n0 + 1, ?_⟩
  rw [Heap.get?_update_self _ q2 (by simp only [Obj.mapSeq]; rfl)]
  simp only [Obj.mapSeq]
 refine ⟨.next, _, μ, ⟨rfl, rfl⟩, r3.own_set (tk := s3.toks) hfm e1 (Heap.SameBut.update ..) (Nat.le_refl _) hup ?_ ?_, rfl⟩
 · rw [Array.toList_setIfInBounds]
   exact HoldsL.set (x1.keep (k2.trans k3).heap) q3 j.toNat
 · exact firmL_iff.mpr fun y hy => by
    rcases List.mem_or_eq_of_mem_set hy with h | h
    · exact firmL_iff.mp ((r3.firm hfm).2 n l hn) y h
    · rw [h]; exact hd
theorem ex_pop {o : Expr} {apos p q : Pos} {n : Nat} {l : List D} {d : D} (ho : Ev G sc k σ o (.h n)) (hn : σ.own[n]? = some (l ++ [d])) (hd : ∀ (O : Addr -> Prop) μ h v, Holds O μ h d v -> ∀ a, v ≠ .ref a) (hz : l.length < 16777216)
 (hbase : autoParam (∀ env, attributeBase o (Str.ofString "pop") env (eval o env) = eval o env) ir)
 (hfew : autoParam (∀ env, ((backTo p (starEach [] env)).all (fun x => !x.1) && (backToKw p (keywordEach [] env)).all (fun x => x.1.isSome) && decide (([] : List Expr).length + ([] : List Keyword).length + (if ([] : List Keyword).isEmpty then 0 else 1) < 30)) = true) ir)
 (hline : autoParam ((apos.endLine == p.line) = true) ir) (hsw : autoParam (∀ env, swapsWith (.Call (.Attribute o (Str.ofString "pop") apos) [] [] p) none q.line env = pure false) ir) :
 Ex1 G sc k σ (.Expr (.Call (.Attribute o (Str.ofString "pop") apos) [] [] p) q) { σ with own := σ.own.set n l } := by
 refine ex_ownMeth ho hn evL_nil PySem.F.slot_list_pop PySem.F.type_list_pop (fun c μ A s a vs us fm hA r e1 e2 e3 e4 => ?_) hbase hfew hline hsw
 rw [e4.nil]
 have hlen : l.length + 1 = vs.size := by simpa using e3.length
 obtain ⟨v, hv, hh⟩ := e3.get (i := l.length) (d := d) (by simp)
 obtain ⟨n0, e2'⟩ := e2
 have hv' : vs[vs.size - 1]? = some v := by rw [← hlen]; simpa using hv
 refine call_meets PySem.F.slot_list_pop ⟨_, e2', rfl⟩ PySem.F.entry_list_pop (PySem.F.args_list_pop_1 _) (MeetsSeq.list_pop_last a vs n0 v hv' (by rw [sizeLine_eq]; exact dl2 0 16777216 0 1 1 16777216 (Nat.le_of_eq hlen.symm) hz rfl)) ⟨e2', ?_⟩
 refine ⟨hd _ _ _ _ hh, ?_⟩
 have hup : (s.heap.update a (Obj.mapSeq fun xs => xs.eraseIdxIfInBounds (vs.size - 1))).PlainList a (vs.eraseIdxIfInBounds (vs.size - 1)) := by
  refine ⟨if (vs.eraseIdxIfInBounds (vs.size - 1)).size == vs.size then n0 else n0 + 1, ?_⟩
  rw [Heap.get?_update_self _ e2' (by simp only [Obj.mapSeq]; rfl)]
  simp only [Obj.mapSeq]
 refine r.own_set (tk := s.toks) fm e1 (Heap.SameBut.update ..) (Nat.le_refl _) hup ?_ ?_
 · have : (vs.eraseIdxIfInBounds (vs.size - 1)).toList = vs.toList.take l.length := by
    have hlt : vs.size - 1 < vs.size := by omega
    have h1 : vs.size - 1 = l.length := by exact Nat.le_antisymm (dl2 0 0 1 0 0 1 hlt (Nat.le_of_eq hlen.symm) rfl) (dl2 0 0 1 0 0 1 (Nat.le_of_eq hlen) (@sbk vs.size 1) rfl)
    have h2 : vs.toList.drop (l.length + 1) = [] := List.drop_eq_nil_iff.mpr (by simp; exact Nat.le_of_eq hlen.symm)
    rw [Array.eraseIdxIfInBounds, dif_pos hlt, Array.toList_eraseIdx, List.eraseIdx_eq_take_drop_succ, h1, h2, List.append_nil]
   rw [this]
   have := e3.take l.length
   simpa using this
 · have := (r.firm fm).2 n _ hn
   rw [firmL_append] at this
   exact (Bool.and_eq_true_iff.mp this).1
end
end
section
inductive NohAll : List (Str × D) -> Prop
 | nil : NohAll []
 | cons {x : Str} {d : D} {r : List (Str × D)} (h : d.noh = true) (t : NohAll r) : NohAll ((x, d) :: r)
theorem NohAll.get {l : List (Str × D)} (h : NohAll l) : ∀ x d, l.lookup x = some d -> d.noh = true := by
 induction h with
 | nil => intro x d e; cases e
 | @cons y d' r h t ih =>
  intro x d e
  by_cases hx : x = y
  · subst hx; simp [List.lookup] at e; subst e; exact h
  · have hb : (x == y) = false := by simpa using hx
    simp only [List.lookup, hb] at e
    exact ih x d e
mutual
theorem D.clean_noh : ∀ {d : D}, d.clean = true -> d.noh = true
 | .none, _ => rfl
 | .bool _, _ => rfl
 | .int _, _ => rfl
 | .str _, _ => rfl
 | .tup l, q => D.cleanL_nohL (l := l) q
 | .lst l, q => D.cleanL_nohL (l := l) q
 | .bor _, q => nomatch q
 | .new l, q => D.cleanL_nohL (l := l) q
 | .val _, _ => rfl
 | .rng _ _, _ => rfl
 | .dct _, _ => rfl
 | .h _, q => nomatch q
theorem D.cleanL_nohL : ∀ {l : List D}, D.cleanL l = true -> D.nohL l = true
 | [], _ => rfl
 | d :: r, q => by
  have h' : (d.clean && D.cleanL r) = true := q
  rw [Bool.and_eq_true] at h'
  show (d.noh && D.nohL r) = true
  rw [D.clean_noh h'.1, D.cleanL_nohL h'.2]; rfl
end
theorem clean_ints (ns : List Int) : D.cleanL (ns.map D.int) = true := cleanL_map _ (fun _ => rfl) _
theorem clean_strs (ns : List (List Nat)) : D.cleanL (ns.map D.str) = true := cleanL_map _ (fun _ => rfl) _
noncomputable def pickG {α : Type} (l : List α) (lo hi st : Option Int) : List α := (sliceRange (sliceBounds lo hi st l.length).1 (sliceBounds lo hi st l.length).2.1 (sliceBounds lo hi st l.length).2.2).filterMap (l[·]?)
theorem pick_map {α : Type} (f : α -> D) (l : List α) (lo hi st : Option Int) : pick (l.map f) lo hi st = (pickG l lo hi st).map f := by
 unfold pick pickG
 rw [List.length_map, List.map_filterMap]
 congr 1
 funext i
 simp
theorem pickG_map {α β : Type} (f : α -> β) (l : List α) (lo hi st : Option Int) : pickG (l.map f) lo hi st = (pickG l lo hi st).map f := by
 unfold pickG
 rw [List.length_map, List.map_filterMap]
 congr 1
 funext i
 simp
theorem pickG_len {α : Type} (l : List α) (lo hi st : Option Int) : (pickG l lo hi st).length ≤ l.length := by
 have h := slicePick_size_le (l.map fun _ => Value.none).toArray lo hi st
 have e : (slicePick (l.map fun _ => Value.none).toArray lo hi st).toList = pickG (l.map fun _ => Value.none) lo hi st := by
  unfold slicePick pickG
  simp
 have e2 : (slicePick (l.map fun _ => Value.none).toArray lo hi st).size = (pickG l lo hi st).length := by
  rw [← Array.length_toList, e, pickG_map, List.length_map]
 rw [e2] at h
 simpa using h
section
variable {G : Gl} {sc : Scope} {k : Nat} {σ : St}
theorem comp_is {α : Type} {elt tgt iter : Expr} {ifs : List Expr} {scope : Scope} {pos : Pos} {ow : Bool} {l : List D} (xs : List α) (itm : α -> D) (tv : α -> List (Str × D)) (p : α -> Bool) (f : α -> D)
 (hit : EvIt G sc k σ iter (xs.map itm) ow true) (how : ow = true ∨ ∀ it v, letOwnedTupleGo tgt it v = pure ()) (hl : (xs.filter p).map f = l)
 (ok : compOk sc σ scope = true) (hnoh : NohAll (fvOf σ scope.names))
 (hds : ∀ x ∈ xs, (itm x).firm = true) (hlen : xs.length ≤ 16777216) (ht : ∀ x ∈ xs, TV (rel sc scope) scope tgt (itm x) (tv x))
 (htest : ∀ x ∈ xs, TI G (rel sc scope) k ⟨tv x ++ fvOf σ scope.names, []⟩ ifs (p x))
 (helt : ∀ x ∈ xs, p x = true -> (f x).clean = true ∧ Ev G (rel sc scope) k ⟨tv x ++ fvOf σ scope.names, []⟩ elt (f x))
 (hs : autoParam (∀ env x, foldedSetIterable iter env x = pure x) ir) : Comp G sc k σ elt tgt iter ifs scope pos l false := by
 subst hl
 exact comp_of xs itm tv p f false hit how ok hnoh.get hds hlen ht htest (fun x hx hp => ⟨(helt x hx hp).1, fun _ => (helt x hx hp).2, fun h => nomatch h⟩) hs
theorem comp_map {α : Type} {elt tgt iter : Expr} {scope : Scope} {pos : Pos} {ow : Bool} {l : List D} (xs : List α) (itm : α -> D) (tv : α -> List (Str × D)) (f : α -> D)
 (hit : EvIt G sc k σ iter (xs.map itm) ow true) (how : ow = true ∨ ∀ it v, letOwnedTupleGo tgt it v = pure ()) (hl : xs.map f = l)
 (ok : compOk sc σ scope = true) (hnoh : NohAll (fvOf σ scope.names))
 (hds : ∀ x ∈ xs, (itm x).firm = true) (hlen : xs.length ≤ 16777216) (ht : ∀ x ∈ xs, TV (rel sc scope) scope tgt (itm x) (tv x))
 (helt : ∀ x ∈ xs, (f x).clean = true ∧ Ev G (rel sc scope) k ⟨tv x ++ fvOf σ scope.names, []⟩ elt (f x))
 (hs : autoParam (∀ env x, foldedSetIterable iter env x = pure x) ir) : Comp G sc k σ elt tgt iter [] scope pos l false :=
 comp_is xs itm tv (fun _ => true) f hit how (by rw [List.filter_eq_self.mpr (fun _ _ => rfl)]; exact hl) ok hnoh hds hlen ht (fun _ _ => .inl ⟨rfl, rfl⟩) (fun x hx _ => helt x hx) hs
theorem evIt_range1 {e f : Expr} {p : Pos} {n : Nat} {own : Bool} (hf : Ev G sc k σ f (.val (.type "range"))) (he : Ev G sc k σ e (.int n)) (hn : n ≤ 1000000000)
 (hs : autoParam (∀ env, starEach [e] env = (false, eval e env) :: starEach [] env) ir)
 (hs' : autoParam (∀ env, eval (.Call f [e] [] p) env = (do callWith p (← eval f env) [] (backTo p (starEach [e] env)) [])) ir) : EvIt G sc k σ (.Call f [e] [] p) ((List.range n).map fun j => .int (j : Nat)) false own := by
 have h := evIt_rng (own := own) (ev_call hf (.ty _) (evL_cons he evL_nil hs) range1 hs') ⟨by decide, by decide⟩ (nb9 hn)
 have e1 : rngD 0 n = (List.range n).map fun j => .int (j : Nat) := by
  unfold rngD
  rw [Int.sub_zero, Int.toNat_natCast]
  exact List.map_congr_left fun j _ => by rw [Int.zero_add]
 rwa [e1] at h
theorem evIt_range2 {e1 e2 f : Expr} {p : Pos} {a b : Nat} {own : Bool} (hf : Ev G sc k σ f (.val (.type "range"))) (h1 : Ev G sc k σ e1 (.int a)) (h2 : Ev G sc k σ e2 (.int b)) (ha : a ≤ 1000000000) (hb : b ≤ 1000000000)
 (hs : autoParam (∀ env, starEach [e1, e2] env = (false, eval e1 env) :: starEach [e2] env) ir) (hs2 : autoParam (∀ env, starEach [e2] env = (false, eval e2 env) :: starEach [] env) ir)
 (hs' : autoParam (∀ env, eval (.Call f [e1, e2] [] p) env = (do callWith p (← eval f env) [] (backTo p (starEach [e1, e2] env)) [])) ir) : EvIt G sc k σ (.Call f [e1, e2] [] p) ((List.range' a (b - a)).map fun j => .int (j : Nat)) false own := by
 have h := evIt_rng (own := own) (ev_call hf (.ty _) (evL_cons h1 (evL_cons h2 evL_nil hs2) hs) range2 hs') (nb9 ha) (nb9 hb)
 have e1 : rngD a b = (List.range' a (b - a)).map fun j => .int (j : Nat) := by
  unfold rngD
  rw [List.range'_eq_map_range, List.map_map, show ((b : Int) - (a : Int)).toNat = b - a from tn]
  exact List.map_congr_left fun j _ => by simp
 rwa [e1] at h
end
end
section
section
variable {G : Gl} {sc : Scope} {k : Nat} {σ : St}
theorem ex_appendOwn {o e : Expr} {apos p q : Pos} {n : Nat} {l l2 : List D} (ho : Ev G sc k σ o (.h n)) (hn : σ.own[n]? = some l) (he : EvN G sc k σ e l2) (hd : D.firmL l2 = true) (hz : l.length ≤ 16777216)
 (hs : autoParam (∀ env, starEach [e] env = (false, eval e env) :: starEach [] env) ir)
 (hbase : autoParam (∀ env, attributeBase o (Str.ofString "append") env (eval o env) = eval o env) ir)
 (hfew : autoParam (∀ env, ((backTo p (starEach [e] env)).all (fun x => !x.1) && (backToKw p (keywordEach [] env)).all (fun x => x.1.isSome) && decide ([e].length + ([] : List Keyword).length + (if ([] : List Keyword).isEmpty then 0 else 1) < 30)) = true) ir)
 (hline : autoParam ((apos.endLine == p.line) = true) ir) (hsw : autoParam (∀ env, swapsWith (.Call (.Attribute o (Str.ofString "append") apos) [e] [] p) none q.line env = pure false) ir) :
 Ex1 G sc k σ (.Expr (.Call (.Attribute o (Str.ofString "append") apos) [e] [] p) q) { σ with own := (σ.own ++ [l2]).set n (l ++ [.h σ.own.length]) } := by
 intro c μ A s hc hfm hA r
 refine wpAny_Expr (Q := fun f s' => Post G c (fun fl σ1 => fl = .next ∧ σ1 = { σ with own := (σ.own ++ [l2]).set n (l ++ [.h σ.own.length]) }) f s') (wpAny_Call_method_lateS (hbase _) (hfew _) hline (wpAny_mono (ho c μ A s hc hA r) (fun v s1 hq => ?_) fun _ _ f => f)) (by show (c.env.scope.kind == ScopeKind.module && _) = false; rw [r.kind]; rfl) (hsw _)
 obtain ⟨k1, x1⟩ := hq
 have r1 := r.kp k1
 obtain ⟨a, e1, rfl⟩ := x1
 obtain ⟨a', vs, e2, ⟨n0, e3⟩, e4⟩ := r1.own n l hn
 rw [e1] at e2; cases e2
 refine ⟨"list", _, F.plainAttrs_list, F.slot_list_append, F.type_list_append, ⟨_, e3, rfl⟩, (fun b eb => by cases eb; exact ⟨_, e3, rfl⟩), ?_⟩
 have hp : (backTo p (starEach [e] c.env)).any (·.1) = false := by rw [hs]; rfl
 refine Calls.callWith_builtin hp (evalArgs_any hp ?_)
 rw [hs]
 refine Calls.spliced_cons (x := eval e c.env) (wpAny_mono (he c μ A s1 hc hA r1) (fun u s2 ⟨k2, x2⟩ => Calls.spliced_nil ?_) fun _ _ f => f)
 have hlen : l.length = vs.size := by simpa using e4.length
 have hnn : n < σ.own.length := by rw [← r.len]; exact (List.getElem?_eq_some_iff.mp e1).1
 obtain ⟨z, rfl, r2⟩ := r1.own_new k2 x2 hd hfm
 have hn2 : (σ.own ++ [l2])[n]? = some l := by rw [List.getElem?_append_left hnn]; exact hn
 have e1' : (μ ++ [z])[n]? = some a := by rw [List.getElem?_append_left (by rw [r.len]; exact hnn)]; exact e1
 obtain ⟨a', vs2, e2, e3', e4'⟩ := r2.own n l hn2
 rw [e1'] at e2; cases e2
 have hvs : vs2.size = l.length := by simpa using e4'.length.symm
 refine wpAny_list_append_plain (hsz := by rw [sizeLine_eq]; exact dl2 0 16777216 0 0 0 16777216 (Nat.le_of_eq hvs) hz rfl) e3' fun h' hp' hs' => ?_
 refine ⟨.next, _, _, ⟨rfl, rfl⟩, r2.own_set (tk := s2.toks) hfm e1' hs' (Nat.le_refl _) hp' ?_ ?_, rfl⟩
 · rw [Array.toList_push]
   refine e4'.append (us := [.ref z]) (es := [.h σ.own.length]) ⟨⟨z, ?_, rfl⟩, trivial⟩
   rw [← r.len]; simp
 · rw [firmL_append, (r2.firm hfm).2 n l hn2]; rfl
end
end
section
inductive FV (σ : St) : List (Str × NameKind) -> List (Str × D) -> Prop
 | nil : FV σ [] []
 | skip {x : Str} {k : NameKind} {r : List (Str × NameKind)} {l : List (Str × D)} (h : (k == .free) = false) (t : FV σ r l) : FV σ ((x, k) :: r) l
 | free {x : Str} {r : List (Str × NameKind)} {l : List (Str × D)} {d d' : D} (h : σ.vars.lookup x = some d) (hv : view σ.own 3 d = d') (t : FV σ r l) : FV σ ((x, .free) :: r) ((x, d') :: l)
theorem FV.eq {σ : St} {l : List (Str × NameKind)} {fv : List (Str × D)} (h : FV σ l fv) : fvOf σ l = fv := by
 induction h with
 | nil => rfl
 | skip h t ih => unfold fvOf; rw [h]; exact ih
 | free h hv t ih => unfold fvOf; rw [h]; simp only [beq_self_eq_true, if_true]; rw [hv, ih]
theorem FV.some {σ : St} {l : List (Str × NameKind)} {fv : List (Str × D)} (h : FV σ l fv) : ∀ x, (x, NameKind.free) ∈ l -> (σ.vars.lookup x).isSome = true := by
 induction h with
 | nil => intro x h; cases h
 | skip h t ih =>
  intro y hy
  rcases List.mem_cons.mp hy with e | e
  · cases e; cases h
  · exact ih y e
 | free h hv t ih =>
  intro y hy
  rcases List.mem_cons.mp hy with e | e
  · cases e; rw [h]; rfl
  · exact ih y e
noncomputable def compOkS (sc : Scope) (scope : Scope) : Bool :=
 scope.kind == .function && sc.kind == .function && scope.names.all fun (x, k) =>
  (k != .free || ((sc.names.lookup x == some .cell || sc.names.lookup x == some .free) && !(scope.names.any fun (y, k') => y == x && k' == .cell) && scope.names.lookup x == some .free)) && (k != .local || scope.names.lookup x == some .local)
theorem compOk_of {sc : Scope} {σ : St} {scope : Scope} {fv : List (Str × D)} (h : compOkS sc scope = true) (hf : FV σ scope.names fv) : compOk sc σ scope = true := by
 unfold compOkS at h
 unfold compOk
 rw [Bool.and_eq_true] at h ⊢
 refine ⟨h.1, List.all_eq_true.mpr fun y hy => ?_⟩
 have := List.all_eq_true.mp h.2 y hy
 obtain ⟨x, k⟩ := y
 cases k with
 | free =>
  have hs := hf.some x hy
  simp only [Bool.and_eq_true, Bool.or_eq_true] at this ⊢
  simp only [hs, true_and]
  exact this
 | _ => exact this
section
variable {G : Gl} {sc : Scope} {k : Nat} {σ : St}
theorem comp_isF {α : Type} {elt tgt iter : Expr} {ifs : List Expr} {scope : Scope} {pos : Pos} {ow : Bool} {l : List D} {fv : List (Str × D)} (xs : List α) (itm : α -> D) (tv : α -> List (Str × D)) (p : α -> Bool) (f : α -> D)
 (hit : EvIt G sc k σ iter (xs.map itm) ow true) (how : ow = true ∨ ∀ it v, letOwnedTupleGo tgt it v = pure ()) (hl : (xs.filter p).map f = l)
 (ok : compOkS sc scope = true) (hf : FV σ scope.names fv) (hnoh : NohAll fv)
 (hds : ∀ x ∈ xs, (itm x).firm = true) (hlen : xs.length ≤ 16777216) (ht : ∀ x ∈ xs, TV (rel sc scope) scope tgt (itm x) (tv x))
 (htest : ∀ x ∈ xs, TI G (rel sc scope) k ⟨tv x ++ fv, []⟩ ifs (p x))
 (helt : ∀ x ∈ xs, p x = true -> (f x).clean = true ∧ Ev G (rel sc scope) k ⟨tv x ++ fv, []⟩ elt (f x))
 (hs : autoParam (∀ env x, foldedSetIterable iter env x = pure x) ir) : Comp G sc k σ elt tgt iter ifs scope pos l false := by
 have e := hf.eq
 subst e
 exact comp_is xs itm tv p f hit how hl (compOk_of ok hf) hnoh hds hlen ht htest helt hs
theorem comp_mapF {α : Type} {elt tgt iter : Expr} {scope : Scope} {pos : Pos} {ow : Bool} {l : List D} {fv : List (Str × D)} (xs : List α) (itm : α -> D) (tv : α -> List (Str × D)) (f : α -> D)
 (hit : EvIt G sc k σ iter (xs.map itm) ow true) (how : ow = true ∨ ∀ it v, letOwnedTupleGo tgt it v = pure ()) (hl : xs.map f = l)
 (ok : compOkS sc scope = true) (hf : FV σ scope.names fv) (hnoh : NohAll fv)
 (hds : ∀ x ∈ xs, (itm x).firm = true) (hlen : xs.length ≤ 16777216) (ht : ∀ x ∈ xs, TV (rel sc scope) scope tgt (itm x) (tv x))
 (helt : ∀ x ∈ xs, (f x).clean = true ∧ Ev G (rel sc scope) k ⟨tv x ++ fv, []⟩ elt (f x))
 (hs : autoParam (∀ env x, foldedSetIterable iter env x = pure x) ir) : Comp G sc k σ elt tgt iter [] scope pos l false := by
 have e := hf.eq
 subst e
 exact comp_map xs itm tv f hit how hl (compOk_of ok hf) hnoh hds hlen ht helt hs
theorem comp_rowsF {α : Type} {elt tgt iter : Expr} {scope : Scope} {pos : Pos} {ow : Bool} {l : List (List D)} {fv : List (Str × D)} (xs : List α) (itm : α -> D) (tv : α -> List (Str × D)) (f : α -> List D)
 (hit : EvIt G sc k σ iter (xs.map itm) ow true) (how : ow = true ∨ ∀ it v, letOwnedTupleGo tgt it v = pure ()) (hl : xs.map f = l)
 (ok : compOkS sc scope = true) (hf : FV σ scope.names fv) (hnoh : NohAll fv)
 (hds : ∀ x ∈ xs, (itm x).firm = true) (hlen : xs.length ≤ 16777216) (ht : ∀ x ∈ xs, TV (rel sc scope) scope tgt (itm x) (tv x))
 (helt : ∀ x ∈ xs, D.cleanL (f x) = true ∧ EvN G (rel sc scope) k ⟨tv x ++ fv, []⟩ elt (f x))
 (hs : autoParam (∀ env x, foldedSetIterable iter env x = pure x) ir) : Comp G sc k σ elt tgt iter [] scope pos (l.map .new) true := by
 have e := hf.eq
 subst e
 have := comp_of (G := G) (sc := sc) (k := k) (σ := σ) (elt := elt) (pos := pos) (ifs := []) xs itm tv (fun _ => true) (fun x => .new (f x)) true hit how (compOk_of ok hf) hnoh.get hds hlen ht (fun _ _ => .inl ⟨rfl, rfl⟩) (fun x hx _ => ⟨(helt x hx).1, And.intro (fun h => (by cases h)) (fun _ => ⟨_, rfl, (helt x hx).2⟩)⟩) hs
 rw [List.filter_eq_self.mpr (fun _ _ => rfl)] at this
 rw [← hl, List.map_map]
 exact this
end
end
section
mutual
theorem Holds.avoidP {O P : Addr -> Prop} {μ : List Addr} {h : Heap} (hz : ∀ z, P z -> h.get? z = none) : ∀ {d : D} {v : Value}, Holds O μ h d v -> Holds (fun b => O b ∨ P b) μ h d v
 | .none, _, e => e
 | .bool _, _, e => e
 | .int _, _, e => e
 | .str _, _, e => e
 | .tup _, _, ⟨a, vs, e, n, t, l⟩ => ⟨a, vs, e, (fun q => q.elim n fun q => by obtain ⟨_, e'⟩ := t; unfold IsT at e'; rw [hz a q] at e'; cases e'), t, HoldsL.avoidP hz l⟩
 | .lst _, _, ⟨a, vs, e, n, t, l⟩ => ⟨a, vs, e, (fun q => q.elim n fun q => by obtain ⟨_, e', _⟩ := t; rw [hz a q] at e'; cases e'), t, HoldsL.avoidP hz l⟩
 | .bor _, _, ⟨a, vs, e, t, l⟩ => ⟨a, vs, e, t, HoldsL.avoidP hz l⟩
 | .new _, _, ⟨a, vs, e, n, t, l⟩ => ⟨a, vs, e, (fun q => q.elim n fun q => by obtain ⟨_, e'⟩ := t; rw [hz a q] at e'; cases e'), t, HoldsL.avoidP hz l⟩
 | .val _, _, e => e
 | .rng _ _, _, ⟨a, e, n, t⟩ => ⟨a, e, (fun q => q.elim n fun q => by obtain ⟨_, _, _, e'⟩ := t; unfold IsRange at e'; rw [hz a q] at e'; cases e'), t⟩
 | .dct _, _, ⟨a, o, e, n, t, p⟩ => ⟨a, o, e, (fun q => q.elim n fun q => by rw [hz a q] at t; cases t), t, p⟩
 | .h _, _, e => e
theorem HoldsL.avoidP {O P : Addr -> Prop} {μ : List Addr} {h : Heap} (hz : ∀ z, P z -> h.get? z = none) : ∀ {ds : List D} {vs : List Value}, HoldsL O μ h ds vs -> HoldsL (fun b => O b ∨ P b) μ h ds vs
 | [], [], _ => trivial
 | _ :: _, _ :: _, ⟨e, r⟩ => ⟨Holds.avoidP hz e, HoldsL.avoidP hz r⟩
 | [], _ :: _, e => e
 | _ :: _, [], e => e
end
mutual
theorem Holds.growL {O : Addr -> Prop} {μ : List Addr} {h : Heap} (zs : List Addr) : ∀ {d : D} {v : Value}, Holds O μ h d v -> Holds O (μ ++ zs) h d v
 | .none, _, e => e
 | .bool _, _, e => e
 | .int _, _, e => e
 | .str _, _, e => e
 | .tup _, _, ⟨a, vs, e, n, t, l⟩ => ⟨a, vs, e, n, t, HoldsL.growL zs l⟩
 | .lst _, _, ⟨a, vs, e, n, t, l⟩ => ⟨a, vs, e, n, t, HoldsL.growL zs l⟩
 | .bor _, _, ⟨a, vs, e, t, l⟩ => ⟨a, vs, e, t, HoldsL.growL zs l⟩
 | .new _, _, ⟨a, vs, e, n, t, l⟩ => ⟨a, vs, e, n, t, HoldsL.growL zs l⟩
 | .val _, _, e => e
 | .rng _ _, _, e => e
 | .dct _, _, e => e
 | .h k, _, ⟨a, e1, e2⟩ => ⟨a, by rw [List.getElem?_append_left (List.getElem?_eq_some_iff.mp e1).1]; exact e1, e2⟩
theorem HoldsL.growL {O : Addr -> Prop} {μ : List Addr} {h : Heap} (zs : List Addr) : ∀ {ds : List D} {vs : List Value}, HoldsL O μ h ds vs -> HoldsL O (μ ++ zs) h ds vs
 | [], [], _ => trivial
 | _ :: _, _ :: _, ⟨e, r⟩ => ⟨Holds.growL zs e, HoldsL.growL zs r⟩
 | [], _ :: _, e => e
 | _ :: _, [], e => e
end
theorem ints_any {O O' : Addr -> Prop} {μ μ' : List Addr} {h h' : Heap} : ∀ (ns : List Int) (vs : List Value), HoldsL O μ h (ns.map .int) vs -> HoldsL O' μ' h' (ns.map .int) vs
 | [], [], _ => trivial
 | _ :: r, _ :: vs, ⟨x, y⟩ => ⟨x, ints_any r vs y⟩
 | [], _ :: _, e => e.elim
 | _ :: _, [], e => e.elim
theorem refs_of {P : Addr -> Prop} : ∀ l : List Value, (∀ y ∈ l, ∃ a, y = Value.ref a ∧ P a) -> ∃ zs : List Addr, l = zs.map .ref
 | [], _ => ⟨[], rfl⟩
 | v :: r, h => by
  obtain ⟨a, rfl, _⟩ := h v List.mem_cons_self
  obtain ⟨zs, e⟩ := refs_of r fun y hy => h y (List.mem_cons_of_mem _ hy)
  exact ⟨a :: zs, by rw [e]; rfl⟩
theorem holdsL_of {O : Addr -> Prop} {μ : List Addr} {h : Heap} : ∀ {ds : List D} {vs : List Value}, ds.length = vs.length -> (∀ (i : Nat) d v, ds[i]? = some d -> vs[i]? = some v -> Holds O μ h d v) -> HoldsL O μ h ds vs
 | [], [], _, _ => trivial
 | d :: ds, v :: vs, hl, hh => ⟨hh 0 d v rfl rfl, holdsL_of (by simpa using hl) fun i d v h1 h2 => hh (i + 1) d v (by simpa using h1) (by simpa using h2)⟩
 | [], _ :: _, e, _ => by simp at e
 | _ :: _, [], e, _ => by simp at e
theorem handles_hold {O : Addr -> Prop} {μ : List Addr} {h : Heap} {n m : Nat} {ys : List Value} (hl : ys.length = n) (hh : ∀ i, i < n -> ∃ a, μ[m + i]? = some a ∧ ys[i]? = some (Value.ref a)) : HoldsL O μ h ((List.range n).map fun i => D.h (m + i)) ys := by
 refine holdsL_of (by simp [hl]) fun i d v h1 h2 => ?_
 have hi : i < n := by rw [← hl]; exact (List.getElem?_eq_some_iff.mp h2).1
 obtain ⟨a, q1, q2⟩ := hh i hi
 rw [q2] at h2; cases h2
 simp [hi] at h1
 subst h1
 exact ⟨a, q1, rfl⟩
theorem all_growL {c : Cx} {μ zs : List Addr} {a : Addr} (h : c.all (μ ++ zs) a) : c.all μ a ∨ a ∈ zs := by
 rcases h with h | h | h | h
 · exact .inl (.inl h)
 · rcases List.mem_append.mp h with h | h
   · exact .inl (.inr (.inl h))
   · exact .inr h
 · exact .inl (.inr (.inr (.inl h)))
 · exact .inl (.inr (.inr (.inr h)))
section
variable {G : Gl} {sc : Scope} {k : Nat} {σ : St}
theorem R.own_many {c : Cx} {μ : List Addr} {s s' : Shared} {zs : List Addr} {ls : List (List D)} (r : R G c μ σ s) (kp : Kp s s') (fm : c.fm = true) (hlen : zs.length = ls.length) (hz : ∀ z ∈ zs, s.heap.get? z = none) (hnd : zs.Nodup)
 (hh : ∀ (i : Nat) z l, zs[i]? = some z -> ls[i]? = some l -> ∃ vs, s'.heap.PlainList z vs ∧ HoldsL (c.all (μ ++ zs)) (μ ++ zs) s'.heap l vs.toList) (hf : ∀ l ∈ ls, D.firmL l = true) : R G c (μ ++ zs) { σ with own := σ.own ++ ls } s' := by
 have r' := r.kp kp
 have zall : ∀ z ∈ zs, ¬ c.all μ z := fun z h => r.fresh (hz z h)
 have F := r.firm fm
 have sh : ∀ {d : D} {v : Value}, Holds (c.all μ) μ s.heap d v -> Holds (c.all (μ ++ zs)) (μ ++ zs) s'.heap d v := fun {d v} x => (((x.avoidP hz).keep kp.heap).weak fun a h => all_growL h).growL zs
 refine { r' with len := by simp [r'.len, hlen], nodup := ?_, mine := ?_, loc := ?_, cell := ?_, own := ?_, firm := ?_ }
 · refine List.nodup_append.mpr ⟨r'.nodup, hnd, fun a ha b hb => ?_⟩
   rintro rfl
   exact zall _ hb (.inr (.inl ha))
 · intro a ha
   rcases all_growL (.inr ha) with h | h
   · rcases ha with ha | ha
     · rcases List.mem_append.mp ha with ha | ha
       · exact r'.mine a (.inl ha)
       · exact absurd h (zall a ha)
     · exact r'.mine a (.inr ha)
   · exact ⟨fun q => zall a h (.inl q), fun o ho => by have := r.base _ o ho; rw [hz a h] at this; cases this⟩
 · obtain ⟨m, hn, h⟩ := r.loc
   exact ⟨m, hn.keeps kp.heap, fun x d e l' => (by obtain ⟨v, e1, e2⟩ := h x d e l'; exact ⟨v, e1, sh e2⟩)⟩
 · exact fun x d e l' => (by obtain ⟨ca, v, e1, e2, e3⟩ := r.cell x d e l'; exact ⟨ca, v, e1, e2.keeps kp.heap, sh e3⟩)
 · intro i items e
   by_cases hi : i < σ.own.length
   · rw [List.getElem?_append_left hi] at e
     obtain ⟨a, us, e1, e2, e3⟩ := r.own i items e
     refine ⟨a, us, by rw [List.getElem?_append_left (by rw [r.len]; exact hi)]; exact e1, e2.at (kp.heap a), ?_⟩
     exact (((e3.avoidP hz).keep kp.heap).weak fun a h => all_growL h).growL zs
   · have hi' : σ.own.length ≤ i := Nat.not_lt.mp hi
     have e' : ls[i - σ.own.length]? = some items := by
      have e0 : (σ.own ++ ls)[i]? = some items := e
      rwa [List.getElem?_append_right hi'] at e0
     have hlt : i - σ.own.length < zs.length := by rw [hlen]; exact (List.getElem?_eq_some_iff.mp e').1
     obtain ⟨vs, q1, q2⟩ := hh (i - σ.own.length) zs[i - σ.own.length] items (List.getElem?_eq_getElem hlt) e'
     refine ⟨_, vs, ?_, q1, q2⟩
     rw [List.getElem?_append_right (by rw [r.len]; exact hi'), r.len]
     exact List.getElem?_eq_getElem hlt
 · intro _
   refine ⟨F.1, fun i items e => ?_⟩
   have e0 : (σ.own ++ ls)[i]? = some items := e
   rcases List.mem_append.mp (List.mem_of_getElem? e0) with h | h
   · obtain ⟨n, hn⟩ := List.getElem?_of_mem h
     exact F.2 n items hn
   · exact hf items h
theorem ex_rowsC {elt tgt iter : Expr} {ifs : List Expr} {scope : Scope} {pos p p' : Pos} {x : Str} {ls : List (List Int)} {σ' : St} (C : Comp G sc k σ elt tgt iter ifs scope pos ((ls.map fun r => r.map D.int).map .new) true) (hx : sc.names.lookup x = some .cell)
 (ha : As G sc k (.Name x p') (.h (σ.own.length + ls.length)) { σ with own := σ.own ++ ((ls.map fun r => r.map D.int) ++ [(List.range ls.length).map fun i => .h (σ.own.length + i)]) } σ') : Ex1 G sc k σ (.Assign [.Name x p'] (.ListComp elt [⟨tgt, iter, ifs, 0⟩] scope pos) p) σ' := by
 intro c μ A s hc hfm hA r
 have hxx : exec (.Assign [.Name x p'] (.ListComp elt [⟨tgt, iter, ifs, 0⟩] scope pos) p) c.env = (do
  standAt p
  let v ← eval (.ListComp elt [⟨tgt, iter, ifs, 0⟩] scope pos) c.env
  assign (.Name x p') c.env v
  pure .next) := exec_Assign_Name c.env x p' _ p (swaps_cell hc hx)
 rw [hxx]
 refine wpAny_bind (wpAny_standAt (wpAny_bind ?_))
 rw [eval_ListComp]
 refine C c μ A s _ none _ hc hA r fun Cc acc s1 d => ⟨_, d.ns.choose_spec, fun h' hs => ?_⟩
 obtain ⟨Z, ys, rfl, e2, e3, e4, e5, e6⟩ := d.out
 obtain ⟨n1, n2⟩ := e6 rfl
 have hcl : D.cleanL ((ls.map fun r => r.map D.int).map D.new) = true := cleanL_iff.mpr fun y hy => by
  obtain ⟨l, hl, rfl⟩ := List.mem_map.mp hy
  obtain ⟨r, _, rfl⟩ := List.mem_map.mp hl
  exact clean_ints r
 have kp : Kp s { s1 with heap := h' } := (d.newL hcl hs).1
 have hrow : ∀ (i : Nat) (r0 : List Int), ls[i]? = some r0 -> ∃ a vs, ys.toList[i]? = some (.ref a) ∧ s.heap.get? a = none ∧ a ≠ Z ∧ h'.PlainList a vs ∧ ∀ O μ h, HoldsL O μ h (r0.map .int) vs.toList := fun i r0 hi => by
  obtain ⟨v, q1, a, vs, rfl, q2, q3, q4⟩ := e5.get (i := i) (d := .new (r0.map .int)) (by rw [List.map_map, List.getElem?_map, hi]; rfl)
  obtain ⟨a', q5, q6⟩ := n2 _ (List.mem_of_getElem? q1)
  cases q5
  exact ⟨a, vs, q1, q6, fun q => q2 (.inr (.inl q)), q3.at fun o e => (hs.2 a (fun q => q2 (.inr (.inr q)))).trans e, fun O μ h => ints_any r0 _ q4⟩
 have hl5 : ys.toList.length = ls.length := by have := e5.length; simpa using this.symm
 obtain ⟨zs, hzs⟩ := refs_of _ n2
 have hzl : zs.length = ls.length := by rw [← hl5, hzs, List.length_map]
 have hzat : ∀ (i : Nat) (r0 : List Int), ls[i]? = some r0 -> ∃ a vs, zs[i]? = some a ∧ s.heap.get? a = none ∧ a ≠ Z ∧ h'.PlainList a vs ∧ ∀ O μ h, HoldsL O μ h (r0.map .int) vs.toList := fun i r0 hi => by
  obtain ⟨a, vs, q1, q2⟩ := hrow i r0 hi
  rw [hzs, List.getElem?_map] at q1
  obtain ⟨b, q3, q4⟩ := Option.map_eq_some_iff.mp q1
  cases q4
  exact ⟨_, vs, q3, q2⟩
 have hzmem : ∀ z ∈ zs, s.heap.get? z = none ∧ z ≠ Z := fun z hz => by
  obtain ⟨i, hi⟩ := List.getElem?_of_mem hz
  have hlt : i < ls.length := by rw [← hzl]; exact (List.getElem?_eq_some_iff.mp hi).1
  obtain ⟨a, vs, q1, q2, q3, _⟩ := hzat i ls[i] (List.getElem?_eq_getElem hlt)
  rw [hi] at q1; cases q1
  exact ⟨q2, q3⟩
 have hznd : zs.Nodup := by
  rw [hzs] at n1
  exact List.Pairwise.of_map Value.ref (fun a b h e => h (by rw [e])) n1
 have hZ' : h'.PlainList Z ys := e4.at fun o e => (hs.2 Z e2).trans e
 have r1 := r.own_many (s' := { s1 with heap := h' }) (zs := zs ++ [Z]) (ls := (ls.map fun r => r.map D.int) ++ [(List.range ls.length).map fun i => .h (σ.own.length + i)]) kp hfm (by simp [hzl])
  (fun z hz => by
   rcases List.mem_append.mp hz with hz | hz
   · exact (hzmem z hz).1
   · rw [List.mem_singleton.mp hz]; exact e3)
  (List.nodup_append.mpr ⟨hznd, by simp, fun a ha b hb => by rw [List.mem_singleton.mp hb]; exact (hzmem a ha).2⟩)
  (fun i z l h1 h2 => by
   by_cases hi : i < ls.length
   · rw [List.getElem?_append_left (by rw [hzl]; exact hi)] at h1
     rw [List.getElem?_append_left (by simpa using hi), List.getElem?_map, List.getElem?_eq_getElem hi] at h2
     cases h2
     obtain ⟨a, vs, q1, q2, q3, q4, q5⟩ := hzat i ls[i] (List.getElem?_eq_getElem hi)
     rw [h1] at q1; cases q1
     exact ⟨vs, q4, q5 _ _ _⟩
   · have hi' : i = ls.length := by
      have := (List.getElem?_eq_some_iff.mp h1).1
      simp [hzl] at this; exact Nat.le_antisymm (dl1 0 0 1 1 this rfl) (Nat.le_of_not_lt hi)
     subst hi'
     have hz1 : (zs ++ [Z])[ls.length]? = some Z := by rw [← hzl]; simp
     have hl1 : ((ls.map fun r => r.map D.int) ++ [(List.range ls.length).map fun i => D.h (σ.own.length + i)])[ls.length]? = some ((List.range ls.length).map fun i => D.h (σ.own.length + i)) := by
      rw [List.getElem?_append_right (by simp)]; simp
     rw [hz1] at h1; cases h1
     rw [hl1] at h2; cases h2
     refine ⟨ys, hZ', handles_hold (ys := ys.toList) (by simp [hl5]) fun i hi => ?_⟩
     obtain ⟨a, vs, q1, _⟩ := hzat i ls[i] (List.getElem?_eq_getElem hi)
     refine ⟨a, ?_, by rw [hzs, List.getElem?_map, q1]; rfl⟩
     rw [List.getElem?_append_right (by rw [r.len]; omega), r.len, Nat.add_sub_cancel_left, List.getElem?_append_left (by rw [hzl]; exact hi)]
     exact q1)
  (fun l hl => by
   rcases List.mem_append.mp hl with hl | hl
   · obtain ⟨r0, _, rfl⟩ := List.mem_map.mp hl
     exact D.cleanL_firmL (clean_ints r0)
   · rw [List.mem_singleton.mp hl]
     exact firmL_map _ (fun _ => rfl) _)
 refine wpAny_bind (wpAny_mono (ha c _ A _ (.ref Z) hc hfm hA r1 ⟨Z, ?_, rfl⟩) (fun _ s2 hp => by obtain ⟨r2, _⟩ := hp; exact wpAny_pure ⟨.next, σ', _, ⟨rfl, rfl⟩, r2, rfl⟩) fun _ _ f => f)
 rw [List.getElem?_append_right (by rw [r.len]; omega), r.len, Nat.add_sub_cancel_left, ← hzl]
 simp
end
end
section
section
variable {G : Gl} {sc : Scope} {k : Nat} {σ : St}
theorem ex_forL {α : Type} {tgt iter : Expr} {body : List Stmt} {p : Pos} {xs : List α} {f : α -> D} {ow : Bool} {Q : Fl -> St -> Prop} (hit : EvIt G sc k σ iter (xs.map f) ow false) (how : ow = true ∨ ∀ it v, letOwnedTupleGo tgt it v = pure ()) (Inv : Nat -> St -> Prop) (h0 : Inv 0 σ)
 (turn : ∀ (j : Nat) (x : α) σ1, xs[j]? = some x -> Inv j σ1 -> ∃ σ2, As G sc k tgt (f x) σ1 σ2 ∧ Exs G sc k σ2 body (fun fl σ3 => match fl with | .next => Inv (j + 1) σ3 | .cont => Inv (j + 1) σ3 | .brk => Q .next σ3 | .ret d => Q (.ret d) σ3))
 (fin : ∀ σ1, Inv xs.length σ1 -> Q .next σ1) (hs : autoParam (∀ env x, foldedSetIterable iter env x = pure x) ir) : Ex G sc k σ (.For tgt iter body [] p) Q := by
 refine ex_for hit how (fun rest σ1 => ∃ j, j ≤ xs.length ∧ rest = (xs.drop j).map f ∧ Inv j σ1) ⟨0, Nat.zero_le _, by rw [List.drop_zero], h0⟩ ?_ ?_ hs
 · rintro d r σ1 ⟨j, hj, h1, h2⟩
   have hlt : j < xs.length := by
    rcases Nat.lt_or_ge j xs.length with h | h
    · exact h
    · rw [List.drop_eq_nil_iff.mpr h] at h1; cases h1
   rw [List.drop_eq_getElem_cons hlt, List.map_cons] at h1
   injection h1 with h3 h4
   subst h3
   obtain ⟨σ2, a1, a2⟩ := turn j xs[j] σ1 (List.getElem?_eq_getElem hlt) h2
   refine ⟨σ2, a1, a2.mono fun fl σ3 q => ?_⟩
   cases fl with
   | next => exact ⟨j + 1, hlt, h4, q⟩
   | cont => exact ⟨j + 1, hlt, h4, q⟩
   | brk => exact q
   | ret d => exact q
 · rintro σ1 ⟨j, hj, h1, h2⟩
   have : xs.drop j = [] := by
    cases h : xs.drop j with
    | nil => rfl
    | cons _ _ => rw [h] at h1; cases h1
   have := List.drop_eq_nil_iff.mp this
   have e : j = xs.length := by exact Nat.le_antisymm hj this
   subst e
   exact fin σ1 h2
theorem ex_forR {tgt iter : Expr} {body : List Stmt} {p : Pos} {a b : Nat} {Q : Fl -> St -> Prop} (hit : EvIt G sc k σ iter ((List.range' a (b - a)).map fun j => .int (j : Nat)) false false) (how : ∀ it v, letOwnedTupleGo tgt it v = pure ()) (hab : a ≤ b) (Inv : Nat -> St -> Prop) (h0 : Inv a σ)
 (turn : ∀ (j : Nat) σ1, a ≤ j -> j < b -> Inv j σ1 -> ∃ σ2, As G sc k tgt (.int (j : Nat)) σ1 σ2 ∧ Exs G sc k σ2 body (fun fl σ3 => match fl with | .next => Inv (j + 1) σ3 | .cont => Inv (j + 1) σ3 | .brk => Q .next σ3 | .ret d => Q (.ret d) σ3))
 (fin : ∀ σ1, Inv b σ1 -> Q .next σ1) (hs : autoParam (∀ env x, foldedSetIterable iter env x = pure x) ir) : Ex G sc k σ (.For tgt iter body [] p) Q := by
 refine ex_forL hit (.inr how) (fun j σ1 => Inv (a + j) σ1) h0 (fun j x σ1 hx hi => ?_) (fun σ1 hi => fin σ1 ?_) hs
 · have hlt := (List.getElem?_eq_some_iff.mp hx).1
   have hx' : x = a + j := by
    obtain ⟨_, h⟩ := List.getElem?_eq_some_iff.mp hx
    rw [← h]; simp
   subst hx'
   simp at hlt
   have := turn (a + j) σ1 (by omega) (by omega) hi
   rwa [Nat.add_assoc] at this
 · have : a + (List.range' a (b - a)).length = b := by simp; omega
   rwa [this] at hi
theorem ex_forR0 {tgt iter : Expr} {body : List Stmt} {p : Pos} {b : Nat} {Q : Fl -> St -> Prop} (hit : EvIt G sc k σ iter ((List.range b).map fun j => .int (j : Nat)) false false) (how : ∀ it v, letOwnedTupleGo tgt it v = pure ()) (Inv : Nat -> St -> Prop) (h0 : Inv 0 σ)
 (turn : ∀ (j : Nat) σ1, j < b -> Inv j σ1 -> ∃ σ2, As G sc k tgt (.int (j : Nat)) σ1 σ2 ∧ Exs G sc k σ2 body (fun fl σ3 => match fl with | .next => Inv (j + 1) σ3 | .cont => Inv (j + 1) σ3 | .brk => Q .next σ3 | .ret d => Q (.ret d) σ3))
 (fin : ∀ σ1, Inv b σ1 -> Q .next σ1) (hs : autoParam (∀ env x, foldedSetIterable iter env x = pure x) ir) : Ex G sc k σ (.For tgt iter body [] p) Q := by
 refine ex_forR (a := 0) (b := b) (by rw [Nat.sub_zero, ← List.range_eq_range']; exact hit) how (Nat.zero_le _) Inv h0 (fun j σ1 _ h => turn j σ1 h) fin hs
end
end
section
noncomputable def PairsAre : List (Value × Value) -> List (List Nat × List Nat) -> Prop
 | [], [] => True
 | (k, v) :: r, (x, z) :: es => (∃ t, k = .str (toS x) t) ∧ (∃ t, v = .str (toS z) t) ∧ PairsAre r es
 | _, _ => False
noncomputable def DctP (G : Gl) (es : List (List Nat × List Nat)) (o : Obj) : Prop := ∃ kvs : List (Str × Value), o.IsDictOf (strKind G.prog G.w) kvs ∧ ∀ x z, es.lookup x = some z -> ∃ t, valueAt kvs (toS x) = some (.str (toS z) t)
theorem pairs_all : ∀ {vs : List (Value × Value)} {es : List (List Nat × List Nat)}, PairsAre vs es -> allStrKeys vs = true ∧ (strPairs vs).map (·.1) = es.map fun e => toS e.1
 | [], [], _ => ⟨rfl, rfl⟩
 | (k, v) :: r, (x, z) :: es, ⟨⟨t, e1⟩, _, h⟩ => by
  subst e1
  obtain ⟨h1, h2⟩ := pairs_all h
  refine ⟨h1, ?_⟩
  show toS x :: (strPairs r).map (·.1) = _
  rw [h2]; rfl
 | [], _ :: _, h => h.elim
 | _ :: _, [], h => h.elim
theorem pairs_look : ∀ {vs : List (Value × Value)} {es : List (List Nat × List Nat)}, PairsAre vs es -> ∀ x z, es.lookup x = some z -> ∃ t, valueAt (strPairs vs) (toS x) = some (.str (toS z) t)
 | [], [], _, _, _, e => by cases e
 | (k, v) :: r, (y, w) :: es, ⟨⟨t, e1⟩, ⟨u, e2⟩, h⟩, x, z, e => by
  subst e1 e2
  by_cases hx : x = y
  · subst hx
    simp [List.lookup] at e
    subst e
    exact ⟨u, by simp [strPairs, valueAt]⟩
  · have hb : (x == y) = false := by simpa using hx
    simp only [List.lookup, hb] at e
    obtain ⟨t', h'⟩ := pairs_look h x z e
    refine ⟨t', ?_⟩
    have hne : ¬ toS y = toS x := fun q => hx (toS_inj q).symm
    simp only [valueAt, strPairs] at h' ⊢
    rw [List.find?_cons_of_neg (by simpa using hne)]
    exact h'
 | [], _ :: _, h, _, _, _ => h.elim
 | _ :: _, [], h, _, _, _ => h.elim
section
variable {G : Gl} {sc : Scope} {k : Nat} {σ : St}
noncomputable def EvPr (G : Gl) (sc : Scope) (k : Nat) (σ : St) (keys : List (Option Expr)) (values : List Expr) (es : List (List Nat × List Nat)) : Prop :=
 ∀ c μ A s p, c.env.scope = sc -> Aok k A -> R G c μ σ s -> wpAny (model G.prog G.w) A (evalPairs (pairTrees keys values c.env p)) (fun vs s' => Kp s s' ∧ PairsAre vs es) (fun _ _ => False) s
theorem evPr_nil : EvPr G sc k σ [] [] [] := fun c μ A s p _ _ _ => pairTrees_nil_walk ⟨Kp.refl s, trivial⟩
theorem evPr_cons {e v : Expr} {keys : List (Option Expr)} {values : List Expr} {x z : List Nat} {es : List (List Nat × List Nat)} (he : Ev G sc k σ e (.str x)) (hv : Ev G sc k σ v (.str z)) (h : EvPr G sc k σ keys values es) : EvPr G sc k σ (some e :: keys) (v :: values) ((x, z) :: es) := by
 intro c μ A s p hc hA r
 refine pairTrees_cons_walk (wpAny_mono (he c μ A s hc hA r) (fun kv s1 ⟨k1, x1⟩ => wpAny_mono (hv c μ A s1 hc hA (r.kp k1)) (fun vv s2 ⟨k2, x2⟩ => wpAny_mono (h c μ A s2 p hc hA (r.kp (k1.trans k2))) (fun vs s3 hq => ?_) fun _ _ f => f) fun _ _ f => f) fun _ _ f => f)
 obtain ⟨k3, x3⟩ := hq
 exact ⟨(k1.trans k2).trans k3, x1, x2, x3⟩
theorem ev_dict {keys : List (Option Expr)} {values : List Expr} {pos : Pos} {es : List (List Nat × List Nat)} (h : EvPr G sc k σ keys values es) (hnd : (es.map fun e => toS e.1).Nodup) (hall : keys.all (·.isSome) = true) (hl : keys.length = values.length) (h0 : keys ≠ []) (hlen : keys.length ≤ 15) : Ev G sc k σ (.Dict keys values pos) (.dct (DctP G es)) := by
 intro c μ A s hc hA r
 have k0 := Kp.push s { cls := .type "dict", data := .dict #[] } s.toks
 refine wpAny_Dict_walk (knd := strKind G.prog G.w) hall hl h0 hlen (wpAny_mono (h c μ A _ pos hc hA (r.kp k0)) (fun vs s1 hq => ?_) fun _ _ f => f)
 obtain ⟨k1, x1⟩ := hq
 obtain ⟨p1, p2⟩ := pairs_all x1
 refine display_done_str p1 (by rw [p2]; exact hnd) ((Heap.DictOf.new s.heap).keep k1.heap) fun h' hd hs => ?_
 have kp := k0.trans k1
 refine ⟨⟨⟨fun b o e => (hs.2 b (fun q => Nat.lt_irrefl _ (q ▸ Heap.lt_size e))).trans (kp.heap b o e), kp.os, kp.bare, kp.gens⟩, Nat.le_trans kp.toks (Nat.le_add_right _ _)⟩, ?_⟩
 obtain ⟨o, ho, hd'⟩ := Heap.dictOf_iff.mp hd
 exact ⟨_, o, rfl, r.fresh (fresh_size _), ho, _, hd', pairs_look x1⟩
theorem get_dict {es : List (List Nat × List Nat)} {x z : List Nat} (h : es.lookup x = some z) : Two G sc k σ getItem (.dct (DctP G es)) (.str x) (.str z) := by
 rintro c μ A s v1 v2 hc hA r ⟨a, o, rfl, hO, ho, kvs, hd, hk⟩ ⟨t, rfl⟩
 obtain ⟨u, hu⟩ := hk x z h
 exact wpAny_getItem_of (strKind_is _ _ _ _) (Heap.dictOf_iff.mpr ⟨o, ho, hd⟩).mapOf hu ⟨Kp.tok s _, u, rfl⟩
theorem ev_look {e1 e2 : Expr} {p : Pos} {es : List (List Nat × List Nat)} {x z : List Nat} (h1 : Ev G sc k σ e1 (.dct (DctP G es))) (h2 : Ev G sc k σ e2 (.str x)) (h : es.lookup x = some z)
 (hs : autoParam (∀ o i, subscripted e2 false o i = operate [o, i] (getItem o i)) ir) : Ev G sc k σ (.Subscript e1 e2 p) (.str z) :=
 ev_sub h1 h2 (get_dict h) (fun c μ s v r x => by
  obtain ⟨a, o, rfl, hO, ho, kvs, hd, hk⟩ := x
  exact (Heap.dictOf_iff.mpr ⟨o, ho, hd⟩).typeIs) slot_dict_getitem.lookup hs
end
end
section
noncomputable def Ast (k : Nat) : Around := ⟨none, 310 + 10 * k, none, none, 100 * (k + 1)⟩
theorem Ast.ok {k : Nat} (hk : k ≤ 40) : Aok k (Ast k) := ⟨rfl, Nat.le_refl _, Nat.le_refl _, hk⟩
theorem wp_star {M : Model} {k : Nat} {A : Around} {α : Type} {t : Sem α} {Q : α -> Shared -> Prop} {E : Value -> Shared -> Prop} {s : Shared} (hA : Aok k A) (h : wpAny M (Ast k) t Q E s) : wpAny M A t Q E s :=
 fun Γ p hΓ => h Γ p ⟨hΓ.1.trans hA.1, Nat.le_trans hΓ.2.1 hA.2.1, (fun _ e => nomatch e), (fun _ e => nomatch e), Nat.le_trans hΓ.2.2.2.2 hA.2.2.1⟩
section
variable {prog : Program} {w : World} {A : Around} {E : Value -> Shared -> Prop} {s : Shared}
theorem pyNext_genF {a : Addr} {g n : Nat} {gs : GenState} {P : Nat -> Shared -> Shared -> Prop} {Y : Protocol} {Q : Option Value -> Shared -> Prop} (hh : A.handled = none)
 (hl : s.heap.NoLimit) (hroom : A.depth < recursionLimit) (hg : s.heap.IsGen a g) (hgs : s.gens[g]? = some gs)
 (hgo : gs.Goes (model prog w) A.in1 (fun n s₀ r s₁ => r = .ok (.ret .none) ∧ P n s₀ s₁) Y n (.send .none) (s.setGen g .running))
 (hY : ∀ v s₁ gs', gs'.bare = true -> Y (n - 1) (s.setGen g .running) v s₁ (fun r' s'' => match n with
  | 0 => False
  | m + 1 => gs'.Goes (model prog w) A.in1 (fun n s₀ r s₁ => r = .ok (.ret .none) ∧ P n s₀ s₁) Y m r' s'') -> Q (some v) (s₁.setGen g gs'))
 (hP : ∀ s₁, P n (s.setGen g .running) s₁ -> ∀ h', (∀ b o, s₁.heap.get? b = some o -> h'.get? b = some o) -> Q none { s₁.setGen g .finished with heap := h' }) :
 wpAny (model prog w) A (pyNext (.ref a)) Q E s := by
 unfold pyNext
 refine wpAny_bind (wpAny_attempt (wpAny_callSpecial?_slot (name := Str.ofString "__next__") hg.typeIs slot_gen_next
  (wpAny_call_entry slot_gen_next hg.typeIs entry_gen_next ?_ (args_gen_next _))))
 show wpAny _ A.in1 (Builtin.Generator.genWake (.ref a) (.send .none)) _ _ s
 unfold Builtin.Generator.genWake
 refine wpAny_bind (wpAny_holding (wpAny_genNumber hg (wpAny_bind (wpAny_genState hgs ?_))))
 cases gs with
 | running => exact hgo.elim
 | finished => exact hgo.elim
 | _ =>
  refine wpAny_bind (wpAny_roomToWake hl hroom ?_)
  show wpAny _ A.in1 (.resume g (.send .none) [] _) _ _ s
  refine wpAny_resumeQ hgs hgo (fun x s₁ hx => ?_) (fun v s₁ gs' hb hv => ?_)
  · obtain ⟨rfl, hp⟩ := hx
    show wpAny _ A.in1 (newExc (.type "StopIteration") [] >>= _) _ _ _
    refine wpAny_bind ?_
    simp only [newExc, newTuple]
    refine wpAny_bind (wpAny_newObj_type ?_ (by exact Nat.le_of_ble_eq_true rfl))
    refine wpAny_bind (m := firstArgMember _ _) (wpAny_of_eq (a := Value.none) (by first | rfl | (simp only [firstArgMember]; rfl)) ?_)
    refine wpAny_newObj_type ?_ (by size_fits)
    simp only [raiseNew]
    refine wpAny_bind (wpAny_bind (wpAny_handled ?_))
    first | rw [show A.in1.handled = none from hh] | rw [hh]
    refine wpAny_throw ?_
    refine wpAny_bind (wpAny_isInstance (T := "StopIteration") (b := true) ⟨_, Heap.get?_push_size _ rfl, rfl⟩ isSubtype_stop ?_)
    exact wpAny_pure (hP s₁ hp _ fun b o hb => Heap.get?_push_of_some _ (Heap.get?_push_of_some _ hb))
  · exact wpAny_pure ⟨v, rfl, wpAny_pure (hY v s₁ gs' hb hv)⟩
end
theorem AllBare.setGen {s : Shared} {g : Nat} {x : GenState} (h : AllBare s.gens) (hx : x.bare = true) : AllBare (s.setGen g x).gens := by
 intro y hy
 obtain ⟨i, hi, rfl⟩ := Array.mem_iff_getElem.mp hy
 by_cases e : i = g
 · subst e
   have : (s.setGen i x).gens[i] = x := by simp [Shared.setGen]
   rw [this]; exact hx
 · have h1 : (s.setGen g x).gens[i]? = s.gens[i]? := (GenOnly.setGen s g x).2 i e
   rw [Array.getElem?_eq_getElem hi] at h1
   obtain ⟨hi', e'⟩ := Array.getElem?_eq_some_iff.mp h1.symm
   rw [← e']; exact h _ (Array.getElem_mem hi')
theorem setGen_other {s : Shared} {g i : Nat} {x y : GenState} (hi : i ≠ g) (h : s.gens[i]? = some y) : (s.setGen g x).gens[i]? = some y := ((GenOnly.setGen s g x).2 i hi).trans h
noncomputable def GWalk (G : Gl) (k : Nat) (it : Value) (gp : Nat -> Prop) : List D -> (Addr -> Prop) -> Shared -> Prop
 | [], Own, s => ∀ s' A, (∀ b o, Own b -> s.heap.get? b = some o -> s'.heap.get? b = some o) -> (∀ (g : Nat) x, gp g -> s.gens[g]? = some x -> s'.gens[g]? = some x) -> AllBare s'.gens -> s.toks ≤ s'.toks -> TopG G s'.heap -> Aok k A ->
  wpAny (model G.prog G.w) A (pyNext it) (fun r s'' => r = none ∧ Chg Own gp s' s'') (fun _ _ => False) s'
 | d :: ds, Own, s => ∀ s' A, (∀ b o, Own b -> s.heap.get? b = some o -> s'.heap.get? b = some o) -> (∀ (g : Nat) x, gp g -> s.gens[g]? = some x -> s'.gens[g]? = some x) -> AllBare s'.gens -> s.toks ≤ s'.toks -> TopG G s'.heap -> Aok k A ->
  wpAny (model G.prog G.w) A (pyNext it) (fun r s'' => ∃ v Own', r = some v ∧ (∀ b, Own' b -> Own b ∨ s'.heap.get? b = none) ∧ (∀ b, Own' b -> ∃ o, s''.heap.get? b = some o) ∧
   (∀ O' μ', (∀ a, O' a -> (∃ o, s'.heap.get? a = some o) ∨ Own' a) -> Holds O' μ' s''.heap d v) ∧ noOwn it v s'' ∧ Chg Own gp s' s'' ∧ GWalk G k it gp ds Own' s'') (fun _ _ => False) s'
theorem GWalk.later {G : Gl} {k : Nat} {it : Value} {gp : Nat -> Prop} {Own : Addr -> Prop} {ds : List D} {s s' : Shared} (W : GWalk G k it gp ds Own s)
 (h1 : ∀ b o, Own b -> s.heap.get? b = some o -> s'.heap.get? b = some o) (h2 : ∀ (g : Nat) x, gp g -> s.gens[g]? = some x -> s'.gens[g]? = some x) (h3 : s.toks ≤ s'.toks) : GWalk G k it gp ds Own s' := by
 cases ds with
 | nil => exact fun s'' A e1 e2 e3 e4 e5 e6 => W s'' A (fun b o p q => e1 b o p (h1 b o p q)) (fun g x p q => e2 g x p (h2 g x p q)) e3 (Nat.le_trans h3 e4) e5 e6
 | cons d ds => exact fun s'' A e1 e2 e3 e4 e5 e6 => W s'' A (fun b o p q => e1 b o p (h1 b o p q)) (fun g x p q => e2 g x p (h2 g x p q)) e3 (Nat.le_trans h3 e4) e5 e6
section
variable {G : Gl} {sc : Scope} {k : Nat} {σ : St}
noncomputable def EvG (G : Gl) (sc : Scope) (k : Nat) (σ : St) (e : Expr) (ds : List D) : Prop :=
 ∀ c μ A s, c.env.scope = sc -> Aok k A -> R G c μ σ s ->
  wpAny (model G.prog G.w) A (eval e c.env) (fun x s2 => Kp s s2 ∧ ∃ a g Own gp, x = .ref a ∧ Own a ∧ s2.heap.IsGen a g ∧ (∀ b, Own b -> s.heap.get? b = none) ∧ (∀ b, Own b -> ∃ o, s2.heap.get? b = some o) ∧
   (∀ g : Nat, gp g -> s.gens[g]? = none) ∧ (∀ g : Nat, gp g -> ∃ x, s2.gens[g]? = some x) ∧ GWalk G k (.ref a) gp ds Own s2) (fun _ _ => False) s
set_option tactic.hygienic true in
theorem ex_forG {tgt iter : Expr} {body : List Stmt} {p : Pos} {ds : List D} {Q : Fl -> St -> Prop} (hit : EvG G sc k σ iter ds) (Inv : List D -> St -> Prop) (h0 : Inv ds σ)
 (turn : ∀ d r σ1, Inv (d :: r) σ1 -> ∃ σ2, As G sc k tgt d σ1 σ2 ∧ Exs G sc k σ2 body (fun fl σ3 => match fl with | .next => Inv r σ3 | .cont => Inv r σ3 | .brk => Q .next σ3 | .ret d => Q (.ret d) σ3))
 (fin : ∀ σ1, Inv [] σ1 -> Q .next σ1) (hs : autoParam (∀ env x, foldedSetIterable iter env x = pure x) ir) : Ex G sc k σ (.For tgt iter body [] p) Q := by
 intro c μ A s hc hfm hA r
 refine wpAny_For (wpAny_mono (hit c μ A s hc hA r) (fun x s2 h2 => ?_) fun _ _ f => f) (hs _)
 obtain ⟨k2, a, g0, Own0, gp, rfl, hOa, hgen, hwf, hwe, hgf, hge, W0⟩ := h2
 refine wpAny_pyIter_gen hgen ?_
 generalize (Value.ref a) = it at W0
 have r2 := r.kp k2
 let J : Nat -> Shared -> Prop := fun n s' => ∃ rest σ1 μ1 Own, rest.length = n ∧ Inv rest σ1 ∧ R G (c.plus Own Own gp s') μ1 σ1 s' ∧ GWalk G k it gp rest Own s' ∧ (∀ b, Own b -> ∃ o, s'.heap.get? b = some o) ∧ (∀ b, Own b -> ∀ o, ¬ c.base b o)
 have hgn : ∀ g x, c.gb g x -> ¬ gp g := fun g x h hg => by
  have := r.gens g x h
  rw [hgf g hg] at this; cases this
 have out : ∀ {μ1 σ1 Own} {s' s'' : Shared}, R G (c.plus Own Own gp s') μ1 σ1 s'' -> R G c μ1 σ1 s'' := fun {μ1 σ1 Own s' s''} q =>
  q.move (q.firm hfm) rfl rfl (fun a o n _ m => n (by rcases m with m | m; exact .inl (.inl m); exact .inr m)) (fun b o _ e => e) q.os (Nat.le_refl _) q.bare (fun g x h => q.gens g x (.inl h)) (fun a o h => q.base a o (.inl h)) r.top r.old
   (fun a h => ⟨fun q' => (q.mine a h).1 (.inl q'), fun o q' => (q.mine a h).2 o (.inl q')⟩) rfl hfm
 have r0 : R G (c.plus Own0 Own0 gp s2) μ σ s2 := by
  refine r.move (r.firm hfm) rfl rfl (fun a o n e m => ?_) (fun b o _ e => k2.heap b o e) r2.os k2.toks r2.bare (fun g x h => ?_) (fun a o h => ?_) (fun h hb => r.top h fun a o e => hb a o (.inl e)) (fun a h => ?_) (fun a h => ?_) rfl hfm
  · rcases m with (m | m) | m
    · exact n (.inl m)
    · rw [hwf a m] at e; cases e
    · exact n (.inr m)
  · rcases h with h | h
    · exact r2.gens g x h
    · exact h.2
  · rcases h with h | h
    · exact r2.base a o h
    · exact h.2
  · rcases h with h | h
    · obtain ⟨o, ho⟩ := r.old a h
      exact ⟨o, .inl ho⟩
    · obtain ⟨o, ho⟩ := hwe a h
      exact ⟨o, .inr ⟨h, ho⟩⟩
  · have hno : ¬ Own0 a := fun q => by
     obtain ⟨o, ho⟩ := r.mutAt (a := a) h
     rw [hwf a q] at ho; cases ho
    refine ⟨fun q => ?_, fun o ho => ?_⟩
    · rcases q with q | q
      · exact (r2.mine a h).1 q
      · exact hno q
    · rcases ho with ho | ho
      · exact (r2.mine a h).2 o ho
      · exact hno ho.1
 refine codeAny_forLoop_any J (fun n s' hq => ?_) ds.length ⟨ds, σ, μ, Own0, rfl, h0, r0, W0, hwe, fun b hb o ho => by
  have := r.base b o ho
  rw [hwf b hb] at this; cases this⟩
 obtain ⟨rest, σ1, μ1, Own, hn, hI, q, W, e1, e2⟩ := hq
 cases rest with
 | nil =>
  refine wpAny_mono (W s' A (fun _ _ _ e => e) (fun _ _ _ e => e) q.bare (Nat.le_refl _) q.topG hA) (fun rr s'' hq => ?_) fun _ _ f => f.elim
  obtain ⟨hr, ch⟩ := hq
  subst hr
  have q1 : R G c μ1 σ1 s'' := by
   refine q.move (q.firm hfm) rfl rfl (fun a o n _ m => n (by rcases m with m | m; exact .inl (.inl m); exact .inr m)) (fun b o h e => ch.heap b o (fun w => h (.inr w)) e) (ch.os.trans q.os) ch.toks (ch.bare q.bare) (fun g x h => ?_) (fun a o h => ?_) r.top r.old
    (fun a h => ⟨fun q' => (q.mine a h).1 (.inl q'), fun o q' => (q.mine a h).2 o (.inl q')⟩) rfl hfm
   · exact ch.gens g x (hgn g x h) (q.gens g x (.inl h))
   · exact ch.heap a o (fun hw => e2 a hw o h) (q.base a o (.inl h))
  exact wpAny_execs_nil ⟨.next, σ1, μ1, fin σ1 hI, q1, rfl⟩
 | cons d rest =>
  refine wpAny_mono (W s' A (fun _ _ _ e => e) (fun _ _ _ e => e) q.bare (Nat.le_refl _) q.topG hA) (fun rr s'' hq => ?_) fun _ _ f => f.elim
  obtain ⟨v, Own', hr, hO', hE', hv, hown, ch, W'⟩ := hq
  subst hr
  have hno : ∀ a, (c.plus Own Own gp s').mut μ1 a -> ¬ Own' a := fun a h q' => by
   rcases hO' a q' with q' | q'
   · exact (q.mine a h).1 (.inr q')
   · obtain ⟨o, ho⟩ := q.mutAt h
     rw [q'] at ho; cases ho
  have hnb : ∀ b, Own' b -> ∀ o, ¬ c.base b o := fun b hb o ho => by
   rcases hO' b hb with q' | q'
   · exact e2 b q' o ho
   · have := q.base b o (.inl ho)
     rw [q'] at this; cases this
  have q' : R G (c.plus Own' Own' gp s'') μ1 σ1 s'' := by
   refine q.move (q.firm hfm) rfl rfl (fun a o n e m => ?_) (fun b o h e => ch.heap b o (fun w => h (.inr w)) e) (ch.os.trans q.os) ch.toks (ch.bare q.bare) (fun g x h => ?_) (fun a o h => ?_) (fun h hb => r.top h fun a o e => hb a o (.inl e)) (fun a h => ?_) (fun a h => ?_) rfl hfm
   · rcases m with (m | m) | m
     · exact n (.inl (.inl m))
     · rcases hO' a m with m | m
       · exact n (.inl (.inr m))
       · rw [m] at e; cases e
     · exact n (.inr m)
   · rcases h with h | h
     · exact ch.gens g x (hgn g x h) (q.gens g x (.inl h))
     · exact h.2
   · rcases h with h | h
     · exact ch.heap a o (fun hw => e2 a hw o h) (q.base a o (.inl h))
     · exact h.2
   · rcases h with h | h
     · obtain ⟨o, ho⟩ := r.old a h
       exact ⟨o, .inl ho⟩
     · obtain ⟨o, ho⟩ := hE' a h
       exact ⟨o, .inr ⟨h, ho⟩⟩
   · refine ⟨fun z => ?_, fun o ho => ?_⟩
     · rcases z with z | z
       · exact (q.mine a h).1 (.inl z)
       · exact hno a h z
     · rcases ho with ho | ho
       · exact (q.mine a h).2 o (.inl ho)
       · exact hno a h ho.1
  obtain ⟨σ2, hAs, hEx⟩ := turn d rest σ1 hI
  have hv' := hv ((c.plus Own' Own' gp s'').all μ1) μ1 fun a ha => by
   rcases ha with (ha | ha) | ha
   · obtain ⟨o, ho⟩ := r.old a ha
     exact .inl ⟨o, q.base a o (.inl ho)⟩
   · exact .inr ha
   · exact .inl (q.mutAt ha)
  have rest3 : wpAny (model G.prog G.w) A (assign tgt c.env v) (fun _ s₂ => wpAny (model G.prog G.w) A (execs body c.env) (fun f s₃ => match f with
   | .next | .cont => ∃ m, m < n ∧ J m s₃
   | .brk => Post G c Q .next s₃
   | .ret v => Post G c Q (.ret v) s₃) (fun _ _ => False) s₂) (fun _ _ => False) s'' := by
   refine wpAny_mono (wpAny_toks_of (Nat.le_refl s''.toks) (hAs (c.plus Own' Own' gp s'') μ1 A s'' v hc hfm hA q' hv')) (fun _ s3 hq => ?_) fun _ _ f => f.2
   obtain ⟨htk0, r3, p3⟩ := hq
   refine wpAny_mono (wpAny_toks_of htk0 (hEx (c.plus Own' Own' gp s'') μ1 A s3 hc hfm hA r3)) (fun f s4 hq => ?_) fun _ _ f => f.2
   obtain ⟨htk, fl, σ3, μ3, hQ, r4, hf⟩ := hq
   have wr4 : ∀ b, Own' b -> ∃ o, s4.heap.get? b = some o := fun b hb => by
    obtain ⟨o, ho⟩ := hE' b hb
    exact ⟨o, r4.base b o (.inr ⟨hb, ho⟩)⟩
   have again : R G (c.plus Own' Own' gp s4) μ3 σ3 s4 := by
    refine r4.move (r4.firm hfm) rfl rfl (fun a o n _ m => n m) (fun b o _ e => e) r4.os (Nat.le_refl _) r4.bare (fun g x h => ?_) (fun a o h => ?_) (fun h hb => r.top h fun a o e => hb a o (.inl e)) (fun a h => ?_) (fun a h => ?_) rfl hfm
    · rcases h with h | h
      · exact r4.gens g x (.inl h)
      · exact h.2
    · rcases h with h | h
      · exact r4.base a o (.inl h)
      · exact h.2
    · rcases h with h | h
      · obtain ⟨o, ho⟩ := r.old a h
        exact ⟨o, .inl ho⟩
      · obtain ⟨o, ho⟩ := wr4 a h
        exact ⟨o, .inr ⟨h, ho⟩⟩
    · refine ⟨(r4.mine a h).1, fun o ho => ?_⟩
      rcases ho with ho | ho
      · exact (r4.mine a h).2 o (.inl ho)
      · exact (r4.mine a h).1 (.inr ho.1)
   have go : Inv rest σ3 -> ∃ m, m < n ∧ J m s4 := fun hI3 =>
    ⟨rest.length, by simp at hn; exact Nat.le_of_eq hn, rest, σ3, μ3, Own', rfl, hI3, again, W'.later (fun b o hp e => r4.base b o (.inr ⟨hp, e⟩)) (fun g x hg e => r4.gens g x (.inr ⟨hg, e⟩)) htk, wr4, hnb⟩
   cases fl with
   | next => cases hf; exact go hQ
   | cont => cases hf; exact go hQ
   | brk => cases hf; exact ⟨.next, σ3, μ3, hQ, out r4, rfl⟩
   | ret dd =>
    obtain ⟨hd, u, rfl, hu⟩ := hf
    exact ⟨.ret dd, σ3, μ3, hQ, out r4, hd, u, rfl, hu.firm (fun a o n _ m => n (by rcases m with m | m; exact .inl (.inl m); exact .inr m)) (fun _ _ _ e => e) hd⟩
  have fin3 := wpAny_mono rest3 (fun _ _ x => wpAny_mono x (fun _ _ y => y) (fun e s' f => (f.elim : notedBy (model G.prog G.w) A c.env (fun e s' => cameBackBy (model G.prog G.w) A c.env (fun _ _ => False) e s') e s'))) (fun e s' f => (f.elim : notedBy (model G.prog G.w) A c.env (fun e s' => cameBackBy (model G.prog G.w) A c.env (fun _ _ => False) e s') e s'))
  exact hown tgt fin3
end
end
section
section
variable {G : Gl} {sc : Scope} {k : Nat} {σ : St}
structure LG (G : Gl) (k : Nat) (P : Addr -> Prop) (a : Addr) (gp : Nat -> Prop) (S : Addr) (s : Shared) (all : List D) (n : Nat) (s' : Shared) : Prop where
 kp : Kp s s'
 ex : ∃ rest done Own acc c0, rest.length = n ∧ all = done ++ rest ∧ GWalk G k (.ref a) gp rest Own s' ∧ s'.heap.get? S = some { cls := .type "list", dict := none, data := .seq acc c0, slots := #[] } ∧
  HoldsL (fun b => P b ∨ b = S ∨ Own b) [] s'.heap done acc.toList ∧ (∀ b, Own b -> s.heap.get? b = none) ∧ (∀ b, Own b -> ∃ o, s'.heap.get? b = some o) ∧ ¬ Own S
theorem listG_loop {c : Cx} {μ : List Addr} {A : Around} {s s2 : Shared} {a : Addr} {gp : Nat -> Prop} {S : Addr} {res : Value} {all : List D} {R' : Result -> Shared -> Prop} (r : R G c μ σ s) (hA : Aok k A) (hA1 : Aok k A.in1) (hcl : D.cleanL all = true) (hz : all.length ≤ 16777216)
 (hgp : ∀ g : Nat, gp g -> s.gens[g]? = none) (hSn : s.heap.get? S = none) (h0 : LG G k (c.all μ) a gp S s all all.length s2)
 (hR : ∀ s' acc c0, Kp s s' -> s'.heap.get? S = some { cls := .type "list", dict := none, data := .seq acc c0, slots := #[] } -> HoldsL (fun b => c.all μ b ∨ b = S) μ s'.heap all acc.toList -> R' (.ok (.ret res)) s') :
 codeAny (model G.prog G.w) A (.builtin "list.extend.loop" ⟨[.ref S, .ref a, res], []⟩) R' s2 := by
 have main : ∀ n s', LG G k (c.all μ) a gp S s all n s' -> codeAny (model G.prog G.w) A (.builtin "list.extend.loop" ⟨[.ref S, .ref a, res], []⟩) R' s' := by
  intro n
  induction n using Nat.strongRecOn with
  | ind n ih =>
   intro s' L
   obtain ⟨kp, rest, done, Own, acc, c0, e1, e2, W, hS, hh, hOf, hOe, hOS⟩ := L
   have hTG : TopG G s'.heap := r.topG.keeps kp.heap
   refine codeAny_builtin F.entry_extend_loop ?_
   rw [Around.under_plainId F.plain_extend_loop _]
   show wpAny _ A.in1 (pyNext (.ref a) >>= _) _ _ s'
   refine wpAny_bind ?_
   have hgn : ∀ {s1 s3 : Shared} {g : Nat} {x : GenState}, s.gens[g]? = some x -> Chg Own gp s1 s3 -> s1.gens[g]? = some x -> s3.gens[g]? = some x := fun {s1 s3 g x} h ch e => ch.gens g x (fun hg => by rw [hgp g hg] at h; cases h) e
   cases rest with
   | nil =>
    refine wpAny_mono (W s' A.in1 (fun _ _ _ e => e) (fun _ _ _ e => e) (kp.bare r.bare) (Nat.le_refl _) hTG hA1) (fun rr s'' hq => ?_) fun _ _ f => f.elim
    obtain ⟨hr, ch⟩ := hq
    subst hr
    rw [List.append_nil] at e2
    subst e2
    have kp' : Kp s s'' := ⟨⟨fun b o e => ch.heap b o (fun w => by rw [hOf b w] at e; cases e) (kp.heap b o e), ch.os.trans kp.os, fun hb => ch.bare (kp.bare hb), fun g x e => hgn e ch (kp.gens g x e)⟩, Nat.le_trans kp.toks ch.toks⟩
    refine wpAny_pure (hR s'' acc c0 kp' (ch.heap S _ hOS hS) ?_)
    exact hh.clean (fun b o n e q => n (q.imp id .inl)) (fun b o n e => ch.heap b o (fun w => n (.inr (.inr w))) e) hcl
   | cons d rest =>
    refine wpAny_mono (W s' A.in1 (fun _ _ _ e => e) (fun _ _ _ e => e) (kp.bare r.bare) (Nat.le_refl _) hTG hA1) (fun rr s'' hq => ?_) fun _ _ f => f.elim
    obtain ⟨v, Own', hr, hO', hE', hv, hown, ch, W'⟩ := hq
    subst hr
    have hS' := ch.heap S _ hOS hS
    have kp' : Kp s s'' := ⟨⟨fun b o e => ch.heap b o (fun w => by rw [hOf b w] at e; cases e) (kp.heap b o e), ch.os.trans kp.os, fun hb => ch.bare (kp.bare hb), fun g x e => hgn e ch (kp.gens g x e)⟩, Nat.le_trans kp.toks ch.toks⟩
    have hO'f : ∀ b, Own' b -> s.heap.get? b = none := fun b hb => by
     rcases hO' b hb with h | h
     · exact hOf b h
     · cases e : s.heap.get? b with
       | none => rfl
       | some o => rw [kp.heap b o e] at h; cases h
    have hO'S : ¬ Own' S := fun q => by
     rcases hO' S q with h | h
     · exact hOS h
     · rw [hS] at h; cases h
    have hdl : done.length = acc.size := by simpa using hh.length
    have hal : all.length = done.length + (rest.length + 1) := by rw [e2]; simp
    have hcl2 : D.cleanL done = true ∧ d.clean = true := by
     rw [e2, cleanL_append, Bool.and_eq_true] at hcl
     have h2 : (d.clean && D.cleanL rest) = true := hcl.2
     rw [Bool.and_eq_true] at h2
     exact ⟨hcl.1, h2.1⟩
    show wpAny _ A.in1 (updateSeq S (·.push v) >>= _) _ _ _
    refine wpAny_bind ?_
    refine wpAny_updateSeq hS' rfl (wpAny_pure ⟨plainId_quiet F.plain_extend_loop _, ih rest.length (by simp at e1; exact Nat.le_of_eq e1) _ ⟨⟨⟨fun b o e => ?_, kp'.os, kp'.bare, kp'.gens⟩, kp'.toks⟩, rest, done ++ [d], Own', acc.push v, _, rfl, by rw [e2]; simp, ?_, Heap.get?_update_self _ hS' rfl, ?_, hO'f, fun b hb => ?_, hO'S⟩⟩) (by rw [sizeLine_eq]; omega) (by show (acc.push v).size ≤ sizeLine + 1; rw [Array.size_push, sizeLine_eq]; omega)
    · exact (Heap.get?_update_other _ _ (fun q : S = b => by rw [← q, hSn] at e; cases e)).trans (kp'.heap b o e)
    · exact W'.later (fun b o hb e => (Heap.get?_update_other _ _ (fun q : S = b => hO'S (q ▸ hb))).trans e) (fun _ _ _ e => e) (Nat.le_refl _)
    · rw [Array.toList_push]
      have oth : ∀ b o, b ≠ S -> s''.heap.get? b = some o -> (s''.heap.update S (Obj.mapSeq (·.push v))).get? b = some o := fun b o hb e => (Heap.get?_update_other _ _ (Ne.symm hb)).trans e
      refine HoldsL.append ?_ ⟨?_, trivial⟩
      · refine hh.clean (fun b o n e q => ?_) (fun b o n e => oth b o (fun q => n (.inr (.inl q))) (ch.heap b o (fun w => n (.inr (.inr w))) e)) hcl2.1
        rcases q with q | q | q
        · exact n (.inl q)
        · exact n (.inr (.inl q))
        · rcases hO' b q with q | q
          · exact n (.inr (.inr q))
          · rw [q] at e; cases e
      · refine (hv (fun b => c.all μ b ∨ b = S ∨ Own' b) [] (fun b hb => ?_)).clean (fun b o n e q => n q) (fun b o n e => oth b o (fun q => n (.inr (.inl q))) e) hcl2.2
        rcases hb with q | q | q
        · obtain ⟨o, ho⟩ := r.allAt q
          exact .inl ⟨o, kp.heap b o ho⟩
        · rw [q]; exact .inl ⟨_, hS⟩
        · exact .inr q
    · obtain ⟨o, ho⟩ := hE' b hb
      exact ⟨o, (Heap.get?_update_other _ _ (fun q : S = b => hO'S (q ▸ hb))).trans ho⟩
 exact main all.length s2 h0
theorem evN_listG {f e : Expr} {p : Pos} {ds : List D} (hf : Ev G sc (k + 1) σ f (.val (.type "list"))) (he : EvG G sc (k + 1) σ e ds) (hcl : D.cleanL ds = true) (hz : ds.length ≤ 16777216) (hk : k < 39)
 (hs : autoParam (∀ env, starEach [e] env = (false, eval e env) :: starEach [] env) ir)
 (hs' : autoParam (∀ env, eval (.Call f [e] [] p) env = (do callWith p (← eval f env) [] (backTo p (starEach [e] env)) [])) ir) : EvN G sc k σ (.Call f [e] [] p) ds := by
 intro c μ A s hcs hA r
 have hA1 : Aok (k + 1) A := hA.step rfl (Nat.le_add_right _ _) (Nat.le_add_right _ _) (by exact dl1 1 40 1 39 hk rfl)
 have hA3 : Aok (k + 1) A.in1.in1 := hA.step rfl (by simp) (by simp) (by exact dl1 1 40 1 39 hk rfl)
 have hA2 : Aok (k + 1) A.in1 := hA.in1 (by exact dl1 1 40 1 39 hk rfl)
 rw [hs']
 refine wpAny_bind (wpAny_mono (hf c μ A s hcs hA1 r) (fun v s1 hq => ?_) fun _ _ f => f)
 obtain ⟨k1, x1⟩ := hq
 have x1' : v = .type "list" := x1
 subst x1'
 have r1 := r.kp k1
 rw [hs]
 refine PySem.callWith_type rfl (evalArgs_any rfl ?_)
 refine Calls.spliced_cons (x := eval e c.env) (wpAny_mono (he c μ A s1 hcs hA1 r1) (fun x s2 hq => ?_) fun _ _ f => f)
 obtain ⟨k2, a, g, Own, gp, hx, hOa, hgen, hOf, hOe, hgf, hge, W⟩ := hq
 refine Calls.spliced_nil ?_
 subst hx
 have hSn : s1.heap.get? s2.heap.objs.size = none := none_of_kp k2 (fresh_size _)
 have hOS : ¬ Own s2.heap.objs.size := fun q => by
  obtain ⟨o, ho⟩ := hOe _ q
  exact Nat.lt_irrefl _ (Heap.lt_size ho)
 refine wpAny_mono (Q := fun v s' => Kp s1 s' ∧ NewL c μ s1 s' ds v) ?_ (fun v s' hp => by obtain ⟨kp, a, vs, e1, e2, e3⟩ := hp; exact ⟨k1.trans kp, a, vs, e1, none_of_kp k1 e2, e3⟩) fun _ _ f => f
 refine callType_codes (Q₁ := fun obj s₁ => obj = .ref s2.heap.objs.size ∧ s₁ = { s2 with heap := s2.heap.push { cls := .type "list", data := .seq #[] } }) F.called_list (F.typeCall_list_1 _) F.entry_list_init
  (code_list_new _ ⟨rfl, rfl⟩) fun obj s₁ h₁ => ?_
 obtain ⟨rfl, rfl⟩ := h₁
 have hS : (s2.heap.push { cls := .type "list", data := .seq #[] }).get? s2.heap.objs.size = some { cls := .type "list", data := .seq #[] } := Heap.get?_push_size _ rfl
 refine ⟨⟨_, hS, rfl⟩, F.args_list_init_2 _ _, ?_⟩
 have hgen3 := hgen.push { cls := .type "list", data := .seq #[] }
 have hSa : s2.heap.objs.size ≠ a := fun q => hOS (q ▸ hOa)
 generalize hSS : s2.heap.objs.size = S at hS hSn hOS hSa
 have k3 : Kp s2 { s2 with heap := s2.heap.push { cls := .type "list", data := .seq #[] } } := Kp.push s2 _ s2.toks
 have hO3 : ∀ b o, Own b -> s2.heap.get? b = some o -> (s2.heap.push { cls := .type "list", data := .seq #[] }).get? b = some o := fun b o _ e => Heap.get?_push_of_some _ e
 generalize hs3 : ({ s2 with heap := s2.heap.push { cls := .type "list", data := .seq #[] } } : Shared) = s3 at k3
 have e3 : s3.heap = s2.heap.push { cls := .type "list", data := .seq #[] } := by rw [← hs3]
 rw [← e3] at hS hgen3 hO3
 show wpAny _ A.in1.in1 (do let old ← Builtin.List.listItems (.ref S); Builtin.List.listUpdate (.ref S) (fun _ => #[]); letGo old.toList.reverse; Builtin.List.listExtendWith (.ref S) (.ref a) .none) _ _ s3
 refine wpAny_bind ?_
 unfold Builtin.List.listItems
 refine wpAny_bind (wpAny_seqItems hS rfl (wpAny_pure ?_))
 show wpAny _ A.in1.in1 (updateSeq S (fun _ => #[]) >>= fun _ => letGo (#[] : Array Value).toList.reverse >>= fun _ => Builtin.List.listExtendWith (.ref S) (.ref a) .none) _ _ s3
 refine wpAny_bind (wpAny_updateSeq hS rfl ?_)
 have hS₂ := Heap.get?_update_self (Obj.mapSeq (fun _ => (#[] : Array Value))) hS rfl
 have oth : ∀ b o, b ≠ S -> s3.heap.get? b = some o -> (s3.heap.update S (Obj.mapSeq (fun _ => (#[] : Array Value)))).get? b = some o :=
  fun b o hb e => (Heap.get?_update_other _ _ (Ne.symm hb)).trans e
 refine wpAny_bind (wpAny_letGo ?_)
 have hgen4 : (s3.heap.update S (Obj.mapSeq (fun _ => (#[] : Array Value)))).IsGen a g := (by obtain ⟨o, nm, qn, ho, rr⟩ := hgen3; exact ⟨o, nm, qn, oth a o (Ne.symm hSa) ho, rr⟩)
 unfold Builtin.List.listExtendWith
 refine wpAny_bind (wpAny_typeOf hgen4.typeIs ?_)
 have h1 : Builtin.List.listSameRef (.ref S) (.ref a) = false := by simp [Builtin.List.listSameRef, hSa]
 have h2 : (Value.type "generator" == Value.type "list") = false := by decide
 have h3 : (Value.type "generator" == Value.type "tuple") = false := by decide
 simp only [h1, h2, h3, Bool.or_false, Bool.false_eq_true, if_false]
 refine wpAny_bind (wpAny_pyIter_gen hgen4 ?_)
 refine wpAny_bind (wpAny_holding ?_)
 unfold Builtin.List.listLengthHint
 refine wpAny_bind (wpAny_specialOf hgen4.typeIs F.gen_no_len ?_)
 show wpAny _ A.in1.in1 (specialOf (Value.ref a) (Str.ofString "__length_hint__") >>= _) _ _ _
 refine wpAny_bind (wpAny_specialOf hgen4.typeIs F.gen_no_hint ?_)
 refine wpAny_pure ?_
 show wpAny _ A.in1.in1 (rule "list.extend.makes-room" >>= fun _ => Builtin.List.listTouch (.ref S) >>= fun _ =>
  again (.builtin "list.extend.loop" ⟨[.ref S, .ref a, .none], []⟩)) _ _ _
 refine wpAny_bind (wpAny_rule ?_)
 refine wpAny_bind ?_
 show wpAny _ A.in1.in1 (updateSeq S (·.push .none) >>= fun _ => updateSeq S (·.pop)) _ _ _
 refine wpAny_bind (wpAny_updateSeq hS₂ rfl ?_)
 have hS₃ := Heap.get?_update_self (Obj.mapSeq (·.push Value.none)) hS₂ rfl
 refine wpAny_updateSeq (hz := by seq_fits) hS₃ rfl ?_
 have hS₄ := Heap.get?_update_self (Obj.mapSeq (·.pop)) hS₃ rfl
 have oth4 : ∀ b o, b ≠ S -> s3.heap.get? b = some o -> (((s3.heap.update S (Obj.mapSeq (fun _ => (#[] : Array Value)))).update S (Obj.mapSeq (·.push Value.none))).update S (Obj.mapSeq (·.pop))).get? b = some o :=
  fun b o hb e => (Heap.get?_update_other _ _ (Ne.symm hb)).trans ((Heap.get?_update_other _ _ (Ne.symm hb)).trans (oth b o hb e))
 have k23 := k2.trans k3
 refine wpAny_pure ⟨plainId_quiet F.plain_extend_loop _, listG_loop (k := k + 1) (all := ds) (s := s1) r1 hA2 hA3 hcl hz hgf hSn ⟨⟨⟨fun b o e => oth4 b o (fun q => by rw [q, hSn] at e; cases e) (k23.heap b o e), k23.os, k23.bare, k23.gens⟩, k23.toks⟩, ds, [], Own, _, _, rfl, rfl, ?_, hS₄, trivial, hOf, fun b hb => ?_, hOS⟩ fun s' acc c0 kp hS' hh => ?_⟩
 · exact W.later (fun b o hb e => oth4 b o (fun q => hOS (q ▸ hb)) (hO3 b o hb e)) (fun g x _ e => k3.gens g x e) k3.toks
 · obtain ⟨o, ho⟩ := hOe b hb
   exact ⟨o, oth4 b o (fun q => hOS (q ▸ hb)) (hO3 b o hb ho)⟩
 · exact ⟨rfl, kp, S, acc, rfl, hSn, ⟨_, hS'⟩, hh⟩
end
end
section
noncomputable def D.scal : D -> Bool
 | .none => true
 | .bool _ => true
 | .int _ => true
 | .str _ => true
 | _ => false
theorem scal_any {O O' : Addr -> Prop} {μ μ' : List Addr} {h h' : Heap} : ∀ {d : D} {v : Value}, d.scal = true -> Holds O μ h d v -> Holds O' μ' h' d v
 | .none, _, _, e => e
 | .bool _, _, _, e => e
 | .int _, _, _, e => e
 | .str _, _, _, e => e
 | .tup _, _, f, _ => nomatch f
 | .lst _, _, f, _ => nomatch f
 | .bor _, _, f, _ => nomatch f
 | .new _, _, f, _ => nomatch f
 | .val _, _, f, _ => nomatch f
 | .rng _ _, _, f, _ => nomatch f
 | .dct _, _, f, _ => nomatch f
 | .h _, _, f, _ => nomatch f
theorem scal_firm : ∀ {d : D}, d.scal = true -> d.firm = true
 | .none, _ => rfl
 | .bool _, _ => rfl
 | .int _, _ => rfl
 | .str _, _ => rfl
 | .tup _, f => nomatch f
 | .lst _, f => nomatch f
 | .bor _, f => nomatch f
 | .new _, f => nomatch f
 | .val _, f => nomatch f
 | .rng _ _, f => nomatch f
 | .dct _, f => nomatch f
 | .h _, f => nomatch f
theorem TopG.off {G : Gl} {h0 h1 h2 : Heap} {L : Addr} (T0 : TopG G h0) (hL : h0.get? L = none) (T1 : TopG G h1) (hk : ∀ a o, a ≠ L -> h1.get? a = some o -> h2.get? a = some o) : TopG G h2 := by
 have ne : ∀ {a o}, h0.get? a = some o -> a ≠ L := fun e q => by rw [q, hL] at e; cases e
 refine ⟨fun a o e => hk a o (ne (T0.k a o e)) (T1.k a o e), T1.g.at' fun o e => hk _ o ?_ e, T1.b.at' fun o e => hk _ o ?_ e, ?_⟩
 · obtain ⟨o, _, _, e, _⟩ := T0.g; exact ne e
 · obtain ⟨o, _, _, e, _⟩ := T0.b; exact ne e
 · obtain ⟨mc, ⟨o, es, ep, e0, r⟩, hn⟩ := T1.nolimit
   obtain ⟨_, ⟨o0, _, _, e, _⟩, _⟩ := T0.nolimit
   exact ⟨mc, ⟨o, es, ep, hk _ _ (ne e) e0, r⟩, hn⟩
structure GEnv (G : Gl) (env : Env) (sc : Scope) (h0 : Heap) : Prop where
 scp : env.scope = sc
 kind : sc.kind = .function
 nocell : ∀ x, sc.names.lookup x ≠ some .cell
 nofree : ∀ x, sc.names.lookup x ≠ some .free
 glob : env.globals = mainGlobals
 blt : env.builtins = builtinsNs
 cells : env.cells = []
 top : TopG G h0
 new : h0.get? env.locals = none
noncomputable def gcx (env : Env) (s : Shared) : Cx := { env := env, O := fun _ => False, base := fun a o => a ≠ env.locals ∧ s.heap.get? a = some o, gb := fun g x => s.gens[g]? = some x, os := s.os, mutc := [], fm := true }
structure GSt (G : Gl) (env : Env) (σ : St) (s : Shared) : Prop where
 tok : 0 < s.toks
 bare : AllBare s.gens
 top : TopG G s.heap
 ns : ∃ m, s.heap.Ns env.locals m ∧ ∀ x d, σ.vars.lookup x = some d -> env.kindOf x = some .local -> ∃ v, m x = some v ∧ Holds (fun _ => False) [] s.heap d v
 scal : ∀ x d, σ.vars.lookup x = some d -> d.scal = true
 own : σ.own = []
noncomputable abbrev Sin (env : Env) (s s' : Shared) : Prop := Chg (fun a => a = env.locals) (fun _ => False) s s'
section
variable {G : Gl} {env : Env} {sc : Scope} {h0 : Heap} {σ σ' : St} {s s' : Shared}
theorem GSt.r (g : GSt G env σ s) (E : GEnv G env sc h0) : R G (gcx env s) [] σ s where
 os := rfl
 tok := g.tok
 bare := g.bare
 gens := fun _ _ h => h
 base := fun a o h => h.2
 top := fun h hh => E.top.off E.new g.top fun a o n e => hh a o ⟨n, e⟩
 old := fun a h => h.elim
 len := by rw [g.own]; rfl
 nodup := List.nodup_nil
 mine := fun a h => ⟨fun q => q, fun o q => by
  rcases h with h | h | h
  · cases h
  · exact q.1 h
  · cases h⟩
 loc := by
  obtain ⟨m, hm, h⟩ := g.ns
  exact ⟨m, hm, fun x d e k => (by obtain ⟨v, e1, e2⟩ := h x d e k; exact ⟨v, e1, scal_any (g.scal x d e) e2⟩)⟩
 cell := fun x d e k => by
  rcases k with k | k
  · have k' : env.scope.names.lookup x = some .cell := k
    rw [E.scp] at k'
    exact absurd k' (E.nocell x)
  · have k' : env.scope.names.lookup x = some .free := k
    rw [E.scp] at k'
    exact absurd k' (E.nofree x)
 own := fun n l e => by rw [g.own] at e; cases e
 kind := by show env.scope.kind = _; rw [E.scp]; exact E.kind
 glob := E.glob
 blt := E.blt
 cells := fun _ => by show env.cells.Pairwise _; rw [E.cells]; exact List.Pairwise.nil
 mutc := fun a h => by cases h
 firm := fun _ => ⟨fun x d e => scal_firm (g.scal x d e), fun n l e => by rw [g.own] at e; cases e⟩
 mcell := fun _ x k => by
  have k' : env.scope.names.lookup x = some .cell := k
  rw [E.scp] at k'
  exact absurd k' (E.nocell x)
 nofree := fun _ x k => by
  have k' : env.scope.names.lookup x = some .free := k
  rw [E.scp] at k'
  exact absurd k' (E.nofree x)
theorem GSt.back (E : GEnv G env sc h0) {μ' : List Addr} (r : R G (gcx env s) μ' σ' s') (tk : s.toks ≤ s'.toks) (hs : ∀ x d, σ'.vars.lookup x = some d -> d.scal = true) (ho : σ'.own = []) : GSt G env σ' s' ∧ Sin env s s' := by
 refine ⟨⟨r.tok, r.bare, r.topG, ?_, hs, ho⟩, ⟨fun b o n e => r.base b o ⟨n, e⟩, r.os, fun _ => r.bare, fun g x _ e => r.gens g x e, tk⟩⟩
 obtain ⟨m, hm, h⟩ := r.loc
 exact ⟨m, hm, fun x d e k => (by obtain ⟨v, e1, e2⟩ := h x d e k; exact ⟨v, e1, scal_any (hs x d e) e2⟩)⟩
theorem GSt.kp (g : GSt G env σ s) (E : GEnv G env sc h0) (k : Kp s s') : GSt G env σ s' ∧ Sin env s s' := by
 refine ⟨⟨Nat.lt_of_lt_of_le g.tok k.toks, k.bare g.bare, g.top.keeps k.heap, ?_, g.scal, g.own⟩, Chg.of_kp k⟩
 obtain ⟨m, hm, h⟩ := g.ns
 exact ⟨m, hm.keeps k.heap, fun x d e q => (by obtain ⟨v, e1, e2⟩ := h x d e q; exact ⟨v, e1, scal_any (g.scal x d e) e2⟩)⟩
variable {k' : Nat} {A : Around} {Rr : GenEnd} {Y : Protocol} {n : Nat} {s₀ : Shared} {c : Code} {fs : List Frame}
 {K : Flow -> Sem Fin} {H : Value -> Sem Fin} {gd : Bool -> Bool} {lv : List Value -> List Value}
theorem seg_ex {st : Stmt} (E : GEnv G env sc h0) (g : GSt G env σ s) (hA : Aok k' (A.over c fs)) (h : Ex1 G sc k' σ st σ') (hs : ∀ x d, σ'.vars.lookup x = some d -> d.scal = true) (ho : σ'.own = [])
 (hc : ∀ s', GSt G env σ' s' -> Sin env s s' -> Seg (model G.prog G.w) A Rr Y n s₀ c (K .next) fs s') : Seg (model G.prog G.w) A Rr Y n s₀ c ((exec st env).wrap K H gd lv) fs s := by
 refine seg_wrap (wpAny_mono (wpAny_toks_of (Nat.le_refl s.toks) (h (gcx env s) [] _ s E.scp rfl hA (g.r E))) (fun f s' hq => ?_) fun _ _ f => f.2.elim)
 obtain ⟨tk, fl, σ1, μ', ⟨e1, e2⟩, r, hf⟩ := hq
 subst e1 e2
 cases hf
 obtain ⟨g', sn⟩ := GSt.back E r tk hs ho
 exact hc s' g' sn
theorem seg_if {t : Expr} {ss es : List Stmt} {pos : Pos} {b : Bool} (E : GEnv G env sc h0) (g : GSt G env σ s) (hA : Aok k' (A.over c fs)) (ht : Tr G sc k' σ t b)
 (h1 : ∀ s', b = true -> GSt G env σ s' -> Sin env s s' -> Seg (model G.prog G.w) A Rr Y n s₀ c ((execs ss env).wrap K H gd lv) fs s')
 (h2 : ∀ s', b = false -> GSt G env σ s' -> Sin env s s' -> Seg (model G.prog G.w) A Rr Y n s₀ c ((execs es env).wrap K H gd lv) fs s') : Seg (model G.prog G.w) A Rr Y n s₀ c ((exec (.If t ss es pos) env).wrap K H gd lv) fs s := by
 rw [arm_exec_If]
 refine seg_bind_wrap (wpAny_standAt ?_)
 refine seg_bind_wrap (wpAny_mono (ht (gcx env s) [] _ s E.scp hA (g.r E)) (fun v s' hq => ?_) fun _ _ f => f.elim)
 obtain ⟨kp, e⟩ := hq
 subst e
 obtain ⟨g', sn⟩ := g.kp E kp
 cases v with
 | true => exact h1 s' rfl g' sn
 | false => exact h2 s' rfl g' sn
noncomputable def NewPair (s s' : Shared) (p : Int) (z : List Nat) (v : Value) : Prop := ∃ T t u, v = .ref T ∧ s.heap.get? T = none ∧ IsTupH s'.heap T #[.int p t, .str (toS z) u]
theorem ev_pair {e1 e2 : Expr} {m : Nat} {pos : Pos} {p : Int} {z : List Nat} (E : GEnv G env sc h0) (g : GSt G env σ s) (hA : Aok k' A) (h1 : Ev G sc k' σ e1 (.int p)) (h2 : Ev G sc k' σ e2 (.str z))
 (hs : autoParam (∀ env, starEach [e1, e2] env = (false, eval e1 env) :: starEach [e2] env) ir) (hs2 : autoParam (∀ env, starEach [e2] env = (false, eval e2 env) :: starEach [] env) ir) :
 wpAny (model G.prog G.w) A (eval (.Tuple [e1, e2] m pos) env) (fun v s' => Kp s s' ∧ NewPair s s' p z v) (fun _ _ => False) s := by
 have hx := (evL_cons h1 (evL_cons h2 evL_nil hs2) hs) (gcx env s) [] A s pos E.scp hA (g.r E)
 show wpAny _ A (do standAt pos; newTuple (← spliced (backTo pos (starEach [e1, e2] env)))) _ _ s
 refine wpAny_bind (wpAny_standAt (wpAny_bind (wpAny_mono hx.2 (fun vs s2 hq => ?_) fun _ _ f => f)))
 obtain ⟨k2, x2⟩ := hq
 obtain ⟨v1, v2, rfl, ⟨t, rfl⟩, ⟨u, rfl⟩⟩ := x2.two
 refine wpAny_newObj_type ?_ (by size_fits)
 have k3 := Kp.push s2 { cls := .type "tuple", data := .seq [Value.int p t, Value.str (toS z) u].toArray } s2.toks
 exact ⟨k2.trans k3, _, t, u, rfl, none_of_kp k2 (fresh_size _), ⟨_, Heap.get?_push_size _ rfl⟩⟩
theorem NewPair.holds {p : Int} {z : List Nat} {v : Value} (h : NewPair s s' p z v) {O : Addr -> Prop} {μ : List Addr} (hO : ∀ a, O a -> ∃ o, s.heap.get? a = some o) : Holds O μ s'.heap (.tup [.int p, .str z]) v := by
 obtain ⟨T, t, u, rfl, e, ht⟩ := h
 refine ⟨T, _, rfl, fun q => ?_, ht, ⟨t, rfl⟩, ⟨u, rfl⟩, trivial⟩
 obtain ⟨o, ho⟩ := hO T q
 rw [e] at ho; cases ho
theorem seg_yieldPair {e1 e2 : Expr} {m : Nat} {tpos ypos pos : Pos} {p : Int} {z : List Nat} (E : GEnv G env sc h0) (g : GSt G env σ s) (hA : Aok k' (A.over c fs)) (h1 : Ev G sc k' σ e1 (.int p)) (h2 : Ev G sc k' σ e2 (.str z))
 (hfs : splitAtGen fs = none) (hgd : gd false = false) (hfg : fs.any Frame.guarded = false) (hco : sc.isCoroutine = false)
 (hY : ∀ v s', NewPair s s' p z v -> GSt G env σ s' -> Kp s s' -> ∀ kap : Resume -> Shared -> Prop, (∀ s'', Seg (model G.prog G.w) A Rr Y n s'' c (K .next) fs s'' -> kap (.send .none) s'') -> Y n s₀ v s' kap)
 (hs : autoParam (∀ env, starEach [e1, e2] env = (false, eval e1 env) :: starEach [e2] env) ir) (hs2 : autoParam (∀ env, starEach [e2] env = (false, eval e2 env) :: starEach [] env) ir) :
 Seg (model G.prog G.w) A Rr Y (n + 1) s₀ c ((exec (.Expr (.Yield (some (.Tuple [e1, e2] m tpos)) ypos) pos) env).wrap K H gd lv) fs s := by
 refine seg_Expr_Yield hfs hgd hfg (wpAny_mono (ev_pair E g hA h1 h2 hs hs2) (fun v s' ⟨kp, x⟩ kap hk => ?_) fun _ _ f => f.elim) (by rw [E.scp]; exact hco) ?_
 · exact hY v s' x (g.kp E kp).1 kp kap fun s'' hseg => hk .none s'' hseg
 · show (env.scope.kind == ScopeKind.module && _) = false
   rw [E.scp, E.kind]; rfl
end
end
section
section
variable {G : Gl} {sc : Scope} {k : Nat} {σ : St}
theorem tr_lt3 {e1 e2 e3 : Expr} {p : Pos} {a b c : Int} (h1 : Ev G sc k σ e1 (.int a)) (h2 : Ev G sc k σ e2 (.int b)) (h3 : Ev G sc k σ e3 (.int c)) (hm : autoParam (behindInMarks .Lt e3 = false) ir) (hm2 : autoParam (behindInMarks .Lt e2 = false) ir) :
 Tr G sc k σ (.Compare e1 [.Lt, .Lt] [e2, e3] p) (decide (a < b) && decide (b < c)) := by
 intro c' μ A s hc hA r
 show wpAny _ A (do testChain p (← eval e1 c'.env) [.Lt, .Lt] [eval e2 c'.env, markedBehindIn .Lt e3 (eval e3 c'.env)]) _ _ s
 rw [markedBehindIn_of_false hm]
 refine wpAny_bind (wpAny_mono (h1 c' μ A s hc hA r) (fun v1 s1 hq => ?_) fun _ _ f => f)
 obtain ⟨k1, x1⟩ := hq
 obtain ⟨t1, rfl⟩ := x1
 show wpAny _ A (_ >>= _) _ _ _
 refine wpAny_bind (wpAny_holding (wpAny_mono (h2 c' μ A s1 hc hA (r.kp k1)) (fun v2 s2 hq => ?_) fun _ _ f => f))
 obtain ⟨k2, x2⟩ := hq
 obtain ⟨t2, rfl⟩ := x2
 refine wpAny_bind (wpAny_standAt (wpAny_bind (wpAny_holding (lt_int ?_))))
 refine wpAny_bind (wpAny_release ?_)
 refine wpAny_bind (wpAny_holding (wpAny_truthy_bool ?_))
 cases hab : decide (a < b) with
 | false => exact wpAny_pure ⟨k1.trans k2, rfl⟩
 | true =>
  simp only [if_true]
  show wpAny _ A (_ >>= _) _ _ _
  refine wpAny_bind (wpAny_holding (wpAny_mono (h3 c' μ A s2 hc hA (r.kp (k1.trans k2))) (fun v3 s3 hq => ?_) fun _ _ f => f))
  obtain ⟨k3, x3⟩ := hq
  obtain ⟨t3, rfl⟩ := x3
  refine wpAny_bind (wpAny_standAt (wpAny_bind (wpAny_operating (lt_int ?_))))
  exact wpAny_holding (wpAny_truthy_bool ⟨(k1.trans k2).trans k3, rfl⟩)
theorem shaped_of {p : PyData} (h1 : p.canLay0 = true) (h2 : p.depth ≤ 64) : SeqAt.shaped p = true := by
 unfold SeqAt.shaped; rw [h1, decide_eq_true h2]; rfl
theorem canLay_map {α : Type} (f : α -> PyData) (h : ∀ x, (f x).canLay0 = true) : ∀ l : List α, PyData.canLayAll0 (l.map f) = true
 | [] => rfl
 | x :: r => by
  show PyData.canLayAll0 (f x :: r.map f) = true
  rw [PyData.canLayAll0, h, canLay_map f h r]; rfl
theorem depth_map {α : Type} {n : Nat} (f : α -> PyData) (h : ∀ x, (f x).depth ≤ n) : ∀ l : List α, PyData.depthAll (l.map f) ≤ n
 | [] => Nat.zero_le _
 | x :: r => by
  show PyData.depthAll (f x :: r.map f) ≤ n
  rw [PyData.depthAll]
  have := h x
  have := depth_map f h r
  omega
theorem shaped_map {α : Type} (f : α -> PyData) (h : ∀ x, (f x).canLay0 = true) (hd : ∀ x, (f x).depth ≤ 60) (l : List α) : SeqAt.shaped (.list (l.map f)) = true := by
 refine shaped_of (canLay_map f h l) ?_
 have := depth_map f hd l
 show PyData.depth (.list (l.map f)) ≤ 64
 rw [PyData.depth]
 exact dl1 1 64 0 60 this rfl
theorem pdL_map {α : Type} (f : α -> D) (h : ∀ x, (f x).isP = true) : ∀ l : List α, D.pdL (l.map f) = l.map (fun x => (f x).pd) ∧ D.isPL (l.map f) = true
 | [] => ⟨rfl, rfl⟩
 | x :: r => by
  obtain ⟨h1, h2⟩ := pdL_map f h r
  refine ⟨?_, ?_⟩
  · show (f x).pd :: D.pdL (r.map f) = _
    rw [h1]; rfl
  · show ((f x).isP && D.isPL (r.map f)) = true
    rw [h, h2]; rfl
theorem cmp_ne_same {α : Type} {d e : D} {f : α -> D} {l : List α} (hd : σ.seq d = some (l.map f)) (he : σ.seq e = some (l.map f)) (hp : ∀ x, (f x).isP = true) (hc : ∀ x, ((f x).pd).canLay0 = true) (hdp : ∀ x, ((f x).pd).depth ≤ 60) : Two G sc k σ (compareOp .NotEq) d e (.bool false) := by
 have key : ∀ {d : D}, σ.seq d = some (l.map f) -> σ.pd d = some (.list (l.map fun x => (f x).pd)) := fun {d} h => by
  cases d with
  | lst l' =>
   cases h
   show (if D.isPL (l.map f) = true then some (PyData.list (D.pdL (l.map f))) else none) = _
   rw [(pdL_map f hp l).1, (pdL_map f hp l).2]; rfl
  | bor l' =>
   cases h
   show (if D.isPL (l.map f) = true then some (PyData.list (D.pdL (l.map f))) else none) = _
   rw [(pdL_map f hp l).1, (pdL_map f hp l).2]; rfl
  | new l' =>
   cases h
   show (if D.isPL (l.map f) = true then some (PyData.list (D.pdL (l.map f))) else none) = _
   rw [(pdL_map f hp l).1, (pdL_map f hp l).2]; rfl
  | h n =>
   have h' : σ.own[n]? = some (l.map f) := h
   simp only [St.pd, h']
   rw [(pdL_map f hp l).1, (pdL_map f hp l).2]; rfl
  | _ => cases h
 have sh := shaped_map (fun x => (f x).pd) hc hdp l
 exact cmp_ne_pd (key hd) (key he) sh sh (SeqAt.eqv_refl _ (SeqAt.canLay_of_shaped sh))
end
end
section
open PySem PySem.W PyProof.Rows Builtin Builtin.Str
noncomputable def subst1 (c : Nat) (z : List Nat) (k : Nat) : List Nat := if k = c then z else [k]
theorem flat_free (c : Nat) (z : List Nat) : ∀ l : List Nat, c ∉ l -> l.flatMap (subst1 c z) = l
 | [], _ => rfl
 | k :: r, h => by
  have h1 : ¬ k = c := fun e => h (e ▸ List.mem_cons_self ..)
  rw [List.flatMap_cons, flat_free c z r fun m => h (List.mem_cons_of_mem _ m)]
  simp [subst1, h1]
theorem flat_join (c : Nat) (z : Str) : ∀ parts : List Str, (∀ p ∈ parts, c ∉ p.cps.toList) -> (Str.join ⟨#[c]⟩ parts).cps.toList.flatMap (subst1 c z.cps.toList) = (Str.join z parts).cps.toList
 | [], _ => rfl
 | [p], h => flat_free c _ _ (h p (List.mem_singleton.mpr rfl))
 | p :: q :: r, h => by
  have ih := flat_join c z (q :: r) fun a ha => h a (List.mem_cons_of_mem _ ha)
  show (p ++ ⟨#[c]⟩ ++ Str.join ⟨#[c]⟩ (q :: r)).cps.toList.flatMap _ = (p ++ z ++ Str.join z (q :: r)).cps.toList
  simp only [Str.cps_append, Array.toList_append, List.flatMap_append]
  rw [ih, flat_free c _ _ (h p (List.mem_cons_self ..))]
  simp [subst1]
theorem replace_flat (x : List Nat) (c : Nat) (z : Str) : unS (Txt.replace (toS x) ⟨#[c]⟩ z) = x.flatMap (subst1 c z.cps.toList) := by
 show (Txt.replace (toS x) ⟨#[c]⟩ z).cps.toList = _
 rw [StrLaws.replace_one, ← flat_join c z _ (StrLaws.split_free (toS x) c), StrLaws.join_split]
 simp [toS]
theorem contains_one (x : List Nat) (c : Nat) : Txt.contains (toS x) ⟨#[c]⟩ = x.contains c := by
 rw [Bool.eq_iff_iff]
 unfold Txt.contains
 rw [StrLaws.found_iff]
 simp only [List.contains_iff_mem]
 constructor
 · rintro ⟨i, h⟩
   have := (StrLaws.subAt_one (toS x) c i).mp h
   have := List.mem_of_getElem? this
   simpa [toS] using this
 · intro h
   obtain ⟨i, hi⟩ := List.getElem?_of_mem h
   exact ⟨i, (StrLaws.subAt_one (toS x) c i).mpr (by simpa [toS] using hi)⟩
theorem toS_one (c : Nat) : toS [c] = ⟨#[c]⟩ := rfl
theorem sjoin_nil : ∀ l : List (List Nat), (Str.join ⟨#[]⟩ (l.map toS)).cps.toList = l.flatten
 | [] => rfl
 | [x] => by simp [Str.join, toS]
 | x :: y :: r => by
  have ih := sjoin_nil (y :: r)
  show (toS x ++ ⟨#[]⟩ ++ Str.join ⟨#[]⟩ (toS y :: r.map toS)).cps.toList = _
  simp only [Str.cps_append, Array.toList_append]
  rw [show (Str.join ⟨#[]⟩ (toS y :: r.map toS)).cps.toList = (y :: r).flatten from ih]
  simp [toS]
theorem join_flat (l : List (List Nat)) : unS (Txt.join (toS []) (l.map toS)) = l.flatten := by
 show (Txt.join (toS []) (l.map toS)).cps.toList = _
 unfold Txt.join
 rw [StrLaws.glued_eq_join]
 exact sjoin_nil l
theorem joinOk_nil {l : List (List Nat)} (h : l.flatten.length ≤ 16777216) : JoinOk (toS []) (l.map toS) = true := by
 unfold JoinOk tooLong
 rw [StrLaws.joinTotal]
 have h1 : ∀ l : List (List Nat), ((l.map toS).map (·.length)).sum = l.flatten.length := by
  intro l
  induction l with
  | nil => rfl
  | cons x r ih =>
   simp only [List.map_cons, List.sum_cons, List.flatten_cons, List.length_append]
   rw [ih, toS_length]
 rw [h1]
 have h2 : (toS []).length = 0 := rfl
 rw [h2, Nat.mul_zero, Nat.add_zero, sizeLine_eq]
 simpa using h
theorem slice_mid (x : List Nat) {a b : Nat} (hab : a ≤ b) (hb : b ≤ x.length) : unS (Txt.slice (toS x) (some a) (some b)) = (x.drop a).take (b - a) := by
 have := PyProof.Rows.slice_closes (x := toS x) (i := a) (j := b) ⟨by exact Int.natCast_nonneg _, by exact cst hab, by simp [toS]; exact hb⟩
 rw [eq_of_beq this]
 simp [unS, toS]
theorem slice_to (x : List Nat) {b : Nat} (hb : b ≤ x.length) : unS (Txt.slice (toS x) none (some b)) = x.take b := by
 have := PyProof.Rows.slice_closes_to (x := toS x) (j := b) ⟨by exact Int.natCast_nonneg _, by simp [toS]; exact hb⟩
 rw [eq_of_beq this]
 simp [unS, toS]
theorem slice_from (x : List Nat) {a : Nat} (ha : a ≤ x.length) : unS (Txt.slice (toS x) (some a) none) = x.drop a := by
 have := PyProof.Rows.slice_from_eq (x := toS x) (i := a) (b := x.length) (by exact Int.natCast_nonneg _) (by rw [toS_length]; exact cst ha) (by rw [toS_length])
 rw [this]
 simp [unS, toS]
 exact List.take_of_length_le (by simp)
end
section
theorem bnd1 {fd : FuncData} {x : Str} (h : ∀ v, bindArgs fd ⟨[v], []⟩ = pure [(x, v)]) : ∀ vs : List Value, vs.length = [x].length -> bindArgs fd ⟨vs, []⟩ = pure ([x].zip vs) :=
 fun vs hl => by obtain ⟨v, rfl⟩ := List.length_eq_one_iff.mp hl; exact h v
theorem bnd2 {fd : FuncData} {x y : Str} (h : ∀ v u, bindArgs fd ⟨[v, u], []⟩ = pure [(x, v), (y, u)]) : ∀ vs : List Value, vs.length = [x, y].length -> bindArgs fd ⟨vs, []⟩ = pure ([x, y].zip vs) :=
 fun vs hl => by
  obtain ⟨v, r, rfl⟩ := List.exists_cons_of_length_eq_add_one hl
  obtain ⟨u, rfl⟩ := List.length_eq_one_iff.mp (Nat.succ.inj hl)
  exact h v u
theorem bnd3 {fd : FuncData} {x y z : Str} (h : ∀ v u t, bindArgs fd ⟨[v, u, t], []⟩ = pure [(x, v), (y, u), (z, t)]) : ∀ vs : List Value, vs.length = [x, y, z].length -> bindArgs fd ⟨vs, []⟩ = pure ([x, y, z].zip vs) :=
 fun vs hl => by
  obtain ⟨v, r, rfl⟩ := List.exists_cons_of_length_eq_add_one hl
  obtain ⟨u, r, rfl⟩ := List.exists_cons_of_length_eq_add_one (Nat.succ.inj hl)
  obtain ⟨t, rfl⟩ := List.length_eq_one_iff.mp (Nat.succ.inj (Nat.succ.inj hl))
  exact h v u t
noncomputable def fdAt (P : Params) (a : Addr) : FuncData := match (hd.heap_1 P).lookup a with
 | some ⟨_, _, .func fd, _⟩ => fd
 | _ => default
noncomputable def bodyAt (P : Params) (a : Addr) : List Stmt := match (fdAt P a).body with
 | .stmts b => b
 | _ => []
structure IsG (G : Gl) : Prop where
 K : G.K = hd.heap_1 G.w.params
 mg : ∀ n v, nsIn (hd.heap_1 G.w.params) mainGlobals n = some v -> G.mg n = v
 mb : ∀ x : Str, x ≠ "__name__" -> G.mb x = bootBuiltins x
theorem fn_of {G : Gl} (g : IsG G) {a : Addr} {xs : List Str} (h : ∃ c d fd s, (hd.heap_1 G.w.params).lookup a = some ⟨c, d, .func fd, s⟩) (body : ∃ b, (fdAt G.w.params a).body = .stmts b) (glob : (fdAt G.w.params a).globals = mainGlobals)
 (blt : (fdAt G.w.params a).builtins = builtinsNs) (clo : (fdAt G.w.params a).closure = []) (co : (fdAt G.w.params a).scope.isCoroutine = false) (gen : (fdAt G.w.params a).scope.isGenerator = false) (kind : (fdAt G.w.params a).scope.kind = .function)
 (code : codeIn (hd.heap_1 G.w.params) (fdAt G.w.params a).code (fdAt G.w.params a).qualname = true) (bnd : ∀ vs : List Value, vs.length = xs.length -> bindArgs (fdAt G.w.params a) ⟨vs, []⟩ = pure (xs.zip vs)) (ok : fnOk (fdAt G.w.params a).scope xs = true) : Fn G a (fdAt G.w.params a) (bodyAt G.w.params a) xs := by
 refine ⟨?_, ?_, glob, blt, clo, co, gen, kind, by rw [g.K]; exact code, bnd, ok⟩
 · obtain ⟨c, d, fd, s, e⟩ := h
   refine ⟨_, by rw [g.K]; exact e, ?_⟩
   unfold fdAt; rw [e]
 · obtain ⟨b, e⟩ := body
   unfold bodyAt; rw [e]
section
variable {G : Gl} (g : IsG G)
include g
theorem mg_add : G.mg "add" = some (.ref 91) := g.mg _ _ rfl
theorem mg_floordiv : G.mg "floordiv" = some (.ref 98) := g.mg _ _ rfl
theorem mg_mul : G.mg "mul" = some (.ref 105) := g.mg _ _ rfl
theorem mg_sub : G.mg "sub" = some (.ref 112) := g.mg _ _ rfl
theorem mg_escape_cdata : G.mg "_escape_cdata" = some (.ref 126) := g.mg _ _ rfl
theorem mg_escape_attrib : G.mg "_escape_attrib" = some (.ref 133) := g.mg _ _ rfl
theorem mg_escape_attrib_html : G.mg "_escape_attrib_html" = some (.ref 140) := g.mg _ _ rfl
theorem mg_escape_cdata_c14n : G.mg "_escape_cdata_c14n" = some (.ref 147) := g.mg _ _ rfl
theorem mg_escape_attrib_c14n : G.mg "_escape_attrib_c14n" = some (.ref 154) := g.mg _ _ rfl
theorem mg_law_draws : G.mg "_law_draws" = some (.ref 159) := g.mg _ _ rfl
theorem mg_law_spelled : G.mg "_law_spelled" = some (.ref 164) := g.mg _ _ rfl
theorem mg_law_dressed : G.mg "_law_dressed" = some (.ref 171) := g.mg _ _ rfl
theorem mg_law_page : G.mg "_law_page" = some (.ref 178) := g.mg _ _ rfl
theorem mg_law_read : G.mg "_law_read" = some (.ref 183) := g.mg _ _ rfl
theorem mg_law_number : G.mg "_law_number" = some (.ref 190) := g.mg _ _ rfl
theorem mg_law_table : G.mg "_law_table" = some (.ref 195) := g.mg _ _ rfl
theorem mg_law_roads : G.mg "_law_roads" = some (.ref 200) := g.mg _ _ rfl
theorem mg_law_product : G.mg "_law_product" = some (.ref 207) := g.mg _ _ rfl
theorem mg_law_determinant : G.mg "_law_determinant" = some (.ref 212) := g.mg _ _ rfl
theorem mg_strip_quoted_realnames : G.mg "_strip_quoted_realnames" = some (.ref 35) := g.mg _ _ rfl
theorem mg_check_parenthesis : G.mg "_check_parenthesis" = some (.ref 42) := g.mg _ _ rfl
theorem mg_iter_escaped_chars : G.mg "_iter_escaped_chars" = some (.ref 28) := g.mg _ _ rfl
theorem mg_netrclex : G.mg "_netrclex" = some (.ref 80) := g.mg _ _ rfl
theorem fn_add : Fn G 91 (fdAt G.w.params 91) (bodyAt G.w.params 91) ["a", "b"] :=
 fn_of g ⟨_, _, _, _, rfl⟩ ⟨_, rfl⟩ rfl rfl rfl rfl rfl rfl rfl (bnd2 fun v u => by kernel_rfl) rfl
theorem fn_floordiv : Fn G 98 (fdAt G.w.params 98) (bodyAt G.w.params 98) ["a", "b"] :=
 fn_of g ⟨_, _, _, _, rfl⟩ ⟨_, rfl⟩ rfl rfl rfl rfl rfl rfl rfl (bnd2 fun v u => by kernel_rfl) rfl
theorem fn_mul : Fn G 105 (fdAt G.w.params 105) (bodyAt G.w.params 105) ["a", "b"] :=
 fn_of g ⟨_, _, _, _, rfl⟩ ⟨_, rfl⟩ rfl rfl rfl rfl rfl rfl rfl (bnd2 fun v u => by kernel_rfl) rfl
theorem fn_sub : Fn G 112 (fdAt G.w.params 112) (bodyAt G.w.params 112) ["a", "b"] :=
 fn_of g ⟨_, _, _, _, rfl⟩ ⟨_, rfl⟩ rfl rfl rfl rfl rfl rfl rfl (bnd2 fun v u => by kernel_rfl) rfl
theorem fn_escape_cdata : Fn G 126 (fdAt G.w.params 126) (bodyAt G.w.params 126) ["text"] :=
 fn_of g ⟨_, _, _, _, rfl⟩ ⟨_, rfl⟩ rfl rfl rfl rfl rfl rfl rfl (bnd1 fun v => by kernel_rfl) rfl
theorem fn_escape_attrib : Fn G 133 (fdAt G.w.params 133) (bodyAt G.w.params 133) ["text"] :=
 fn_of g ⟨_, _, _, _, rfl⟩ ⟨_, rfl⟩ rfl rfl rfl rfl rfl rfl rfl (bnd1 fun v => by kernel_rfl) rfl
theorem fn_escape_attrib_html : Fn G 140 (fdAt G.w.params 140) (bodyAt G.w.params 140) ["text"] :=
 fn_of g ⟨_, _, _, _, rfl⟩ ⟨_, rfl⟩ rfl rfl rfl rfl rfl rfl rfl (bnd1 fun v => by kernel_rfl) rfl
theorem fn_escape_cdata_c14n : Fn G 147 (fdAt G.w.params 147) (bodyAt G.w.params 147) ["text"] :=
 fn_of g ⟨_, _, _, _, rfl⟩ ⟨_, rfl⟩ rfl rfl rfl rfl rfl rfl rfl (bnd1 fun v => by kernel_rfl) rfl
theorem fn_escape_attrib_c14n : Fn G 154 (fdAt G.w.params 154) (bodyAt G.w.params 154) ["text"] :=
 fn_of g ⟨_, _, _, _, rfl⟩ ⟨_, rfl⟩ rfl rfl rfl rfl rfl rfl rfl (bnd1 fun v => by kernel_rfl) rfl
theorem fn_law_draws : Fn G 159 (fdAt G.w.params 159) (bodyAt G.w.params 159) ["script"] :=
 fn_of g ⟨_, _, _, _, rfl⟩ ⟨_, rfl⟩ rfl rfl rfl rfl rfl rfl rfl (bnd1 fun v => by kernel_rfl) rfl
theorem fn_law_spelled : Fn G 164 (fdAt G.w.params 164) (bodyAt G.w.params 164) ["word", "hand"] :=
 fn_of g ⟨_, _, _, _, rfl⟩ ⟨_, rfl⟩ rfl rfl rfl rfl rfl rfl rfl (bnd2 fun v u => by kernel_rfl) rfl
theorem fn_law_dressed : Fn G 171 (fdAt G.w.params 171) (bodyAt G.w.params 171) ["word", "bare"] :=
 fn_of g ⟨_, _, _, _, rfl⟩ ⟨_, rfl⟩ rfl rfl rfl rfl rfl rfl rfl (bnd2 fun v u => by kernel_rfl) rfl
theorem fn_law_page : Fn G 178 (fdAt G.w.params 178) (bodyAt G.w.params 178) ["draws"] :=
 fn_of g ⟨_, _, _, _, rfl⟩ ⟨_, rfl⟩ rfl rfl rfl rfl rfl rfl rfl (bnd1 fun v => by kernel_rfl) rfl
theorem fn_law_read : Fn G 183 (fdAt G.w.params 183) (bodyAt G.w.params 183) ["page", "many"] :=
 fn_of g ⟨_, _, _, _, rfl⟩ ⟨_, rfl⟩ rfl rfl rfl rfl rfl rfl rfl (bnd2 fun v u => by kernel_rfl) rfl
theorem fn_law_number : Fn G 190 (fdAt G.w.params 190) (bodyAt G.w.params 190) ["word"] :=
 fn_of g ⟨_, _, _, _, rfl⟩ ⟨_, rfl⟩ rfl rfl rfl rfl rfl rfl rfl (bnd1 fun v => by kernel_rfl) rfl
theorem fn_law_table : Fn G 195 (fdAt G.w.params 195) (bodyAt G.w.params 195) ["words", "begin", "deed"] :=
 fn_of g ⟨_, _, _, _, rfl⟩ ⟨_, rfl⟩ rfl rfl rfl rfl rfl rfl rfl (bnd3 fun v u t => by kernel_rfl) rfl
theorem fn_law_roads : Fn G 200 (fdAt G.w.params 200) (bodyAt G.w.params 200) ["page"] :=
 fn_of g ⟨_, _, _, _, rfl⟩ ⟨_, rfl⟩ rfl rfl rfl rfl rfl rfl rfl (bnd1 fun v => by kernel_rfl) rfl
theorem fn_law_product : Fn G 207 (fdAt G.w.params 207) (bodyAt G.w.params 207) ["numbers"] :=
 fn_of g ⟨_, _, _, _, rfl⟩ ⟨_, rfl⟩ rfl rfl rfl rfl rfl rfl rfl (bnd1 fun v => by kernel_rfl) rfl
theorem fn_law_determinant : Fn G 212 (fdAt G.w.params 212) (bodyAt G.w.params 212) ["table"] :=
 fn_of g ⟨_, _, _, _, rfl⟩ ⟨_, rfl⟩ rfl rfl rfl rfl rfl rfl rfl (bnd1 fun v => by kernel_rfl) rfl
theorem fn_strip_quoted_realnames : Fn G 35 (fdAt G.w.params 35) (bodyAt G.w.params 35) ["addr"] :=
 fn_of g ⟨_, _, _, _, rfl⟩ ⟨_, rfl⟩ rfl rfl rfl rfl rfl rfl rfl (bnd1 fun v => by kernel_rfl) rfl
theorem fn_check_parenthesis : Fn G 42 (fdAt G.w.params 42) (bodyAt G.w.params 42) ["addr"] :=
 fn_of g ⟨_, _, _, _, rfl⟩ ⟨_, rfl⟩ rfl rfl rfl rfl rfl rfl rfl (bnd1 fun v => by kernel_rfl) rfl
theorem no_len : G.mg "len" = none := g.mg _ _ rfl
theorem mb_len : G.mb "len" = some (.builtin "len") := (g.mb _ (by decide)).trans (by decide +kernel)
theorem no_range : G.mg "range" = none := g.mg _ _ rfl
theorem mb_range : G.mb "range" = some (.type "range") := (g.mb _ (by decide)).trans (by decide +kernel)
theorem no_sum : G.mg "sum" = none := g.mg _ _ rfl
theorem mb_sum : G.mb "sum" = some (.builtin "sum") := (g.mb _ (by decide)).trans (by decide +kernel)
theorem no_list : G.mg "list" = none := g.mg _ _ rfl
theorem mb_list : G.mb "list" = some (.type "list") := (g.mb _ (by decide)).trans (by decide +kernel)
theorem no_str : G.mg "str" = none := g.mg _ _ rfl
theorem mb_str : G.mb "str" = some (.type "str") := (g.mb _ (by decide)).trans (by decide +kernel)
theorem no_int : G.mg "int" = none := g.mg _ _ rfl
theorem mb_int : G.mb "int" = some (.type "int") := (g.mb _ (by decide)).trans (by decide +kernel)
theorem no_abs : G.mg "abs" = none := g.mg _ _ rfl
theorem mb_abs : G.mb "abs" = some (.builtin "abs") := (g.mb _ (by decide)).trans (by decide +kernel)
end
theorem cal_add {G : Gl} (g : IsG G) {k : Nat} {σ : St} (hk : k < 40) {i j : Int} : Cal G k σ (.ref 91) [.int i, .int j] (.int (i + j)) := by
 refine cal_fn (fn_add g) hk rfl rfl ?_ rfl
 exact exs_ret (ev_bin (ev_loc rfl rfl) (ev_loc rfl rfl) bin_add_int) ⟨_, .ret _, rfl⟩
theorem cal_sub {G : Gl} (g : IsG G) {k : Nat} {σ : St} (hk : k < 40) {i j : Int} : Cal G k σ (.ref 112) [.int i, .int j] (.int (i - j)) := by
 refine cal_fn (fn_sub g) hk rfl rfl ?_ rfl
 exact exs_ret (ev_bin (ev_loc rfl rfl) (ev_loc rfl rfl) bin_sub_int) ⟨_, .ret _, rfl⟩
theorem cal_mul {G : Gl} (g : IsG G) {k : Nat} {σ : St} (hk : k < 40) {i j : Int} (h : IntMulOk i j) : Cal G k σ (.ref 105) [.int i, .int j] (.int (i * j)) := by
 refine cal_fn (fn_mul g) hk rfl rfl ?_ rfl
 exact exs_ret (ev_bin (ev_loc rfl rfl) (ev_loc rfl rfl) (bin_mul_int h)) ⟨_, .ret _, rfl⟩
theorem cal_floordiv {G : Gl} (g : IsG G) {k : Nat} {σ : St} (hk : k < 40) {i j : Int} (h : j ≠ 0) (hp : Builtin.divisionGoesByPylong i j = false) : Cal G k σ (.ref 98) [.int i, .int j] (.int (i.fdiv j)) := by
 refine cal_fn (fn_floordiv g) hk rfl rfl ?_ rfl
 exact exs_ret (ev_bin (ev_loc rfl rfl) (ev_loc rfl rfl) (bin_div_int h hp)) ⟨_, .ret _, rfl⟩
end
section
noncomputable abbrev St.get (σ : St) (x : Str) : Option D := σ.vars.lookup x
theorem St.set_eq {σ : St} {x : Str} {d : D} : (σ.set x d).get x = some d := by simp [St.get, St.set, setL_lookup]
theorem St.set_ne {σ : St} {x y : Str} {d : D} (h : y ≠ x) : (σ.set x d).get y = σ.get y := by simp [St.get, St.set, setL_lookup, h]
theorem sn {σ : St} {x y : Str} {d : D} {r : Option D} (e : σ.get y = r) (h : autoParam (y ≠ x) de) : (σ.set x d).get y = r := (St.set_ne h).trans e
set_option tactic.hygienic true in
theorem bits_le {i : Int} (h : i.natAbs < 2 ^ 64) : Builtin.Int.intBits i ≤ 64 := by
 unfold Builtin.Int.intBits
 split
 · exact Nat.zero_le _
 · rename_i hz
   have hz' : i.natAbs ≠ 0 := by
    intro e
    have : i = 0 := by omega
    subst this; simp at hz
   have := (Nat.log2_lt hz').mpr h
   exact this
theorem mulok_r {i j : Int} (h : j.natAbs < 2 ^ 64) : IntMulOk i j := IntMulOk.of_right (bits_le h)
theorem mulok_l {i j : Int} (h : i.natAbs < 2 ^ 64) : IntMulOk i j := IntMulOk.of_left (bits_le h)
noncomputable def prodI (l : List Int) : Int := l.foldl (· * ·) 1
theorem prodI_snoc (l : List Int) (x : Int) : prodI (l ++ [x]) = prodI l * x := by simp [prodI, List.foldl_append]
theorem cal_product {G : Gl} (g : IsG G) {k : Nat} {σ : St} (hk : k < 40) {ns : List Int} (hb : ∀ n ∈ ns, n.natAbs < 2 ^ 64) (hz : ns.length ≤ 16777216) : Cal G k σ (.ref 207) [.lst (ns.map .int)] (.int (prodI ns)) := by
 have hcl : D.cleanL (ns.map D.int) = true := cleanL_map _ (fun _ => rfl) _
 refine cal_fn (fn_law_product g) hk rfl (by show (D.cleanL (ns.map D.int) && true) = true; rw [hcl]; rfl) ?_ rfl
 refine exs_one (ex_asg rfl ev_int (as_loc rfl rfl)) ?_
 refine exs_cons (Q1 := fun fl σ1 => fl = .next ∧ σ1.get "whole" = some (.int (prodI ns))) (ex_for (evIt_seq (d := .lst (ns.map .int)) (ev_loc rfl rfl) rfl hcl (fun _ => ⟨D.clean_firm hcl, fun _ h => nomatch h⟩)) (.inl rfl) (fun rest σ1 => ∃ done ns', ns = done ++ ns' ∧ rest = ns'.map .int ∧ σ1.get "whole" = some (.int (prodI done))) ⟨[], ns, rfl, rfl, rfl⟩ ?_ ?_) ?_ ?_
 · rintro d r σ1 ⟨done, ns', h1, h2, h3⟩
   cases ns' with
   | nil => cases h2
   | cons n ns' =>
    injection h2 with h4 h5
    subst h4 h5
    refine ⟨_, as_loc rfl rfl, ?_⟩
    refine exs_one (ex_asg rfl (ev_bin (ev_loc rfl (sn h3)) (ev_loc rfl St.set_eq) (bin_mul_int (mulok_r (hb n (by rw [h1]; simp))))) (as_loc rfl rfl)) (exs_nil ?_)
    exact ⟨done ++ [n], ns', by rw [h1, List.append_assoc]; rfl, rfl, by rw [prodI_snoc]; exact St.set_eq⟩
 · rintro σ1 ⟨done, ns', h1, h2, h3⟩
   have : ns' = [] := by simpa using h2.symm
   subst this
   rw [List.append_nil] at h1
   subst h1
   exact ⟨rfl, h3⟩
 · rintro σ1 ⟨_, h⟩
   exact exs_ret (ev_loc rfl h) ⟨_, .ret _, rfl⟩
 · rintro fl σ1 h ⟨e, _⟩
   exact absurd e h
end
section
theorem flat_len (c : Nat) (z : List Nat) (hz : 1 ≤ z.length ∧ z.length ≤ 6) : ∀ x : List Nat, (x.flatMap (subst1 c z)).length ≤ 6 * x.length
 | [] => Nat.le_refl _
 | k :: r => by
  have := flat_len c z hz r
  rw [List.flatMap_cons, List.length_append]
  have h : (subst1 c z k).length ≤ 6 := by
   unfold subst1; split
   · exact hz.2
   · simp
  simp only [List.length_cons]
  omega
theorem ex_rep {G : Gl} {sc : Scope} {k : Nat} {σ : St} {x : List Nat} {y z : Str} {c : Nat} {n1 n2 n3 : Nat} {p1 p2 p3 p4 p5 p6 p7 p8 p9 p10 p11 : Pos} (hn : sc.names.lookup (Str.ofString "text") = some .local) (hv : σ.get "text" = some (.str x)) (hb : x.length ≤ 1000000)
 (hy : y = ⟨#[c]⟩) (hyz : (y == z) = false) (hz : z.length ≤ 6) (hl : (p8.endLine == p9.line) = true) :
 Ex G sc k σ (.If (.Compare (.Constant (.str y) n1 p1) [.In] [.Name (Str.ofString "text") p2] p3) [.Assign [.Name (Str.ofString "text") p4] (.Call (.Attribute (.Name (Str.ofString "text") p7) (Str.ofString "replace") p8) [.Constant (.str y) n2 p5, .Constant (.str z) n3 p6] [] p9) p10] [] p11)
  (fun fl σ1 => fl = .next ∧ σ1.get "text" = some (.str (x.flatMap (subst1 c z.cps.toList)))) := by
 subst hy
 refine ex_if (tr_cmp (ev_str (x := ⟨#[c]⟩)) (ev_loc hn hv) cmp_in_str) (fun h => ?_) (fun h => ?_)
 · refine exs_one (ex_asg rfl (ev_replace (ev_loc hn hv) hyz ?_ (fun _ => rfl) hl) (as_loc hn rfl)) (exs_nil ⟨rfl, ?_⟩)
   · have : (x.length + 1) * z.length ≤ (x.length + 1) * 6 := Nat.mul_le_mul_left _ hz
     omega
   · rw [← replace_flat]; exact St.set_eq
 · refine exs_nil ⟨rfl, ?_⟩
   have h' : x.contains c = false := by rw [← contains_one]; exact h
   rw [flat_free]
   · exact hv
   · intro hm
     rw [List.contains_iff_mem.mpr hm] at h'
     cases h'
noncomputable def escFold (cs : List (Nat × List Nat)) (x : List Nat) : List Nat := cs.foldl (fun x p => x.flatMap (subst1 p.1 p.2)) x
structure FoldAt (cs : List (Nat × List Nat)) (x : List Nat) (B : Nat) (σ : St) : Prop where
 t : σ.get "text" = some (.str (escFold cs x))
 l : (escFold cs x).length ≤ B
theorem exs_rep {G : Gl} {sc : Scope} {k : Nat} {σ : St} {x : List Nat} {y z : Str} {c : Nat} {n1 n2 n3 : Nat} {p1 p2 p3 p4 p5 p6 p7 p8 p9 p10 p11 : Pos} {ss : List Stmt} {Q : Fl -> St -> Prop} {cs cs' : List (Nat × List Nat)} {B : Nat} (F : FoldAt cs x B σ) (hn : sc.names.lookup (Str.ofString "text") = some .local) (hb : B ≤ 1000000)
 (hy : y = ⟨#[c]⟩) (hyz : (y == z) = false) (hz : 1 ≤ z.cps.toList.length ∧ z.cps.toList.length ≤ 6) (hl : (p8.endLine == p9.line) = true) (hc : cs' = cs ++ [(c, z.cps.toList)])
 (h : ∀ σ1 : St, FoldAt cs' x (6 * B) σ1 -> Exs G sc k σ1 ss Q) :
 Exs G sc k σ (.If (.Compare (.Constant (.str y) n1 p1) [.In] [.Name (Str.ofString "text") p2] p3) [.Assign [.Name (Str.ofString "text") p4] (.Call (.Attribute (.Name (Str.ofString "text") p7) (Str.ofString "replace") p8) [.Constant (.str y) n2 p5, .Constant (.str z) n3 p6] [] p9) p10] [] p11 :: ss) Q :=
 exs_cons (ex_rep hn F.t (Nat.le_trans F.l hb) hy hyz hz.2 hl) (fun σ1 e => h σ1 (by
  have e' : escFold cs' x = (escFold cs x).flatMap (subst1 c z.cps.toList) := by rw [hc]; unfold escFold; rw [List.foldl_append]; rfl
  exact ⟨e'.symm ▸ e.2, e'.symm ▸ Nat.le_trans (flat_len c _ hz _) (Nat.mul_le_mul_left 6 F.l)⟩)) fun fl σ1 ne e => absurd e.1 ne
noncomputable def cs_escape_cdata : List (Nat × List Nat) := [(38, [38, 97, 109, 112, 59]), (60, [38, 108, 116, 59]), (62, [38, 103, 116, 59])]
theorem cal_escape_cdata {G : Gl} (g : IsG G) {k : Nat} {σ : St} (hk : k < 40) {x : List Nat} (hx : x.length ≤ 16) : Cal G k σ (.ref 126) [.str x] (.str (escFold cs_escape_cdata x)) := by
 refine cal_fn (fn_escape_cdata g) hk rfl rfl ?_ rfl
 refine exs_cons (Q1 := fun fl σ1 => fl = .ret (.str (escFold cs_escape_cdata x))) (ex_try ?_) (fun σ1 e => nomatch e) (fun fl σ1 _ e => by subst e; exact ⟨_, .ret _, rfl⟩)
 refine exs_rep (c := 38) (cs := cs_escape_cdata.take 0) (cs' := cs_escape_cdata.take 1) (x := x) (B := 16) ⟨rfl, hx⟩ rfl (by decide) rfl (by decide) (by decide) rfl rfl fun σ1 F => ?_
 refine exs_rep (c := 60) (cs' := cs_escape_cdata.take 2) F rfl (by decide) rfl (by decide) (by decide) rfl rfl fun σ2 F => ?_
 refine exs_rep (c := 62) (cs' := cs_escape_cdata.take 3) F rfl (by decide) rfl (by decide) (by decide) rfl rfl fun σ3 F => ?_
 exact exs_ret (ev_loc rfl F.t) rfl
noncomputable def cs_escape_attrib : List (Nat × List Nat) := [(38, [38, 97, 109, 112, 59]), (60, [38, 108, 116, 59]), (62, [38, 103, 116, 59]), (34, [38, 113, 117, 111, 116, 59]), (13, [38, 35, 49, 51, 59]), (10, [38, 35, 49, 48, 59]), (9, [38, 35, 48, 57, 59])]
theorem cal_escape_attrib {G : Gl} (g : IsG G) {k : Nat} {σ : St} (hk : k < 40) {x : List Nat} (hx : x.length ≤ 16) : Cal G k σ (.ref 133) [.str x] (.str (escFold cs_escape_attrib x)) := by
 refine cal_fn (fn_escape_attrib g) hk rfl rfl ?_ rfl
 refine exs_cons (Q1 := fun fl σ1 => fl = .ret (.str (escFold cs_escape_attrib x))) (ex_try ?_) (fun σ1 e => nomatch e) (fun fl σ1 _ e => by subst e; exact ⟨_, .ret _, rfl⟩)
 refine exs_rep (c := 38) (cs := cs_escape_attrib.take 0) (cs' := cs_escape_attrib.take 1) (x := x) (B := 16) ⟨rfl, hx⟩ rfl (by decide) rfl (by decide) (by decide) rfl rfl fun σ1 F => ?_
 refine exs_rep (c := 60) (cs' := cs_escape_attrib.take 2) F rfl (by decide) rfl (by decide) (by decide) rfl rfl fun σ2 F => ?_
 refine exs_rep (c := 62) (cs' := cs_escape_attrib.take 3) F rfl (by decide) rfl (by decide) (by decide) rfl rfl fun σ3 F => ?_
 refine exs_rep (c := 34) (cs' := cs_escape_attrib.take 4) F rfl (by decide) rfl (by decide) (by decide) rfl rfl fun σ4 F => ?_
 refine exs_rep (c := 13) (cs' := cs_escape_attrib.take 5) F rfl (by decide) rfl (by decide) (by decide) rfl rfl fun σ5 F => ?_
 refine exs_rep (c := 10) (cs' := cs_escape_attrib.take 6) F rfl (by decide) rfl (by decide) (by decide) rfl rfl fun σ6 F => ?_
 refine exs_rep (c := 9) (cs' := cs_escape_attrib.take 7) F rfl (by decide) rfl (by decide) (by decide) rfl rfl fun σ7 F => ?_
 exact exs_ret (ev_loc rfl F.t) rfl
noncomputable def cs_escape_attrib_html : List (Nat × List Nat) := [(38, [38, 97, 109, 112, 59]), (62, [38, 103, 116, 59]), (34, [38, 113, 117, 111, 116, 59])]
theorem cal_escape_attrib_html {G : Gl} (g : IsG G) {k : Nat} {σ : St} (hk : k < 40) {x : List Nat} (hx : x.length ≤ 16) : Cal G k σ (.ref 140) [.str x] (.str (escFold cs_escape_attrib_html x)) := by
 refine cal_fn (fn_escape_attrib_html g) hk rfl rfl ?_ rfl
 refine exs_cons (Q1 := fun fl σ1 => fl = .ret (.str (escFold cs_escape_attrib_html x))) (ex_try ?_) (fun σ1 e => nomatch e) (fun fl σ1 _ e => by subst e; exact ⟨_, .ret _, rfl⟩)
 refine exs_rep (c := 38) (cs := cs_escape_attrib_html.take 0) (cs' := cs_escape_attrib_html.take 1) (x := x) (B := 16) ⟨rfl, hx⟩ rfl (by decide) rfl (by decide) (by decide) rfl rfl fun σ1 F => ?_
 refine exs_rep (c := 62) (cs' := cs_escape_attrib_html.take 2) F rfl (by decide) rfl (by decide) (by decide) rfl rfl fun σ2 F => ?_
 refine exs_rep (c := 34) (cs' := cs_escape_attrib_html.take 3) F rfl (by decide) rfl (by decide) (by decide) rfl rfl fun σ3 F => ?_
 exact exs_ret (ev_loc rfl F.t) rfl
noncomputable def cs_escape_cdata_c14n : List (Nat × List Nat) := [(38, [38, 97, 109, 112, 59]), (60, [38, 108, 116, 59]), (62, [38, 103, 116, 59]), (13, [38, 35, 120, 68, 59])]
theorem cal_escape_cdata_c14n {G : Gl} (g : IsG G) {k : Nat} {σ : St} (hk : k < 40) {x : List Nat} (hx : x.length ≤ 16) : Cal G k σ (.ref 147) [.str x] (.str (escFold cs_escape_cdata_c14n x)) := by
 refine cal_fn (fn_escape_cdata_c14n g) hk rfl rfl ?_ rfl
 refine exs_cons (Q1 := fun fl σ1 => fl = .ret (.str (escFold cs_escape_cdata_c14n x))) (ex_try ?_) (fun σ1 e => nomatch e) (fun fl σ1 _ e => by subst e; exact ⟨_, .ret _, rfl⟩)
 refine exs_rep (c := 38) (cs := cs_escape_cdata_c14n.take 0) (cs' := cs_escape_cdata_c14n.take 1) (x := x) (B := 16) ⟨rfl, hx⟩ rfl (by decide) rfl (by decide) (by decide) rfl rfl fun σ1 F => ?_
 refine exs_rep (c := 60) (cs' := cs_escape_cdata_c14n.take 2) F rfl (by decide) rfl (by decide) (by decide) rfl rfl fun σ2 F => ?_
 refine exs_rep (c := 62) (cs' := cs_escape_cdata_c14n.take 3) F rfl (by decide) rfl (by decide) (by decide) rfl rfl fun σ3 F => ?_
 refine exs_rep (c := 13) (cs' := cs_escape_cdata_c14n.take 4) F rfl (by decide) rfl (by decide) (by decide) rfl rfl fun σ4 F => ?_
 exact exs_ret (ev_loc rfl F.t) rfl
noncomputable def cs_escape_attrib_c14n : List (Nat × List Nat) := [(38, [38, 97, 109, 112, 59]), (60, [38, 108, 116, 59]), (34, [38, 113, 117, 111, 116, 59]), (9, [38, 35, 120, 57, 59]), (10, [38, 35, 120, 65, 59]), (13, [38, 35, 120, 68, 59])]
theorem cal_escape_attrib_c14n {G : Gl} (g : IsG G) {k : Nat} {σ : St} (hk : k < 40) {x : List Nat} (hx : x.length ≤ 16) : Cal G k σ (.ref 154) [.str x] (.str (escFold cs_escape_attrib_c14n x)) := by
 refine cal_fn (fn_escape_attrib_c14n g) hk rfl rfl ?_ rfl
 refine exs_cons (Q1 := fun fl σ1 => fl = .ret (.str (escFold cs_escape_attrib_c14n x))) (ex_try ?_) (fun σ1 e => nomatch e) (fun fl σ1 _ e => by subst e; exact ⟨_, .ret _, rfl⟩)
 refine exs_rep (c := 38) (cs := cs_escape_attrib_c14n.take 0) (cs' := cs_escape_attrib_c14n.take 1) (x := x) (B := 16) ⟨rfl, hx⟩ rfl (by decide) rfl (by decide) (by decide) rfl rfl fun σ1 F => ?_
 refine exs_rep (c := 60) (cs' := cs_escape_attrib_c14n.take 2) F rfl (by decide) rfl (by decide) (by decide) rfl rfl fun σ2 F => ?_
 refine exs_rep (c := 34) (cs' := cs_escape_attrib_c14n.take 3) F rfl (by decide) rfl (by decide) (by decide) rfl rfl fun σ3 F => ?_
 refine exs_rep (c := 9) (cs' := cs_escape_attrib_c14n.take 4) F rfl (by decide) rfl (by decide) (by decide) rfl rfl fun σ4 F => ?_
 refine exs_rep (c := 10) (cs' := cs_escape_attrib_c14n.take 5) F rfl (by decide) rfl (by decide) (by decide) rfl rfl fun σ5 F => ?_
 refine exs_rep (c := 13) (cs' := cs_escape_attrib_c14n.take 6) F rfl (by decide) rfl (by decide) (by decide) rfl rfl fun σ6 F => ?_
 exact exs_ret (ev_loc rfl F.t) rfl
end
section
theorem ev_bl {G : Gl} {sc : Scope} {k : Nat} {σ : St} {x : Str} {p : Pos} {v : Value} (hn : sc.names.lookup x = some .globalImplicit) (hg : G.mg x = none) (hv : G.mb x = some v) (hd : autoParam ((x == ("__debug__" : Str)) = false) de) : Ev G sc k σ (.Name x p) (.val v) := ev_blt hn hg hv hd
noncomputable def manyOf (ns : List Int) : Nat := if ns.length < 4 then 4 else 5
noncomputable def ownOf : List Int := [80100, 33060, 48241, 144122, 172981]
noncomputable def drawAt (ns : List Int) (j : Nat) : Int := ownOf.getD j 0 + ((pickG ns (some (j : Int)) none (some (manyOf ns : Int))).map fun x => x.fmod 1000000).sum
noncomputable def drawsOf (ns : List Int) : List Int := (List.range (manyOf ns)).map (drawAt ns)
theorem cal_draws {G : Gl} (g : IsG G) {k : Nat} {σ : St} (hk : k < 40) {ns : List Int} (hz : ns.length ≤ 16777216) : Cal G k σ (.ref 159) [.lst (ns.map .int)] (.lst ((drawsOf ns).map .int)) := by
 have hcl := clean_ints ns
 have hm : manyOf ns = 4 ∨ manyOf ns = 5 := by unfold manyOf; split <;> simp
 refine cal_fn (fn_law_draws g) hk rfl (by show (D.cleanL (ns.map D.int) && true) = true; rw [hcl]; rfl) ?_ (clean_ints _)
 refine exs_one (ex_asg rfl (evN_list (evL_cons ev_int (evL_cons ev_int (evL_cons ev_int (evL_cons ev_int (evL_cons ev_int evL_nil))))) (by decide)).ev (as_cell rfl rfl)) ?_
 refine exs_one (ex_asg (d := .int (manyOf ns)) rfl (ev_if (q := decide ((ns.length : Int) < 4)) (tr_cmp (ev_call (ev_bl rfl (no_len g) (mb_len g)) (.bi _) (evL_cons (ev_cell rfl rfl) evL_nil) (len_l (l := ns.map .int) rfl (by rw [List.length_map]; exact dl1 1 9223372036854775808 0 16777216 hz rfl))) ev_int (by rw [List.length_map]; exact cmp_lt_int)) (fun h => ?_) (fun h => ?_)) (as_cell rfl rfl)) ?_
 · have : manyOf ns = 4 := by unfold manyOf; rw [if_pos (by have := of_decide_eq_true h; omega)]
   rw [this]; exact ev_int
 · have : manyOf ns = 5 := by unfold manyOf; rw [if_neg (by have := of_decide_eq_false h; omega)]
   rw [this]; exact ev_int
 · refine exs_ret (d := .lst ((drawsOf ns).map .int)) (evN_comp (fr := false) ?_ (clean_ints _)).ev ⟨_, .ret _, rfl⟩ (D.clean_firm (clean_ints _))
   refine comp_map (List.range (manyOf ns)) (fun j => .int (j : Nat)) (fun j => [("k", .int (j : Nat))]) (fun j => .int (drawAt ns j)) (ow := false) ?_ (.inr fun _ _ => rfl) ?_ rfl ?_ (fun _ _ => rfl) ?_ (fun _ _ => .loc _ _ _ rfl) ?_
   · exact evIt_range1 (ev_bl rfl (no_range g) (mb_range g)) (ev_cell rfl rfl) (by omega)
   · unfold drawsOf; rw [List.map_map]; rfl
   · exact .cons rfl (.cons rfl (.cons (D.clean_noh (d := .lst (ns.map .int)) hcl) .nil))
   · rw [List.length_range]; omega
   · intro j hj
     refine ⟨rfl, ?_⟩
     have hj' : j < 5 := by have := List.mem_range.mp hj; omega
     have hp : ∃ d, ownOf[j]? = some d ∧ ownOf.getD j 0 = d := by
      match j, hj' with
      | 0, _ => exact ⟨_, rfl, rfl⟩
      | 1, _ => exact ⟨_, rfl, rfl⟩
      | 2, _ => exact ⟨_, rfl, rfl⟩
      | 3, _ => exact ⟨_, rfl, rfl⟩
      | 4, _ => exact ⟨_, rfl, rfl⟩
     obtain ⟨d, hp1, hp2⟩ := hp
     unfold drawAt
     refine ev_bin (ev_item (l := ownOf.map .int) (i := (j : Nat)) (ev_cell rfl rfl) (ev_loc rfl rfl) rfl ?_ ⟨by exact i63n, by exact i63 (dl1 1 9223372036854775808 1 5 hj' rfl)⟩) (ev_call (ev_bl rfl (no_sum g) (mb_sum g)) (.bi _) (evL_cons (evN_comp (fr := false) ?_ (clean_ints _)).ev evL_nil) (sum_l rfl)) bin_add_int
     · unfold pyAt; rw [if_pos (by exact Int.natCast_nonneg _), hp2, Int.toNat_natCast, List.getElem?_map, hp1]; rfl
     · refine comp_map (pickG ns (some (j : Int)) none (some (manyOf ns : Int))) D.int (fun x => [("x", .int x)]) (fun x => .int (x.fmod 1000000)) (ow := true) ?_ (.inl rfl) ?_ rfl .nil (fun _ _ => rfl) (Nat.le_trans (pickG_len ..) hz) (fun _ _ => .loc _ _ _ rfl) ?_
       · rw [← pick_map]
         refine evIt_seq (evN_sliceL (ev_cell rfl rfl) rfl (.some (ev_loc rfl rfl)) .none (ev_cell rfl rfl) (by omega) (by rw [List.length_map]; exact hz)).ev rfl ?_ (fun h => nomatch h)
         rw [pick_map]; exact clean_ints _
       · rw [List.map_map]; rfl
       · intro x _
         exact ⟨rfl, ev_bin (ev_loc rfl rfl) ev_int (bin_mod_int (by decide))⟩
end
section
noncomputable def digitsS : List Nat := unS "0123456789"
noncomputable def ampS : List Nat := unS "&amp;"
theorem cal_number {G : Gl} (g : IsG G) {k : Nat} {σ : St} (hk : k < 40) {w head : List Nat} {m : Int} (hw : w.length ≤ 600) (h1 : unS (Txt.rstripChars (toS w) (toS digitsS)) = head) (h2 : head.length ≤ w.length) (h3 : PySem.intText? (toS (w.drop head.length)) = some m) :
 Cal G k σ (.ref 190) [.str w] (.int (if Txt.endswith (toS head) (toS ampS) then -m else m)) := by
 refine cal_fn (fn_law_number g) hk rfl rfl ?_ rfl
 refine exs_one (ex_asg rfl (ev_meth (ev_loc rfl rfl) (evL_cons ev_str evL_nil) F.plainAttrs_str F.slot_str_rstrip F.type_str_rstrip ty_str (m_rstrip (by exact dl1 0 16777216 0 600 hw rfl))) (as_loc rfl rfl)) ?_
 refine exs_one (ex_asg rfl (ev_call (ev_bl rfl (no_int g) (mb_int g)) (.ty _) (evL_cons (ev_sliceS (ev_loc rfl rfl) (.some (ev_call (ev_bl rfl (no_len g) (mb_len g)) (.bi _) (evL_cons (ev_loc rfl rfl) evL_nil) (len_s ?_))) .none (by exact dl1 0 16777216 0 600 hw rfl)) evL_nil) (int_s (n := m) ?_ ?_)) (as_loc rfl rfl)) ?_
 · show (unS (Txt.rstripChars (toS w) (toS digitsS))).length < _
   rw [h1]; exact dl2 1 9223372036854775808 0 0 0 600 h2 hw rfl
 · show PySem.intText? (toS (unS (Txt.slice (toS w) (some ((unS (Txt.rstripChars (toS w) (toS digitsS))).length : Int)) none))) = _
   rw [h1, slice_from w h2]; exact h3
 · show (unS (Txt.slice (toS w) (some ((unS (Txt.rstripChars (toS w) (toS digitsS))).length : Int)) none)).length ≤ _
   rw [h1, slice_from w h2]; simp; omega
 · refine exs_ret (d := .int (if Txt.endswith (toS head) (toS ampS) then -m else m)) (ev_if (q := Txt.endswith (toS head) (toS ampS)) (tr_bool (ev_meth (ev_loc (d := .str head) rfl (by rw [← h1]; rfl)) (evL_cons ev_str evL_nil) F.plainAttrs_str F.slot_str_endswith F.type_str_endswith ty_str m_endswith)) (fun h => ?_) (fun h => ?_)) ⟨_, .ret _, rfl⟩
   · rw [h]; exact ev_un (ev_loc rfl rfl) un_neg
   · rw [h]; exact ev_loc rfl rfl
theorem unS_empty : unS "" = [] := by decide
theorem join_flat0 (l : List (List Nat)) : unS (Txt.join (toS (unS "")) (l.map toS)) = l.flatten := by rw [unS_empty]; exact join_flat l
theorem joinOk0 {l : List (List Nat)} (h : l.flatten.length ≤ 16777216) : JoinOk (toS (unS "")) (l.map toS) = true := by rw [unS_empty]; exact joinOk_nil h
theorem ev_join {G : Gl} {sc : Scope} {k : Nat} {σ : St} {e : Expr} {d : D} {l : List (List Nat)} {p r t : Pos} {n : Nat} (he : Ev G sc k σ e d) (hd : σ.seq d = some (l.map .str)) (hl : l.flatten.length ≤ 16777216) (hline : (t.endLine == p.line) = true)
 (hs : autoParam (∀ env, starEach [e] env = (false, eval e env) :: starEach [] env) ir)
 (hfew : autoParam (∀ env, ((backTo p (starEach [e] env)).all (fun x => !x.1) && (backToKw p (keywordEach [] env)).all (fun x => x.1.isSome) && decide ([e].length + ([] : List Keyword).length + (if ([] : List Keyword).isEmpty then 0 else 1) < 30)) = true) ir) :
 Ev G sc k σ (.Call (.Attribute (.Constant (.str (Str.ofString "")) n r) (Str.ofString "join") t) [e] [] p) (.str l.flatten) := by
 rw [← join_flat0]
 exact @ev_meth G sc k σ (.Constant (.str (Str.ofString "")) n r) (Str.ofString "join") t p [e] "str" "str.join" (.str (unS "")) (.str (unS (Txt.join (toS (unS "")) (l.map toS)))) [d] ev_str (evL_cons he evL_nil hs) F.plainAttrs_str F.slot_str_join F.type_str_join (ty_str (x := unS "")) (m_join (x := unS "") hd (joinOk0 hl)) (fun _ => rfl) hfew hline
noncomputable def dress1 (bare : Bool) (c : Nat) : List (List Nat) := if (c == 92 || c == 34) || (bare && (c == 40 || c == 41 || c == 10)) then [[92], [c]] else [[c]]
noncomputable def dressed (bare : Bool) (x : List Nat) : List Nat := if bare then (x.flatMap (dress1 bare)).flatten else (unS "\"" ++ (x.flatMap (dress1 bare)).flatten) ++ unS "\""
theorem dress_len (b : Bool) : ∀ x : List Nat, (x.flatMap (dress1 b)).length ≤ 2 * x.length ∧ (x.flatMap (dress1 b)).flatten.length ≤ 2 * x.length
 | [] => ⟨Nat.le_refl _, Nat.le_refl _⟩
 | c :: r => by
  have ih := dress_len b r
  rw [List.flatMap_cons, List.length_append, List.flatten_append, List.length_append]
  have : (dress1 b c).length ≤ 2 ∧ (dress1 b c).flatten.length ≤ 2 := by unfold dress1; split <;> simp
  simp only [List.length_cons]
  omega
set_option maxHeartbeats 2000000 in
theorem cal_dressed {G : Gl} (g : IsG G) {k : Nat} {σ : St} (hk : k < 40) {x : List Nat} {bare : Bool} (hx : x.length ≤ 1000000) : Cal G k σ (.ref 171) [.str x, .bool bare] (.str (dressed bare x)) := by
 refine cal_fn (fn_law_dressed g) hk rfl rfl ?_ rfl
 refine exs_one (ex_own rfl (evN_list evL_nil (by decide)) rfl (as_loc rfl rfl)) ?_
 refine exs_cons (Q1 := fun fl σ1 => fl = .next ∧ σ1.get "bare" = some (.bool bare) ∧ σ1.get "signs" = some (.h 0) ∧ σ1.own = [(x.flatMap (dress1 bare)).map .str]) (ex_for (evIt_str (ev_loc rfl rfl)) (.inr fun _ _ => rfl)
  (fun rest σ1 => ∃ done r, x = done ++ r ∧ rest = charsD r ∧ σ1.get "bare" = some (.bool bare) ∧ σ1.get "signs" = some (.h 0) ∧ σ1.own = [(done.flatMap (dress1 bare)).map .str]) ⟨[], x, rfl, rfl, rfl, rfl, rfl⟩ ?_ ?_) ?_ ?_
 · rintro d r σ1 ⟨done, ns', h1, h2, h3, h4, h5⟩
   cases ns' with
   | nil => cases h2
   | cons n ns' =>
    injection h2 with h6 h7
    subst h6 h7
    refine ⟨_, as_loc rfl rfl, ?_⟩
    have hlen : (done.flatMap (dress1 bare)).length + 1 ≤ 16777216 := by
     have := (dress_len bare done).1
     have : x.length = done.length + (ns'.length + 1) := by rw [h1]; simp
     omega
    have c1 : Txt.contains (toS (unS "\\\"")) (toS [n]) = (n == 92 || n == 34) := by
     rw [toS_one, contains_one, show unS "\\\"" = [92, 34] by decide]
     simp only [List.contains_cons, List.contains_nil, Bool.or_false]
    have c2 : Txt.contains (toS (unS "()\n")) (toS [n]) = (n == 40 || n == 41 || n == 10) := by
     rw [toS_one, contains_one, show unS "()\n" = [40, 41, 10] by decide]
     simp only [List.contains_cons, List.contains_nil, Bool.or_false, Bool.or_assoc]
    refine exs_cons (Q1 := fun fl σ2 => fl = .next ∧ σ2.get "bare" = some (.bool bare) ∧ σ2.get "sign" = some (.str [n]) ∧ σ2.get "signs" = some (.h 0) ∧ σ2.own = [((done.flatMap (dress1 bare)) ++ if (n == 92 || n == 34) || (bare && (n == 40 || n == 41 || n == 10)) then [[92]] else []).map .str])
     (ex_if (b := (n == 92 || n == 34) || (bare && (n == 40 || n == 41 || n == 10))) (tr_boolop (trs_or (q := n == 92 || n == 34) (tr_cmp (ev_loc rfl St.set_eq) ev_str (by rw [← c1]; exact cmp_in_str)) (fun h => ?_) (fun h => by rw [h]; rfl))) (fun h => ?_) (fun h => ?_)) ?_ ?_
    · rw [h, Bool.false_or]
      refine trs_or (q := bare && (n == 40 || n == 41 || n == 10)) (tr_boolop (trs_and (q := bare) (tr_bool (ev_loc rfl (sn h3))) (fun hb => ?_) (fun hb => by rw [hb]; rfl))) (fun h' => ?_) (fun h' => h')
      · subst hb
        rw [Bool.true_and]
        exact trs_and (q := n == 40 || n == 41 || n == 10) (tr_cmp (ev_loc rfl St.set_eq) ev_str (by rw [← c2]; exact cmp_in_str)) (fun h2 => by rw [h2]; exact trs_nil) (fun h2 => h2)
      · rw [h']; exact trs_nil
    · refine exs_one (ex_append (n := 0) (ev_loc rfl (sn h4)) (by show σ1.own[0]? = _; rw [h5]; rfl) ev_str rfl (by rw [List.length_map]; exact dl1 0 16777216 1 16777216 hlen rfl)) (exs_nil ⟨rfl, sn h3, St.set_eq, sn h4, ?_⟩)
      show σ1.own.set 0 _ = _
      rw [h5, if_pos h, List.map_append]
      rfl
    · refine exs_nil ⟨rfl, sn h3, St.set_eq, sn h4, ?_⟩
      show σ1.own = _
      rw [h5, if_neg (by rw [h]; simp), List.append_nil]
    · rintro σ2 ⟨_, g1, g2, g3, g4⟩
      refine exs_one (ex_append (n := 0) (ev_loc rfl g3) (by rw [g4]; rfl) (ev_loc rfl g2) rfl (by rw [List.length_map, List.length_append]; split; exact hlen; exact Nat.le_of_succ_le hlen)) (exs_nil ?_)
      refine ⟨done ++ [n], ns', by rw [h1, List.append_assoc]; rfl, rfl, g1, g3, ?_⟩
      show σ2.own.set 0 _ = _
      rw [g4, List.flatMap_append]
      show [_ ++ [D.str [n]]] = _
      congr 1
      rw [List.map_append, List.map_append, List.append_assoc]
      congr 1
      simp only [List.flatMap_cons, List.flatMap_nil, List.append_nil, dress1]
      split <;> rfl
    · rintro fl σ2 hn ⟨e, _⟩
      exact absurd e hn
 · rintro σ1 ⟨done, ns', h1, h2, h3, h4, h5⟩
   have : ns' = [] := by
    cases ns' with
    | nil => rfl
    | cons _ _ => cases h2
   subst this
   rw [List.append_nil] at h1
   subst h1
   exact ⟨rfl, h3, h4, h5⟩
 · rintro σ1 ⟨_, h3, h4, h5⟩
   have hl := dress_len bare x
   refine exs_ret (d := .str (dressed bare x)) (ev_if (q := bare) (tr_bool (ev_loc rfl h3)) (fun h => ?_) (fun h => ?_)) ⟨_, .ret _, rfl⟩
   · unfold dressed; rw [if_pos h]; exact ev_join (ev_loc rfl h4) (by show σ1.own[0]? = _; rw [h5]; rfl) (by omega) rfl
   · unfold dressed; rw [if_neg (by rw [h]; simp)]
     have q1 : (unS "\"").length = 1 := by decide
     refine ev_bin (ev_bin ev_str (ev_join (l := x.flatMap (dress1 bare)) (ev_loc rfl h4) (by show σ1.own[0]? = _; rw [h5]; rfl) (by omega) rfl) (bin_add_str (x := unS "\"") ?_)) ev_str (bin_add_str (y := unS "\"") ?_)
     · rw [q1]; omega
     · rw [List.length_append, q1]; omega
 · rintro fl σ1 h ⟨e, _⟩
   exact absurd e h
end
section
noncomputable def tabGo (f : Int -> Int -> Int) (num : List Nat -> Option Int) (beg : Int) : List (List Nat) -> List (List Int) -> List Nat -> Option (List (List Int))
 | [], T, _ => some T
 | w :: ws, T, A =>
  if w = [40] then
   match A.getLast? with
   | none => if T = [] then tabGo f num beg ws [[beg]] [0] else none
   | some a => match T[a]?, ws with
    | some row, w1 :: _ => match num w1 with
     | some m => if row.length = T.length then tabGo f num beg ws (List.zipWith (fun r y => r ++ [y]) T (row.map (f · m)) ++ [row.map (f · m) ++ [beg]]) (A ++ [T.length]) else none
     | none => none
    | _, _ => none
  else if w = [41] then (if A = [] then none else tabGo f num beg ws T A.dropLast)
  else tabGo f num beg ws T A
noncomputable def tabOwn (T : List (List Int)) (A : List Nat) : List (List D) := ((List.range T.length).map fun i => .h (2 + i)) :: (A.map fun a => .int (a : Nat)) :: T.map fun r => r.map .int
structure TabSt (words : List (List Nat)) (beg : Int) (deed : Addr) (T : List (List Int)) (A : List Nat) (σ : St) : Prop where
 words : σ.get "words" = some (.lst (words.map .str))
 beg : σ.get "begin" = some (.int beg)
 deed : σ.get "deed" = some (.val (.ref deed))
 table : σ.get "table" = some (.h 0)
 above : σ.get "above" = some (.h 1)
 own : σ.own = tabOwn T A
theorem TabSt.set {words : List (List Nat)} {beg : Int} {deed : Addr} {T : List (List Int)} {A : List Nat} {σ : St} (h : TabSt words beg deed T A σ) (x : Str) (d : D) (hx : x ≠ "words" ∧ x ≠ "begin" ∧ x ≠ "deed" ∧ x ≠ "table" ∧ x ≠ "above") : TabSt words beg deed T A (σ.set x d) :=
 ⟨(St.set_ne (Ne.symm hx.1)).trans h.words, (St.set_ne (Ne.symm hx.2.1)).trans h.beg, (St.set_ne (Ne.symm hx.2.2.1)).trans h.deed, (St.set_ne (Ne.symm hx.2.2.2.1)).trans h.table, (St.set_ne (Ne.symm hx.2.2.2.2)).trans h.above, h.own⟩
theorem pyAt_nat (l : List D) (n : Nat) : pyAt l (n : Int) = l[n]? := by unfold pyAt; rw [if_pos (by exact Int.natCast_nonneg _), Int.toNat_natCast]
theorem pyAt_last (l : List D) : pyAt l (-1) = l.getLast? := by
 unfold pyAt
 rw [if_neg (by decide), List.getLast?_eq_getElem?]
 by_cases h : l = []
 · subst h; rfl
 · have : 0 < l.length := List.length_pos_iff.mpr h
   rw [if_pos (show -(l.length : Int) ≤ -1 from Int.neg_le_neg (Int.ofNat_le.2 this)), show (-1 + (l.length : Int)).toNat = l.length - 1 from tn2]
noncomputable def extT (T : List (List Int)) (nr : List Int) (i : Nat) : List (List Int) := (List.range T.length).map fun q => if q < i then T.getD q [] ++ [nr.getD q 0] else T.getD q []
theorem extT_len (T : List (List Int)) (nr : List Int) (i : Nat) : (extT T nr i).length = T.length := by simp [extT]
theorem extT_zero (T : List (List Int)) (nr : List Int) : extT T nr 0 = T := by
 refine List.ext_getElem (extT_len ..) fun q h1 h2 => ?_
 simp [extT, List.getD_eq_getElem?_getD, h2]
theorem extT_all (T : List (List Int)) (nr : List Int) (h : nr.length = T.length) : extT T nr T.length = List.zipWith (fun r y => r ++ [y]) T nr := by
 refine List.ext_getElem (by simp [extT, h]) fun q h1 h2 => ?_
 have hq : q < T.length := by simpa [extT] using h1
 simp [extT, List.getD_eq_getElem?_getD, hq, h ▸ hq]
theorem extT_at (T : List (List Int)) (nr : List Int) (i : Nat) (h : i < T.length) : (extT T nr i)[i]? = some (T.getD i []) := by simp [extT, h]
theorem extT_succ (T : List (List Int)) (nr : List Int) (i : Nat) (h : i < T.length) : (extT T nr i).set i (T.getD i [] ++ [nr.getD i 0]) = extT T nr (i + 1) := by
 refine List.ext_getElem (by simp [extT]) fun q h1 h2 => ?_
 have hq : q < T.length := by simpa [extT] using h2
 by_cases hqi : q = i
 · subst hqi; simp [extT]
 · rw [List.getElem_set_ne (Ne.symm hqi)]
   simp only [extT, List.getElem_map, List.getElem_range]
   by_cases h3 : q < i
   · rw [if_pos h3, if_pos (by exact dl1 1 1 1 0 h3 rfl)]
   · rw [if_neg h3, if_neg (by omega)]
theorem pd_nats (A : List Nat) : D.pdL (A.map fun a => D.int (a : Nat)) = (A.map fun a => ((a : Nat) : Int)).map PyData.int ∧ D.isPL (A.map fun a => D.int (a : Nat)) = true := by
 induction A with
 | nil => exact ⟨rfl, rfl⟩
 | cons a r ih =>
  refine ⟨?_, ?_⟩
  · show PyData.int a :: D.pdL (r.map _) = _
    rw [ih.1]; rfl
  · show (true && D.isPL (r.map _)) = true
    rw [ih.2]; rfl
theorem tabOwn_at (X : List (List Int)) (A : List Nat) (i : Nat) (r : List Int) (h : X[i]? = some r) : (tabOwn X A)[2 + i]? = some (r.map .int) := by
 rw [Nat.add_comm]
 show (X.map fun r => r.map D.int)[i]? = _
 rw [List.getElem?_map, h]; rfl
theorem tabOwn_set (X : List (List Int)) (A : List Nat) (i : Nat) (r : List Int) : (tabOwn X A).set (2 + i) (r.map .int) = tabOwn (X.set i r) A := by
 rw [Nat.add_comm]
 show _ :: _ :: (X.map fun r => r.map D.int).set i (r.map .int) = _
 unfold tabOwn
 rw [List.length_set, List.map_set]
theorem tabOwn_len (X : List (List Int)) (A : List Nat) : (tabOwn X A).length = 2 + X.length := by simp [tabOwn]; omega
theorem handles_at {n i : Nat} (h : i < n) : ((List.range n).map fun i => D.h (2 + i))[i]? = some (.h (2 + i)) := by simp [h]
theorem frz_ints (own : List (List D)) (n : Nat) (r : List Int) : (r.map D.int).map (frz own n) = r.map D.int := by
 rw [List.map_map]
 refine List.map_congr_left fun x _ => ?_
 cases n <;> rfl
theorem cal_table {G : Gl} (g : IsG G) {k : Nat} {σ : St} (hk : k < 38) {words : List (List Nat)} {beg : Int} {deed : Addr} {f : Int -> Int -> Int} {num : List Nat -> Option Int} {R : List (List Int)}
 (hnum : ∀ (k : Nat) (σ : St) (w : List Nat) (m : Int), k < 40 -> num w = some m -> m.natAbs < 2 ^ 64 ∧ Cal G k σ (.ref 190) [.str w] (.int m))
 (hfk : FK G (.ref deed)) (hdeed : ∀ (k : Nat) (σ : St) (i m : Int), k < 40 -> m.natAbs < 2 ^ 64 -> Cal G k σ (.ref deed) [.int i, .int m] (.int (f i m)))
 (hz : words.length ≤ 1000) (hrun : tabGo f num beg words [] [] = some R) :
 Cal G k σ (.ref 195) [.lst (words.map .str), .int beg, .val (.ref deed)] (.lst (R.map fun r => .lst (r.map .int))) := by
 have hcl := clean_strs words
 have hRcl : D.cleanL (R.map fun r => D.lst (r.map .int)) = true := cleanL_map (fun r : List Int => D.lst (r.map .int)) (fun r => clean_ints r) _
 refine cal_fn (fn_law_table g) (by exact dl1 1 40 1 38 hk rfl) rfl (by show (D.cleanL (words.map D.str) && (true && (true && true))) = true; rw [hcl]; rfl) ?_ hRcl
 refine exs_one (ex_own rfl (evN_list evL_nil (by decide)) rfl (as_loc rfl rfl)) ?_
 refine exs_one (ex_own rfl (evN_list evL_nil (by decide)) rfl (as_loc rfl rfl)) ?_
 refine exs_cons (Q1 := fun fl σ1 => fl = .next ∧ ∃ A, TabSt words beg deed R A σ1) (ex_for (evIt_range1 (n := words.length) (ev_bl rfl (no_range g) (mb_range g)) (ev_call (ev_bl rfl (no_len g) (mb_len g)) (.bi _) (evL_cons (ev_loc rfl rfl) evL_nil) (by
  have := len_l (G := G) (k := k + 1) (σ := ⟨[("words", .lst (words.map .str)), ("begin", .int beg), ("deed", .val (.ref deed)), ("table", .h 0), ("above", .h 1)], [[], []]⟩) (d := .lst (words.map .str)) (l := words.map .str) rfl (by rw [List.length_map]; exact dl1 1 9223372036854775808 0 1000 hz rfl)
  rw [List.length_map] at this; exact this)) (by exact dl1 0 1000000000 0 1000 hz rfl)) (.inr fun _ _ => rfl)
  (fun rest σ1 => ∃ j T A, rest = (List.range' j (words.length - j)).map (fun i => .int (i : Nat)) ∧ j ≤ words.length ∧ (A.length ≤ j ∧ T.length ≤ j ∧ ∀ r ∈ T, r.length ≤ j) ∧ TabSt words beg deed T A σ1 ∧ tabGo f num beg (words.drop j) T A = some R) ?_ ?_ ?_) ?_ ?_
 · refine ⟨0, [], [], ?_, Nat.zero_le _, ⟨Nat.le_refl _, Nat.le_refl _, fun _ h => nomatch h⟩, ⟨rfl, rfl, rfl, rfl, rfl, rfl⟩, by rw [List.drop_zero]; exact hrun⟩
   rw [List.range_eq_range', Nat.sub_zero]
 · rintro d rest σ1 ⟨j, T, A, h1, h2, ⟨hAj, hTj, hRj⟩, h3, h4⟩
   have hjlt : j < words.length := by
    rcases Nat.lt_or_ge j words.length with h | h
    · exact h
    · rw [show words.length - j = 0 from Nat.sub_eq_zero_of_le h] at h1; cases h1
   have hlen : words.length - j = (words.length - (j + 1)) + 1 := sb1 hjlt
   have hj3 : j ≤ 1000 := Nat.le_trans h2 hz
   have hT3 : T.length ≤ 1000 := Nat.le_trans hTj hj3
   rw [hlen, List.range'_succ] at h1
   injection h1 with hd hrest
   subst hd
   have hw : words[j]? = some words[j] := List.getElem?_eq_getElem hjlt
   have hdrop : words.drop j = words[j] :: words.drop (j + 1) := List.drop_eq_getElem_cons hjlt
   rw [hdrop] at h4
   generalize hwd : words[j] = w at hw h4
   have S2 := h3.set "k" (.int (j : Nat)) (by decide)
   refine ⟨_, as_loc rfl rfl, ?_⟩
   have wat : ∀ {p q r : Pos}, Ev G (fdAt G.w.params 195).scope (k + 1) (σ1.set "k" (.int (j : Nat))) (.Subscript (.Name "words" p) (.Name "k" q) r) (.str w) := fun {p q r} =>
    ev_item (l := words.map .str) (i := (j : Nat)) (ev_loc rfl S2.words) (ev_loc rfl St.set_eq) rfl (by rw [pyAt_nat, List.getElem?_map, hw]; rfl) ⟨by exact i63n, by exact i63 (dl2 1 9223372036854775808 0 0 0 1000 h2 hz rfl)⟩
   refine exs_cons (Q1 := fun fl σ3 => fl = .next ∧ ∃ T' A', (A'.length ≤ j + 1 ∧ T'.length ≤ j + 1 ∧ ∀ r ∈ T', r.length ≤ j + 1) ∧ TabSt words beg deed T' A' σ3 ∧ tabGo f num beg (words.drop (j + 1)) T' A' = some R) (ex_if (tr_cmp wat ev_str cmp_eq_str) (fun hb => ?_) (fun hb => ?_))
    (fun σ3 hp => by obtain ⟨_, T', A', g0, g1, g2⟩ := hp; exact exs_nil ⟨j + 1, T', A', hrest, hjlt, g0, g1, g2⟩) (fun fl σ3 ne e => absurd e.1 ne)
   · have hw40 : w = [40] := by
      have := eq_of_beq hb
      rw [this]; decide
     subst hw40
     simp only [tabGo, if_true] at h4
     refine exs_one (ex_asg rfl (evN_list evL_nil (by decide)).ev (as_loc rfl rfl)) ?_
     have S3 := S2.set "near" (.lst []) (by decide)
     have hk3 : ((σ1.set "k" (.int (j : Nat))).set "near" (.lst [])).get "k" = some (.int (j : Nat)) := sn St.set_eq
     have hnear : ((σ1.set "k" (.int (j : Nat))).set "near" (.lst [])).get "near" = some (.lst []) := St.set_eq
     generalize (σ1.set "k" (.int (j : Nat))).set "near" (.lst []) = σ3 at S3 hk3 hnear
     have pdA : σ3.pd (.h 1) = some (.list ((A.map fun a => ((a : Nat) : Int)).map PyData.int)) := by
      simp only [St.pd]
      rw [S3.own]
      show (match (tabOwn T A)[1]? with | some l => if D.isPL l = true then some (PyData.list (D.pdL l)) else none | none => none) = _
      show (if D.isPL (A.map fun a => D.int (a : Nat)) = true then some (PyData.list (D.pdL (A.map fun a => D.int (a : Nat)))) else none) = _
      rw [(pd_nats A).2, (pd_nats A).1]; rfl
     have eqA : PyData.eqv (.list ((A.map fun a => ((a : Nat) : Int)).map PyData.int)) (.list []) = decide (A = []) := by
      cases A with
      | nil => simp [PyData.eqv, PyData.eqvAll]
      | cons a r => simp [PyData.eqv, PyData.eqvAll]
     refine exs_cons (Q1 := fun fl σ4 => fl = .next ∧ ∃ nr : List Int, TabSt words beg deed T A σ4 ∧ σ4.get "near" = some (.lst (nr.map .int)) ∧ nr.length = T.length ∧ tabGo f num beg (words.drop (j + 1)) (List.zipWith (fun r y => r ++ [y]) T nr ++ [nr ++ [beg]]) (A ++ [T.length]) = some R)
      (ex_if (b := !decide (A = [])) (tr_cmp (ev_loc rfl S3.above) (evN_list evL_nil (by decide)).ev (cmp_ne_pd pdA rfl (ke_shaped_ints _) rfl eqA)) (fun hb => ?_) (fun hb => ?_)) ?_ (fun fl σ3 ne e => absurd e.1 ne)
     · have hA : A ≠ [] := by simpa using hb
       obtain ⟨a, hgl⟩ : ∃ a, A.getLast? = some a := by
        cases h : A.getLast? with
        | none => exact absurd (List.getLast?_eq_none_iff.mp h) hA
        | some a => exact ⟨a, rfl⟩
       rw [hgl] at h4
       simp only at h4
       cases hrow : T[a]? with
       | none => rw [hrow] at h4; cases h4
       | some row =>
       cases hws : words.drop (j + 1) with
       | nil => rw [hrow, hws] at h4; cases h4
       | cons w1 ws =>
       rw [hrow, hws] at h4
       simp only at h4
       cases hm : num w1 with
       | none => rw [hm] at h4; cases h4
       | some m =>
       rw [hm] at h4
       simp only at h4
       by_cases hrl : row.length = T.length
       · rw [if_pos hrl] at h4
         have hw1 : words[j + 1]? = some w1 := by
          have := congrArg (fun l => l[0]?) hws
          simpa [List.getElem?_drop] using this
         obtain ⟨hm1, hm2⟩ := hnum (k + 1) σ3 w1 m (by exact dl1 2 40 1 38 hk rfl) hm
         refine exs_one (ex_asg rfl (ev_call (ev_glob rfl (mg_law_number g)) (fn_law_number g).fk (evL_cons (ev_item (l := words.map .str) (i := (j : Int) + 1) (ev_loc rfl S3.words) (ev_bin (ev_loc rfl hk3) ev_int bin_add_int) rfl (by
          rw [show (j : Int) + 1 = ((j + 1 : Nat) : Int) from rfl, pyAt_nat, List.getElem?_map, hw1]; rfl) ⟨by exact @i63n (j + 1), by exact @i63 (j + 1) (Nat.le_trans (Nat.succ_le_succ (Nat.le_trans hjlt hz)) (by decide))⟩) evL_nil) hm2) (as_cell rfl rfl)) ?_
         have S4 := S3.set "number" (.int m) (by decide)
         have hnum4 : (σ3.set "number" (.int m)).get "number" = some (.int m) := St.set_eq
         generalize σ3.set "number" (.int m) = σ4 at S4 hnum4
         have haT : a < T.length := (List.getElem?_eq_some_iff.mp hrow).1
         refine exs_one (ex_swap (fr := false) (l := (row.map fun x => f x m).map .int) (comp_mapF row D.int (fun x => [("old", .int x)]) (fun x => .int (f x m)) (ow := true)
          (evIt_seq (d := .h (2 + a)) (ev_item (l := (List.range T.length).map fun i => .h (2 + i)) (i := (a : Nat)) (ev_loc rfl S4.table) (ev_item (l := A.map fun a => .int (a : Nat)) (i := -1) (ev_loc rfl S4.above) (ev_un ev_int un_neg) (by show σ4.own[1]? = _; rw [S4.own]; rfl) (by
           rw [pyAt_last, List.getLast?_map, hgl]; rfl) ⟨by decide, by decide⟩) (by show σ4.own[0]? = _; rw [S4.own]; rfl) (by rw [pyAt_nat, handles_at haT]) ⟨by exact i63n, i64 haT hT3⟩)
           (by show σ4.own[2 + a]? = _; rw [S4.own, tabOwn_at T A a row hrow]) (clean_ints row) (fun h => nomatch h)) (.inl rfl) (by rw [List.map_map]; rfl) rfl (.skip rfl (.skip rfl (.free S4.deed rfl (.free hnum4 rfl .nil)))) (.cons rfl (.cons rfl .nil)) (fun _ _ => rfl) (by rw [hrl]; exact Nat.le_trans hT3 (by decide)) (fun _ _ => .loc _ _ _ rfl)
           (fun x _ => ⟨rfl, ev_call (ev_cell rfl rfl) hfk (evL_cons (ev_loc rfl rfl) (evL_cons (ev_cell rfl rfl) evL_nil)) (hdeed _ _ x m (by exact dl1 2 40 1 38 hk rfl) hm1)⟩)) (clean_ints _) rfl rfl rfl rfl (as_loc rfl (D.clean_firm (d := .lst _) (clean_ints _)))) ?_
         exact exs_nil ⟨rfl, row.map fun x => f x m, S4.set "near" _ (by decide), St.set_eq, by rw [List.length_map, hrl], h4⟩
       · rw [if_neg hrl] at h4; cases h4
     · have hA : A = [] := by simpa using hb
       subst hA
       simp only [List.getLast?_nil] at h4
       by_cases hT : T = []
       · subst hT
         rw [if_pos rfl] at h4
         exact exs_nil ⟨rfl, [], S3, hnear, rfl, h4⟩
       · rw [if_neg hT] at h4; cases h4
     · rintro σ4 ⟨_, nr, S4, hn4, hnl, h4'⟩
       have lenT : ∀ {σ' : St} {X : List (List Int)} {B : List Nat}, TabSt words beg deed X B σ' -> X.length = T.length -> Cal G (k + 1) σ' (.builtin "len") [.h 0] (.int T.length) := fun {σ' X B} h hX => by
        have := len_l (G := G) (k := k + 1) (σ := σ') (d := .h 0) (l := (List.range X.length).map fun i => .h (2 + i)) (by show σ'.own[0]? = _; rw [h.own]; rfl) (by rw [List.length_map, List.length_range, hX]; first | exact Nat.lt_of_le_of_lt hT3 (by decide) | exact i63 (Nat.le_trans (Nat.succ_le_succ hT3) (by decide)))
        rwa [List.length_map, List.length_range, hX] at this
       refine exs_cons (Q1 := fun fl σ5 => fl = .next ∧ TabSt words beg deed (List.zipWith (fun r y => r ++ [y]) T nr) A σ5 ∧ σ5.get "near" = some (.lst (nr.map .int)))
        (ex_for (evIt_range1 (n := T.length) (ev_bl rfl (no_range g) (mb_range g)) (ev_call (ev_bl rfl (no_len g) (mb_len g)) (.bi _) (evL_cons (ev_loc rfl S4.table) evL_nil) (lenT S4 rfl)) (by exact dl3 0 1000000000 0 0 0 0 0 1000 hTj h2 hz rfl)) (.inr fun _ _ => rfl)
         (fun rest σ5 => ∃ i, rest = (List.range' i (T.length - i)).map (fun i => .int (i : Nat)) ∧ i ≤ T.length ∧ TabSt words beg deed (extT T nr i) A σ5 ∧ σ5.get "near" = some (.lst (nr.map .int))) ?_ ?_ ?_) ?_ (fun fl σ3 ne e => absurd e.1 ne)
       · exact ⟨0, by rw [List.range_eq_range', Nat.sub_zero], Nat.zero_le _, by rw [extT_zero]; exact S4, hn4⟩
       · rintro d rest σ5 ⟨i, g1, g2, g3, g4⟩
         have hit : i < T.length := by
          rcases Nat.lt_or_ge i T.length with h | h
          · exact h
          · rw [show T.length - i = 0 from Nat.sub_eq_zero_of_le h] at g1; cases g1
         rw [show T.length - i = (T.length - (i + 1)) + 1 from sb1 hit, List.range'_succ] at g1
         injection g1 with g5 g6
         subst g5
         refine ⟨_, as_loc rfl rfl, ?_⟩
         have S5 := g3.set "node" (.int (i : Nat)) (by decide)
         have hrow := extT_at T nr i hit
         have hl5 : (T.getD i []).length ≤ j := by
          rw [List.getD_eq_getElem?_getD, List.getElem?_eq_getElem hit]
          exact hRj _ (List.getElem_mem hit)
         have hnr : nr[i]? = some (nr.getD i 0) := by
          have : i < nr.length := by exact dl2 1 0 1 0 0 0 hit (Nat.le_of_eq hnl.symm) rfl
          simp [List.getD_eq_getElem?_getD, this]
         refine exs_one (ex_append (n := 2 + i) (l := (T.getD i []).map .int) (ev_item (l := (List.range (extT T nr i).length).map fun i => .h (2 + i)) (i := (i : Nat)) (ev_loc rfl S5.table) (ev_loc rfl St.set_eq) (by show (σ5.set "node" _).own[0]? = _; rw [S5.own]; rfl) (by rw [pyAt_nat, handles_at (by rw [extT_len]; exact hit)]) ⟨by exact i63n, i64 hit hT3⟩)
          (by rw [S5.own, tabOwn_at _ A i _ hrow]) (ev_item (l := nr.map .int) (i := (i : Nat)) (d' := .int (nr.getD i 0)) (ev_loc rfl (sn g4)) (ev_loc rfl St.set_eq) rfl (by rw [pyAt_nat, List.getElem?_map, hnr]; rfl) ⟨by exact i63n, i64 hit hT3⟩) rfl (by rw [List.length_map]; exact dl3 0 16777216 0 0 0 0 0 1000 hl5 h2 hz rfl)) (exs_nil ⟨i + 1, g6, hit, ⟨S5.words, S5.beg, S5.deed, S5.table, S5.above, ?_⟩, sn g4⟩)
         show (σ5.set "node" _).own.set (2 + i) _ = _
         rw [S5.own, ← extT_succ T nr i hit, ← tabOwn_set, List.map_append]; rfl
       · rintro σ5 ⟨i, g1, g2, g3, g4⟩
         have hi : i = T.length := by
          have := congrArg List.length g1
          rw [List.length_map, List.length_range'] at this; exact Nat.le_antisymm g2 (Nat.le_of_sub_eq_zero this.symm)
         subst hi
         rw [extT_all T nr hnl] at g3
         exact ⟨rfl, g3, g4⟩
       · rintro σ5 ⟨_, S5, g4⟩
         have hXl : (List.zipWith (fun r y => r ++ [y]) T nr).length = T.length := by simp [hnl]
         have hRows : ∀ r ∈ List.zipWith (fun r y => r ++ [y]) T nr ++ [nr ++ [beg]], r.length ≤ j + 1 := fun r hr => by
          rcases List.mem_append.mp hr with hr | hr
          · rw [← extT_all T nr hnl] at hr
            simp only [extT, List.mem_map, List.mem_range] at hr
            obtain ⟨q, hq, rfl⟩ := hr
            have : (T.getD q []).length ≤ j := by
             rw [List.getD_eq_getElem?_getD, List.getElem?_eq_getElem hq]
             exact hRj _ (List.getElem_mem hq)
            rw [if_pos hq, List.length_append, List.length_singleton]; exact dl1 1 1 0 0 this rfl
          · rw [List.mem_singleton.mp hr, List.length_append, List.length_singleton]; exact dl2 1 1 0 0 0 0 (Nat.le_of_eq hnl) hTj rfl
         generalize hX : List.zipWith (fun r y => r ++ [y]) T nr = X at S5 h4' hXl hRows
         refine exs_one (ex_append (n := 1) (l := A.map fun a => .int (a : Nat)) (ev_loc rfl S5.above) (by rw [S5.own]; rfl) (ev_call (ev_bl rfl (no_len g) (mb_len g)) (.bi _) (evL_cons (ev_loc rfl S5.table) evL_nil) (lenT S5 hXl)) rfl (by rw [List.length_map]; exact dl3 0 16777216 0 0 0 0 0 1000 hAj h2 hz rfl)) ?_
         have S6 : TabSt words beg deed X (A ++ [T.length]) { σ5 with own := σ5.own.set 1 ((A.map fun a => D.int (a : Nat)) ++ [.int T.length]) } := by
          refine ⟨S5.words, S5.beg, S5.deed, S5.table, S5.above, ?_⟩
          show σ5.own.set 1 _ = _
          rw [S5.own]
          show _ :: _ :: _ = _
          unfold tabOwn
          rw [List.map_append]; rfl
         have g6 : ({ σ5 with own := σ5.own.set 1 ((A.map fun a => D.int (a : Nat)) ++ [.int T.length]) } : St).get "near" = some (.lst (nr.map .int)) := g4
         generalize ({ σ5 with own := σ5.own.set 1 ((A.map fun a => D.int (a : Nat)) ++ [.int T.length]) } : St) = σ6 at S6 g6
         refine exs_one (ex_appendOwn (n := 0) (l := (List.range X.length).map fun i => .h (2 + i)) (l2 := nr.map .int ++ [.int beg]) (ev_loc rfl S6.table) (by rw [S6.own]; rfl) (evN_bin (ev_loc rfl g6) (evN_list (evL_cons (ev_loc rfl S6.beg) evL_nil) (by show 1 ≤ 16777216; decide)).ev (bin_add_list rfl rfl (by rw [List.length_map, hnl]; exact Nat.le_trans (Nat.succ_le_succ hT3) (by decide)))) (by rw [firmL_append, D.cleanL_firmL (clean_ints nr)]; rfl) (by rw [List.length_map, List.length_range, hXl]; first | exact Nat.lt_of_le_of_lt hT3 (by decide) | exact Nat.le_trans hT3 (by decide))) (exs_nil ⟨rfl, X ++ [nr ++ [beg]], A ++ [T.length], ⟨by simp; exact hAj, by simp; exact dl2 0 0 0 0 0 0 (Nat.le_of_eq hXl) hTj rfl, hRows⟩, ⟨S6.words, S6.beg, S6.deed, S6.table, S6.above, ?_⟩, h4'⟩)
         show (σ6.own ++ [_]).set 0 _ = _
         rw [S6.own, tabOwn_len]
         show (_ ++ [D.h (2 + X.length)]) :: _ = _
         unfold tabOwn
         rw [List.length_append, List.length_singleton, List.range_succ, List.map_append, List.map_append, List.map_append]
         simp
   · have hw40 : w ≠ [40] := by
      rintro rfl
      exact absurd hb (by decide)
     simp only [tabGo, if_neg hw40] at h4
     refine exs_cons (Q1 := fun fl σ3 => fl = .next ∧ ∃ T' A', (A'.length ≤ j + 1 ∧ T'.length ≤ j + 1 ∧ ∀ r ∈ T', r.length ≤ j + 1) ∧ TabSt words beg deed T' A' σ3 ∧ tabGo f num beg (words.drop (j + 1)) T' A' = some R) (ex_if (tr_cmp wat ev_str cmp_eq_str) (fun hb => ?_) (fun hb => ?_)) (fun σ3 h => exs_nil h) (fun fl σ3 ne e => absurd e.1 ne)
     · have hw41 : w = [41] := by
        have := eq_of_beq hb
        rw [this]; decide
       subst hw41
       simp only [if_true] at h4
       by_cases hA : A = []
       · rw [if_pos hA] at h4; cases h4
       · rw [if_neg hA] at h4
         have hAl : (A.map fun a => D.int (a : Nat)) = (A.dropLast.map fun a => D.int (a : Nat)) ++ [.int (A.getLast hA : Nat)] := by
          conv => lhs; rw [← List.dropLast_concat_getLast hA]
          rw [List.map_append]; rfl
         refine exs_one (ex_pop (n := 1) (l := A.dropLast.map fun a => D.int (a : Nat)) (d := .int (A.getLast hA : Nat)) (ev_loc rfl S2.above) ?_ ?_ ?_) (exs_nil ⟨rfl, T, A.dropLast, ⟨by rw [List.length_dropLast]; exact dl2 0 1 0 0 0 0 (Nat.sub_le A.length 1) hAj rfl, by exact dl1 0 1 0 0 hTj rfl, fun r h => Nat.le_succ_of_le (hRj r h)⟩, ⟨S2.words, S2.beg, S2.deed, S2.table, S2.above, ?_⟩, h4⟩)
         · rw [S2.own, ← hAl]; rfl
         · rintro O μ h v ⟨t, rfl⟩ a e
           cases e
         · rw [List.length_map, List.length_dropLast]; first | exact Nat.lt_of_le_of_lt (Nat.le_trans (Nat.sub_le _ _) (Nat.le_trans hAj hj3)) (by decide) | exact Nat.le_trans (Nat.le_trans (Nat.sub_le _ _) (Nat.le_trans hAj hj3)) (by decide)
         · show (σ1.set "k" (.int (j : Nat))).own.set 1 _ = _
           rw [S2.own]; rfl
     · have hw41 : w ≠ [41] := by
        rintro rfl
        exact absurd hb (by decide)
       rw [if_neg hw41] at h4
       exact exs_nil ⟨rfl, T, A, ⟨by exact dl1 0 1 0 0 hAj rfl, by exact dl1 0 1 0 0 hTj rfl, fun r h => Nat.le_succ_of_le (hRj r h)⟩, S2, h4⟩
 · rintro σ1 ⟨j, T, A, h1, h2, ⟨hAj, hTj, hRj⟩, h3, h4⟩
   have h5 : words.length - j = 0 := by
    have := congrArg List.length h1
    simpa using this.symm
   have h6 : words.drop j = [] := List.drop_eq_nil_iff.mpr (Nat.le_of_sub_eq_zero h5)
   rw [h6] at h4
   simp only [tabGo, Option.some.injEq] at h4
   subst h4
   exact ⟨rfl, A, h3⟩
 · rintro σ1 ⟨_, A, h⟩
   refine exs_ret (ev_loc rfl h.table) ⟨_, .ret _, ?_⟩
   rw [h.own]
   show D.lst (((List.range R.length).map fun i => D.h (2 + i)).map (frz (tabOwn R A) 2)) = _
   congr 1
   rw [List.map_map]
   refine List.ext_getElem (by simp) fun i h1 h2 => ?_
   have hi : i < R.length := by simpa using h1
   simp only [List.getElem_map, List.getElem_range, Function.comp]
   show (match (tabOwn R A)[2 + i]? with | some l => D.lst (l.map (frz (tabOwn R A) 1)) | none => D.h (2 + i)) = _
   rw [tabOwn_at R A i R[i] (List.getElem?_eq_getElem hi)]
   simp only [frz_ints]
 · rintro fl σ1 h ⟨e, _⟩
   exact absurd e h
end
section
theorem rset {α : Type} (n : Nat) (f : Nat -> α) (i : Nat) (v : α) : ((List.range n).map f).set i v = (List.range n).map fun q => if q = i then v else f q := by
 refine List.ext_getElem (by simp) fun q h1 h2 => ?_
 by_cases hq : q = i
 · subst hq; simp
 · rw [List.getElem_set_ne (Ne.symm hq)]; simp [hq]
noncomputable def rowD (n : Nat) (x : Nat -> Int) : List D := (List.range n).map fun j => .int (x j)
noncomputable def detOwn (n : Nat) (X : Nat -> Nat -> Int) (P : Nat -> Nat) : List (List D) := ((List.range n).map fun i => rowD n (X i)) ++ [(List.range n).map fun i => .h (P i)]
structure DetSt (n : Nat) (P : Nat -> Nat) (M : Nat -> Nat -> Int) (σ : St) : Prop where
 rows : σ.get "rows" = some (.h n)
 inj : ∀ i j, i < n -> j < n -> P i = P j -> i = j
 lt : ∀ i, i < n -> P i < n
 own : ∃ X : Nat -> Nat -> Int, σ.own = detOwn n X P ∧ ∀ i j, i < n -> j < n -> X (P i) j = M i j
theorem detOwn_row {n : Nat} {X : Nat -> Nat -> Int} {P : Nat -> Nat} {i : Nat} (h : i < n) : (detOwn n X P)[i]? = some (rowD n (X i)) := by
 unfold detOwn
 rw [List.getElem?_append_left (by simpa using h)]
 simp [h]
theorem detOwn_h (n : Nat) (X : Nat -> Nat -> Int) (P : Nat -> Nat) : (detOwn n X P)[n]? = some ((List.range n).map fun i => .h (P i)) := by
 unfold detOwn
 rw [List.getElem?_append_right (by simp)]
 simp
theorem rowD_at {n j : Nat} {x : Nat -> Int} (h : j < n) : (rowD n x)[j]? = some (.int (x j)) := by simp [rowD, h]
theorem DetSt.set {n : Nat} {P : Nat -> Nat} {M : Nat -> Nat -> Int} {σ : St} (h : DetSt n P M σ) (x : Str) (d : D) (hx : "rows" ≠ x) : DetSt n P M (σ.set x d) := ⟨(St.set_ne hx).trans h.rows, h.inj, h.lt, h.own⟩
theorem DetSt.ext {n : Nat} {P : Nat -> Nat} {M M' : Nat -> Nat -> Int} {σ : St} (h : DetSt n P M σ) (e : ∀ i j, i < n -> j < n -> M i j = M' i j) : DetSt n P M' σ :=
 ⟨h.rows, h.inj, h.lt, (by obtain ⟨X, h1, h2⟩ := h.own; exact ⟨X, h1, fun i j hi hj => (h2 i j hi hj).trans (e i j hi hj)⟩)⟩
section
variable {G : Gl} {sc : Scope} {k : Nat} {σ : St}
theorem ev_row {n : Nat} {P : Nat -> Nat} {M : Nat -> Nat -> Int} (h : DetSt n P M σ) (hn : n < 1000) (hc : sc.names.lookup (Str.ofString "rows") = some .cell) {e : Expr} {p q : Pos} {i : Nat} (he : Ev G sc k σ e (.int (i : Nat))) (hi : i < n)
 (hs : autoParam (∀ o i, subscripted e false o i = operate [o, i] (getItem o i)) ir) : Ev G sc k σ (.Subscript (.Name (Str.ofString "rows") p) e q) (.h (P i)) := by
 obtain ⟨X, h1, h2⟩ := h.own
 exact ev_item (l := (List.range n).map fun i => .h (P i)) (i := (i : Nat)) (ev_cell hc h.rows) he (by show σ.own[n]? = _; rw [h1, detOwn_h]) (by rw [pyAt_nat]; simp [hi]) ⟨by exact i63n, by exact i63 (dl2 1 9223372036854775808 1 0 1 1000 hi hn rfl)⟩ hs
theorem ev_at {n : Nat} {P : Nat -> Nat} {M : Nat -> Nat -> Int} (h : DetSt n P M σ) (hn : n < 1000) (hc : sc.names.lookup (Str.ofString "rows") = some .cell) {e e' : Expr} {p q r : Pos} {i j : Nat} (he : Ev G sc k σ e (.int (i : Nat))) (he' : Ev G sc k σ e' (.int (j : Nat))) (hi : i < n) (hj : j < n)
 (hs : autoParam (∀ o i, subscripted e false o i = operate [o, i] (getItem o i)) ir) (hs' : autoParam (∀ o i, subscripted e' false o i = operate [o, i] (getItem o i)) ir) :
 Ev G sc k σ (.Subscript (.Subscript (.Name (Str.ofString "rows") p) e q) e' r) (.int (M i j)) := by
 obtain ⟨X, h1, h2⟩ := id h.own
 refine ev_item (l := rowD n (X (P i))) (i := (j : Nat)) (ev_row h hn hc he hi hs) he' (by show σ.own[P i]? = _; rw [h1, detOwn_row (h.lt i hi)]) ?_ ⟨by exact i63n, by exact i63 (dl2 1 9223372036854775808 1 0 1 1000 hj hn rfl)⟩ hs'
 rw [pyAt_nat, rowD_at hj, h2 i j hi hj]
noncomputable def upd (M : Nat -> Nat -> Int) (a b : Nat) (v : Int) : Nat -> Nat -> Int := fun i j => if i = a ∧ j = b then v else M i j
theorem ex_put {n : Nat} {P : Nat -> Nat} {M : Nat -> Nat -> Int} (h : DetSt n P M σ) (hn : n < 1000) (hc : sc.names.lookup (Str.ofString "rows") = some .cell) {e e' v : Expr} {p q r t : Pos} {i j : Nat} {y : Int} (he : Ev G sc k σ e (.int (i : Nat))) (he' : Ev G sc k σ e' (.int (j : Nat))) (hi : i < n) (hj : j < n) (hv : Ev G sc k σ v (.int y))
 (hs : autoParam (∀ o i, subscripted e false o i = operate [o, i] (getItem o i)) ir)
 (hsw : autoParam (∀ env, swapsWith v (some (.Subscript (.Subscript (.Name (Str.ofString "rows") p) e q) e' r)) t.line env = pure false) ir) :
 Ex G sc k σ (.Assign [.Subscript (.Subscript (.Name (Str.ofString "rows") p) e q) e' r] v t) (fun fl σ' => fl = .next ∧ σ'.vars = σ.vars ∧ DetSt n P (upd M i j y) σ') := by
 obtain ⟨X, h1, h2⟩ := id h.own
 refine (ex_setitem (n := P i) (l := rowD n (X (P i))) (ev_row h hn hc he hi hs) (by rw [h1, detOwn_row (h.lt i hi)]) he' (by exact Int.natCast_nonneg _) (by simp [rowD]; exact hj) (by simp [rowD]; exact dl1 1 9223372036854775808 1 1000 hn rfl) hv rfl hsw).mono fun fl σ' ⟨e1, e2⟩ => ⟨e1, by rw [e2], ?_⟩
 subst e2
 refine ⟨h.rows, h.inj, h.lt, fun a b => if a = P i ∧ b = j then y else X a b, ?_, fun a b ha hb => ?_⟩
 · show σ.own.set (P i) ((rowD n (X (P i))).set (j : Int).toNat (.int y)) = _
   rw [h1, Int.toNat_natCast]
   unfold detOwn
   rw [List.set_append_left _ _ (by simpa using h.lt i hi), rset]
   congr 1
   refine List.map_congr_left fun a _ => ?_
   by_cases hai : a = P i
   · subst hai
     rw [if_pos rfl]
     unfold rowD
     rw [rset]
     refine List.map_congr_left fun b _ => ?_
     by_cases hb : b = j
     · simp [hb]
     · simp [hb]
   · rw [if_neg hai]
     unfold rowD
     refine List.map_congr_left fun b _ => ?_
     simp [hai]
 · unfold upd
   by_cases hai : a = i
   · subst hai
     simp only [true_and]
     split <;> simp_all
   · have : P a ≠ P i := fun q => hai (h.inj a i ha hi q)
     simp only [this, hai, false_and, if_false]
     exact h2 a b ha hb
end
noncomputable def stepM (k : Nat) (l : Int) (M : Nat -> Nat -> Int) : Nat -> Nat -> Int := fun i j => if k < i ∧ k < j then (M k k * M i j - M i k * M k j).fdiv l else M i j
noncomputable def swapM (a b : Nat) (M : Nat -> Nat -> Int) : Nat -> Nat -> Int := fun i j => M (if i = a then b else if i = b then a else i) j
inductive DetRun (n : Nat) : Nat -> Nat -> (Nat -> Nat -> Int) -> Int -> Int -> Int -> Prop
 | done {k : Nat} {M : Nat -> Nat -> Int} {t l : Int} : DetRun n 0 k M t l (t * M (n - 1) (n - 1))
 | zero {m k : Nat} {M : Nat -> Nat -> Int} {t l : Int} (h : ∀ p, k ≤ p -> p < n -> M p k = 0) : DetRun n (m + 1) k M t l 0
 | step {m k p : Nat} {M : Nat -> Nat -> Int} {t l d : Int} (hp : k ≤ p ∧ p < n ∧ M p k ≠ 0) (hmin : ∀ q, k ≤ q -> q < p -> M q k = 0) (hl : l ≠ 0 ∧ l.natAbs < 2 ^ 1000) (hb : ∀ i j, i < n -> j < n -> (M i j).natAbs < 2 ^ 1000)
  (r : DetRun n m (k + 1) (stepM k l (swapM k p M)) (if p = k then t else -t) (M p k) d) : DetRun n (m + 1) k M t l d
end
section
set_option tactic.hygienic true in
theorem bits_big {i : Int} (h : i.natAbs < 2 ^ 1000) : Builtin.Int.intBits i ≤ 1000 := by
 unfold Builtin.Int.intBits
 split
 · exact Nat.zero_le _
 · rename_i hz
   have hz' : i.natAbs ≠ 0 := by
    intro e
    have : i = 0 := nz e
    subst this; simp at hz
   have := (Nat.log2_lt hz').mpr h
   exact this
theorem mulok_big {i j : Int} (hi : i.natAbs < 2 ^ 1000) (hj : j.natAbs < 2 ^ 1000) : IntMulOk i j :=
 IntMulOk.of_bits (Nat.le_trans (bits_big hi) (by decide)) (Nat.le_trans (bits_big hj) (by decide))
set_option tactic.hygienic true in
theorem noPylong {i j : Int} (h : j.natAbs < 2 ^ 1000) : Builtin.divisionGoesByPylong i j = false := by
 unfold Builtin.divisionGoesByPylong
 have : ¬ (if j == 0 then 0 else j.natAbs.log2 / 30 + 1) > 300 := by
  split
  · decide
  · rename_i hz
    have hz' : j.natAbs ≠ 0 := by
     intro e
     have : j = 0 := nz e
     subst this; simp at hz
    have := (Nat.log2_lt hz').mpr h
    exact l30 this
 simp only [this, decide_false, Bool.false_and]
noncomputable def partM (k low place : Nat) (l : Int) (M : Nat -> Nat -> Int) : Nat -> Nat -> Int := fun i j => if k < j ∧ (k < i ∧ i < low ∨ i = low ∧ k < i ∧ j < place) then (M k k * M i j - M i k * M k j).fdiv l else M i j
structure DetV (n : Nat) (P : Nat -> Nat) (M : Nat -> Nat -> Int) (t l : Int) (k : Nat) (σ : St) : Prop where
 s : DetSt n P M σ
 t : σ.get "turned" = some (.int t)
 l : σ.get "last" = some (.int l)
 k : σ.get "k" = some (.int (k : Nat))
theorem DetV.set {n : Nat} {P : Nat -> Nat} {M : Nat -> Nat -> Int} {t l : Int} {k : Nat} {σ : St} (h : DetV n P M t l k σ) (x : Str) (d : D) (hx : "rows" ≠ x ∧ "turned" ≠ x ∧ "last" ≠ x ∧ "k" ≠ x) : DetV n P M t l k (σ.set x d) :=
 ⟨h.s.set x d hx.1, (St.set_ne hx.2.1).trans h.t, (St.set_ne hx.2.2.1).trans h.l, (St.set_ne hx.2.2.2).trans h.k⟩
noncomputable def ownRows (n : Nat) (P : Nat -> Nat) (M : Nat -> Nat -> Int) : D := .bor ((List.range n).map fun i => .bor (rowD n (M i)))
theorem detPrim {G : Gl} {k : Nat} {σ : St} (g : IsG G) {n : Nat} {P : Nat -> Nat} {M : Nat -> Nat -> Int} (h : DetSt n P M σ) (hn : n < 1000) : Cal G k σ (.builtin "len") [.h n] (.int n) := by
 obtain ⟨X, h1, _⟩ := h.own
 have := len_l (G := G) (k := k) (σ := σ) (d := .h n) (l := (List.range n).map fun i => .h (P i)) (by show σ.own[n]? = _; rw [h1, detOwn_h]) (by simp; exact dl1 1 9223372036854775808 1 1000 hn rfl)
 simpa using this
theorem rowD_noh (n : Nat) (x : Nat -> Int) : D.nohL (rowD n x) = true := D.cleanL_nohL (cleanL_map _ (fun _ => rfl) _)
theorem nohL_map {α : Type} (f : α -> D) (h : ∀ x, (f x).noh = true) : ∀ l : List α, D.nohL (l.map f) = true
 | [] => rfl
 | x :: r => by show ((f x).noh && D.nohL (r.map f)) = true; rw [h, nohL_map f h r]; rfl
theorem view_ints (own : List (List D)) (m n : Nat) (x : Nat -> Int) : (rowD n x).map (view own m) = rowD n x := by
 unfold rowD
 rw [List.map_map]
 refine List.map_congr_left fun j _ => ?_
 cases m <;> rfl
theorem view_rows {n : Nat} {P : Nat -> Nat} {M : Nat -> Nat -> Int} {σ : St} (h : DetSt n P M σ) : view σ.own 3 (.h n) = ownRows n P M := by
 obtain ⟨X, h1, h2⟩ := h.own
 show (match σ.own[n]? with | some l => D.bor (l.map (view σ.own 2)) | none => D.h n) = _
 rw [h1, detOwn_h]
 show D.bor (((List.range n).map fun i => D.h (P i)).map (view (detOwn n X P) 2)) = _
 unfold ownRows
 congr 1
 rw [List.map_map]
 refine List.map_congr_left fun i hi => ?_
 have hi' : i < n := List.mem_range.mp hi
 show (match (detOwn n X P)[P i]? with | some l => D.bor (l.map (view (detOwn n X P) 1)) | none => D.h (P i)) = _
 rw [detOwn_row (h.lt i hi')]
 show D.bor ((rowD n (X (P i))).map (view (detOwn n X P) 1)) = _
 rw [view_ints]
 congr 1
 unfold rowD
 exact List.map_congr_left fun j hj => by rw [h2 i j hi' (List.mem_range.mp hj)]
theorem filter_first {n k p : Nat} {f : Nat -> Bool} (hp : k ≤ p ∧ p < n) (hf : f p = true) (hm : ∀ q, k ≤ q -> q < p -> f q = false) : ∃ r, (List.range' k (n - k)).filter f = p :: r := by
 have e : List.range' k (n - k) = List.range' k (p - k) ++ p :: List.range' (p + 1) (n - p - 1) := by
  have e1 : n - k = (p - k) + ((n - p - 1) + 1) := sb6 hp
  rw [e1, ← List.range'_append_1, List.range'_succ]
  rw [show k + (p - k) = p from sb9 hp.1]
 rw [e, List.filter_append, List.filter_cons_of_pos hf]
 have e2 : (List.range' k (p - k)).filter f = [] := by
  rw [List.filter_eq_nil_iff]
  intro q hq
  rw [List.mem_range'_1] at hq
  rw [hm q hq.1 (rg hq.2 hp.1)]; simp
 rw [e2]
 exact ⟨_, rfl⟩
noncomputable def swp (a b : Nat) (P : Nat -> Nat) : Nat -> Nat := fun i => P (if i = a then b else if i = b then a else i)
section
variable {G : Gl} {sc : Scope} {k : Nat} {σ : St}
theorem ex_puth {n : Nat} {o i v : Expr} {p p' : Pos} {a b : Nat} {hs' : List Nat} {X : Nat -> Nat -> Int} (hn : n < 1000) (ho : Ev G sc k σ o (.h n)) (hown : σ.own = ((List.range n).map fun i => rowD n (X i)) ++ [hs'.map .h]) (hl : hs'.length = n) (hi : Ev G sc k σ i (.int (a : Nat))) (ha : a < n) (hv : Ev G sc k σ v (.h b))
 (hsw : autoParam (∀ env, swapsWith v (some (.Subscript o i p')) p.line env = pure false) ir) : Ex1 G sc k σ (.Assign [.Subscript o i p'] v p) { σ with own := ((List.range n).map fun i => rowD n (X i)) ++ [(hs'.set a b).map .h] } := by
 have := ex_setitem (n := n) (l := hs'.map .h) (j := (a : Nat)) ho (by rw [hown, List.getElem?_append_right (by simp)]; simp) hi (by exact Int.natCast_nonneg _) (by rw [List.length_map]; exact Int.ofNat_lt.2 (dl2 1 0 1 0 0 0 ha (Nat.le_of_eq hl.symm) rfl)) (by rw [List.length_map]; exact dl2 1 9223372036854775808 0 0 1 1000 (Nat.le_of_eq hl) hn rfl) hv rfl hsw
 rw [hown, List.set_append_right _ _ (by simp)] at this
 simpa [List.map_set] using this
end
theorem partM_zero (k : Nat) (l : Int) (M : Nat -> Nat -> Int) : partM k (k + 1) (k + 1) l M = M := by
 funext i j
 unfold partM
 rw [if_neg]
 exact fun ⟨a, x⟩ => x.elim (fun y => no y.1 y.2) fun y => no a y.2.2
theorem partM_next (k low n : Nat) (l : Int) (M : Nat -> Nat -> Int) (i j : Nat) (hj : j < n) (hk : k + 1 ≤ low) : partM k low n l M i j = partM k (low + 1) (k + 1) l M i j := by
 unfold partM
 by_cases h : k < j ∧ (k < i ∧ i < low ∨ i = low ∧ k < i ∧ j < n)
 · rw [if_pos h, if_pos ((pA hj).mp h)]
 · rw [if_neg h, if_neg (mt (pA hj).mpr h)]
theorem partM_all (k n : Nat) (l : Int) (M : Nat -> Nat -> Int) (i j : Nat) (hi : i < n) : partM k n (k + 1) l M i j = stepM k l M i j := by
 unfold partM stepM
 by_cases h : k < i ∧ k < j
 · rw [if_pos h, if_pos (by exact ⟨h.2, .inl (⟨h.1, hi⟩)⟩)]
 · rw [if_neg h, if_neg fun hp => by obtain ⟨a, x⟩ := hp; exact h ⟨x.elim And.left fun y => y.2.1, a⟩]
theorem partM_upd (k low place : Nat) (l : Int) (M : Nat -> Nat -> Int) (h1 : k < low) (h2 : k < place) : upd (partM k low place l M) low place ((M k k * M low place - M low k * M k place).fdiv l) = partM k low (place + 1) l M := by
 funext i j
 unfold upd partM
 by_cases h : i = low ∧ j = place
 · rw [if_pos h, if_pos ⟨h.2.symm ▸ h2, .inr ⟨h.1, h.1.symm ▸ h1, Nat.lt_succ_of_le (Nat.le_of_eq h.2)⟩⟩, h.1, h.2]
 · rw [if_neg h]
   by_cases h' : k < j ∧ (k < i ∧ i < low ∨ i = low ∧ k < i ∧ j < place)
   · rw [if_pos h', if_pos ((pU h).mp h')]
   · rw [if_neg h', if_neg (mt (pU h).mpr h')]
theorem partM_old {k low place : Nat} {l : Int} {M : Nat -> Nat -> Int} {i j : Nat} (h : i = k ∨ j = k ∨ (i = low ∧ j = place)) : partM k low place l M i j = M i j := by
 unfold partM
 rw [if_neg (pO h)]
theorem DetV.ext {n : Nat} {P : Nat -> Nat} {M M' : Nat -> Nat -> Int} {t l : Int} {k : Nat} {σ : St} (h : DetV n P M t l k σ) (e : ∀ i j, i < n -> j < n -> M i j = M' i j) : DetV n P M' t l k σ := ⟨h.s.ext e, h.t, h.l, h.k⟩
theorem swp_inj {n a b : Nat} {P : Nat -> Nat} (ha : a < n) (hb : b < n) (h : ∀ i j, i < n -> j < n -> P i = P j -> i = j) : ∀ i j, i < n -> j < n -> swp a b P i = swp a b P j -> i = j := by
 intro i j hi hj e
 unfold swp at e
 have := h _ _ (by split; exact hb; split; exact ha; exact hi) (by split; exact hb; split; exact ha; exact hj) e
 by_cases h1 : i = a <;> by_cases h2 : i = b <;> by_cases h3 : j = a <;> by_cases h4 : j = b <;> simp_all
theorem clean_row (n : Nat) (x : Nat -> Int) : D.cleanL (rowD n x) = true := cleanL_map (fun j => D.int (x j)) (fun _ => rfl) _
theorem ev_succ {G : Gl} {sc : Scope} {k : Nat} {σ : St} {e : Expr} {n : Nat} {p q : Pos} {j : Nat} (h : Ev G sc k σ e (.int (j : Nat))) : Ev G sc k σ (.BinOp e .Add (.Constant (.int 1) n q) p) (.int ((j + 1 : Nat))) := by
 rw [Int.natCast_add]
 exact ev_bin h ev_int bin_add_int
theorem good_eq {G : Gl} {sc : Scope} {k : Nat} {σ : St} {A : List Nat} : Two G sc k σ (compareOp .Eq) (.lst (A.map fun a => .int (a : Nat))) (.lst []) (.bool (decide (A = []))) := by
 have eqA : PyData.eqv (.list ((A.map fun a => ((a : Nat) : Int)).map PyData.int)) (.list []) = decide (A = []) := by
  cases A with
  | nil => simp [PyData.eqv, PyData.eqvAll]
  | cons a r => simp [PyData.eqv, PyData.eqvAll]
 refine cmp_eq_pd (p := .list ((A.map fun a => ((a : Nat) : Int)).map PyData.int)) (q := .list []) ?_ rfl (ke_shaped_ints _) rfl eqA
 show (if D.isPL (A.map fun a => D.int (a : Nat)) = true then some (PyData.list (D.pdL (A.map fun a => D.int (a : Nat)))) else none) = _
 rw [(pd_nats A).2, (pd_nats A).1]; rfl
theorem swapM_self (a : Nat) (M : Nat -> Nat -> Int) : swapM a a M = M := by
 funext i j
 unfold swapM
 congr 1
 split
 · exact (by assumption : i = a).symm
 · rfl
theorem exs_gen {G : Gl} {sc : Scope} {k : Nat} {σ : St} {ss : List Stmt} {Q : Fl -> St -> Prop} (P : St -> Prop) (hP : P σ) (h : ∀ σ, P σ -> Exs G sc k σ ss Q) : Exs G sc k σ ss Q := h σ hP
set_option maxHeartbeats 4000000 in
theorem cal_determinant {G : Gl} (g : IsG G) {k : Nat} {σ : St} (hk : k < 38) {n : Nat} {M : Nat -> Nat -> Int} {d : Int} (hn1 : 1 ≤ n) (hn : n < 1000) (run : DetRun n (n - 1) 0 M 1 1 d) :
 Cal G k σ (.ref 212) [.lst ((List.range n).map fun i => .lst (rowD n (M i)))] (.int d) := by
 have hcl : D.cleanL ((List.range n).map fun i => D.lst (rowD n (M i))) = true := cleanL_map (fun i => D.lst (rowD n (M i))) (fun i => clean_row n (M i)) _
 refine cal_fn (fn_law_determinant g) (by exact dl1 1 40 1 38 hk rfl) rfl (by show (D.cleanL ((List.range n).map fun i => D.lst (rowD n (M i))) && true) = true; rw [hcl]; rfl) ?_ rfl
 refine exs_one (ex_rowsC (ls := (List.range n).map fun i => (List.range n).map (M i)) (comp_rowsF (List.range n) (fun i => .lst (rowD n (M i))) (fun i => [("row", .lst (rowD n (M i)))]) (fun i => rowD n (M i)) (ow := true)
  (evIt_seq (d := .lst ((List.range n).map fun i => D.lst (rowD n (M i)))) (ev_loc rfl rfl) rfl hcl (fun h => nomatch h)) (.inl rfl) ?_ rfl (.skip rfl (.skip rfl (.skip rfl .nil))) .nil (fun i _ => D.clean_firm (d := .lst _) (clean_row n (M i))) (by rw [List.length_range]; exact dl1 0 16777216 1 1000 hn rfl) (fun _ _ => .loc _ _ _ rfl)
  (fun i _ => ⟨clean_row n (M i), evN_call (ev_bl rfl (no_list g) (mb_list g)) (.ty _) (evL_cons (ev_loc rfl rfl) evL_nil) (list_l rfl (by simp [rowD]; exact dl1 0 16777216 1 1000 hn rfl) (by simp [rowD]; intro j _; rfl))⟩)) rfl (as_cell rfl rfl)) ?_
 · rw [List.map_map]
   refine List.map_congr_left fun i _ => ?_
   show rowD n (M i) = _
   simp only [Function.comp, List.map_map]
   rfl
 refine exs_one (ex_asg rfl ev_int (as_loc rfl rfl)) ?_
 refine exs_one (ex_asg rfl ev_int (as_loc rfl rfl)) ?_
 refine exs_gen (fun σ => DetSt n (fun i => i) M σ ∧ σ.get "turned" = some (.int 1) ∧ σ.get "last" = some (.int 1)) ⟨⟨?_, fun i j _ _ h => h, fun i h => h, M, ?_, fun _ _ _ _ => rfl⟩, rfl, rfl⟩ ?_
 · show some (D.h (0 + ((List.range n).map fun i => (List.range n).map (M i)).length)) = _
   rw [List.length_map, List.length_range, Nat.zero_add]
 · show [] ++ (_ ++ [_]) = _
   unfold detOwn
   rw [List.nil_append, List.map_map, List.length_map, List.length_range]
   congr 1
   · refine List.map_congr_left fun i _ => ?_
     show List.map D.int _ = rowD n (M i)
     rw [List.map_map]; rfl
   · congr 1
     refine List.map_congr_left fun i _ => ?_
     show D.h (0 + i) = _
     rw [Nat.zero_add]
 rintro σ0 ⟨S0, T0, L0⟩
 have lenN : ∀ {σ' : St} {P : Nat -> Nat} {M' : Nat -> Nat -> Int} {p q r : Pos}, DetSt n P M' σ' -> Ev G (fdAt G.w.params 212).scope (k + 1) σ' (.Call (.Name "len" p) [.Name "rows" q] [] r) (.int n) := fun {σ' P M' p q r} h =>
  ev_call (ev_bl rfl (no_len g) (mb_len g)) (.bi _) (evL_cons (ev_cell rfl h.rows) evL_nil) (detPrim g h hn)
 refine exs_cons (Q1 := fun fl σ1 => (fl = .next ∧ ∃ P M' t l, DetSt n P M' σ1 ∧ σ1.get "turned" = some (.int t) ∧ (t = 1 ∨ t = -1) ∧ DetRun n 0 (n - 1) M' t l d) ∨ fl = .ret (.int d)) (ex_forR0 (b := n - 1) (evIt_range1 (n := n - 1) (ev_bl rfl (no_range g) (mb_range g)) ?_ (by exact dl2 0 1000000000 0 0 1 1000 (Nat.sub_le n 1) hn rfl)) (fun _ _ => rfl)
  (fun j σ1 => ∃ P M' t l, DetSt n P M' σ1 ∧ σ1.get "turned" = some (.int t) ∧ σ1.get "last" = some (.int l) ∧ (t = 1 ∨ t = -1) ∧ DetRun n (n - 1 - j) j M' t l d) ?_ ?_ ?_) ?_ ?_
 · rw [show ((n - 1 : Nat) : Int) = (n : Int) - 1 from Int.ofNat_sub hn1]
   exact ev_bin (lenN S0) ev_int bin_sub_int
 · exact ⟨_, M, 1, 1, S0, T0, L0, .inl rfl, run⟩
 · rintro j σ1 hj ⟨P, M', t, l, S1, T1, L1, ht, run⟩
   refine ⟨_, as_cell rfl rfl, ?_⟩
   refine exs_gen (fun σ => DetV n P M' t l j σ) ⟨S1.set "k" _ (by decide), sn T1, sn L1, St.set_eq⟩ ?_
   intro σ2 V2
   have hr : n - 1 - j = (n - 1 - (j + 1)) + 1 := sb1 hj
   have hjn : j < n := Nat.lt_of_lt_of_le hj (Nat.sub_le n 1)
   have hj63 : (j : Int) < 2 ^ 63 := i64 hjn (Nat.le_of_lt hn)
   rw [hr] at run
   refine exs_one (ex_swap (fr := false) (l := ((List.range' j (n - j)).filter fun p => M' p j != 0).map fun p => .int (p : Nat)) (comp_isF (List.range' j (n - j)) (fun p => .int (p : Nat)) (fun p => [("place", .int (p : Nat))]) (fun p => M' p j != 0) (fun p => .int (p : Nat)) (ow := false)
    (evIt_range2 (ev_bl rfl (no_range g) (mb_range g)) (ev_cell rfl V2.k) (lenN V2.s) (by exact dl3 0 1000000000 1 0 0 0 1 1000 hj (Nat.sub_le n 1) hn rfl) (by exact dl1 0 1000000000 1 1000 hn rfl)) (.inr fun _ _ => rfl) rfl rfl (.skip rfl (.skip rfl (.free V2.k rfl (.free V2.s.rows (view_rows V2.s) .nil)))) (.cons rfl (.cons (nohL_map (fun i => D.bor (rowD n (M' i))) (fun i => rowD_noh n (M' i)) _) .nil)) (fun _ _ => rfl) (by rw [List.length_range']; exact Nat.le_trans (Nat.sub_le n j) (Nat.le_trans (Nat.le_of_lt hn) (by decide))) (fun _ _ => .loc _ _ _ rfl)
    (fun p hp => .inr ⟨_, rfl, ?_⟩) (fun p _ _ => ⟨rfl, ev_loc rfl rfl⟩)) (cleanL_map _ (fun _ => rfl) _) rfl rfl rfl rfl (as_loc rfl (D.clean_firm (d := .lst _) (cleanL_map _ (fun _ => rfl) _)))) ?_
   · rw [List.mem_range'_1] at hp
     have hpn : p < n := rg hp.2 (Nat.le_of_lt hjn)
     refine tr_cmp (ev_item (l := rowD n (M' p)) (d1 := .bor (rowD n (M' p))) (i := (j : Nat)) (ev_item (l := (List.range n).map fun i => .bor (rowD n (M' i))) (d1 := ownRows n P M') (i := (p : Nat)) (ev_cell rfl rfl) (ev_loc rfl rfl) rfl ?_ ⟨by exact i63n, i64 hpn (Nat.le_of_lt hn)⟩) (ev_cell rfl rfl) rfl ?_ ⟨by exact i63n, hj63⟩) ev_int cmp_ne_int
     · rw [pyAt_nat]; simp [hpn]
     · rw [pyAt_nat, rowD_at hjn]
   generalize hgood : (List.range' j (n - j)).filter (fun p => M' p j != 0) = good
   refine exs_gen (fun σ => DetV n P M' t l j σ ∧ σ.get "good" = some (.lst (good.map fun p => .int (p : Nat)))) ⟨V2.set "good" _ (by decide), St.set_eq⟩ ?_
   clear V2
   rintro σ3 ⟨V3, G3⟩
   cases run with
   | zero h =>
    have hg : good = [] := by
     rw [← hgood, List.filter_eq_nil_iff]
     intro q hq
     rw [List.mem_range'_1] at hq
     rw [h q hq.1 (rg hq.2 (Nat.le_of_lt hjn))]; simp
    refine exs_cons (Q1 := fun fl σ4 => fl = .ret (.int 0)) (ex_if (b := decide (good = [])) (tr_cmp (ev_loc rfl G3) (evN_list evL_nil (by decide)).ev good_eq) (fun _ => exs_ret ev_int rfl) (fun h => absurd hg (of_decide_eq_false h))) (fun σ1 e => nomatch e) (fun fl σ1 _ e => ?_)
    subst e
    exact .inr rfl
   | @step _ _ p _ _ _ _ hp hmin hl hb r =>
    obtain ⟨gr, hgr⟩ := filter_first (n := n) (k := j) (p := p) (f := fun p => M' p j != 0) ⟨hp.1, hp.2.1⟩ (by simpa using hp.2.2) (fun q h1 h2 => by simpa using hmin q h1 h2)
    rw [hgood] at hgr
    subst hgr
    refine exs_one (ex_if (b := decide (p :: gr = [])) (tr_cmp (ev_loc rfl G3) (evN_list evL_nil (by decide)).ev good_eq) (fun h => (by have := of_decide_eq_true h; cases this)) (fun _ => exs_nil ⟨rfl, rfl⟩)) ?_
    have good0 : ∀ {σ' : St} {p1 p2 p3 : Pos} {n0 : Nat}, σ'.get "good" = some (.lst ((p :: gr).map fun p => .int (p : Nat))) -> Ev G (fdAt G.w.params 212).scope (k + 1) σ' (.Subscript (.Name "good" p1) (.Constant (.int 0) n0 p2) p3) (.int (p : Nat)) := fun {σ' p1 p2 p3 n0} h =>
     ev_item (l := (p :: gr).map fun p => .int (p : Nat)) (i := 0) (ev_loc rfl h) ev_int rfl rfl ⟨by decide, by decide⟩
    refine exs_cons (Q1 := fun fl σ4 => fl = .next ∧ ∃ P', DetV n P' (swapM j p M') (if p = j then t else -t) l j σ4) (ex_if (b := (p : Int) != (j : Int)) (tr_cmp (good0 G3) (ev_cell rfl V3.k) cmp_ne_int) (fun h => ?_) (fun h => ?_)) ?_ (fun fl σ1 ne e => absurd e.1 ne)
    · have hne : p ≠ j := by rintro rfl; simp at h
      obtain ⟨X, x1, x2⟩ := V3.s.own
      have hinj := V3.s.inj
      have hlt := V3.s.lt
      refine exs_one (ex_asg rfl (ev_row V3.s hn rfl (good0 G3) hp.2.1) (as_loc rfl rfl)) ?_
      refine exs_gen (fun σ => DetV n P M' t l j σ ∧ σ.get "good" = some (.lst ((p :: gr).map fun p => .int (p : Nat))) ∧ σ.get "first" = some (.h (P p)) ∧ σ.own = ((List.range n).map fun i => rowD n (X i)) ++ [((List.range n).map P).map .h]) ⟨V3.set "first" _ (by decide), sn G3, St.set_eq, ?_⟩ ?_
      · show σ3.own = _
        rw [x1, List.map_map]; rfl
      rintro σ4 ⟨V4, G4, F4, O4⟩
      refine exs_one (ex_puth hn (ev_cell rfl V4.s.rows) O4 (by simp) (good0 G4) hp.2.1 (ev_row V4.s hn rfl (ev_cell rfl V4.k) hjn)) ?_
      refine exs_one (ex_puth hn (ev_cell rfl V4.s.rows) rfl (by simp) (ev_cell rfl V4.k) hjn (ev_loc rfl F4)) ?_
      refine exs_one (ex_asg rfl (ev_un (ev_loc rfl V4.t) un_neg) (as_loc rfl rfl)) (exs_nil ⟨rfl, swp j p P, ⟨?_, ?_, ?_, ?_⟩, ?_, ?_, ?_⟩)
      · exact sn V4.s.rows
      · exact swp_inj hjn hp.2.1 hinj
      · intro i hi
        unfold swp
        exact hlt _ (by split; exact hp.2.1; split; exact dl2 1 0 1 0 0 0 hj (Nat.sub_le n 1) rfl; exact hi)
      · refine ⟨X, ?_, fun i jj hi hj => ?_⟩
        · show _ ++ [_] = detOwn n X (swp j p P)
          unfold detOwn
          congr 2
          rw [rset, rset, List.map_map]
          refine List.map_congr_left fun i _ => ?_
          show D.h _ = D.h _
          unfold swp
          congr 1
          by_cases h1 : i = j
          · simp [h1]
          · by_cases h2 : i = p
            · subst h2; simp [hne]
            · simp [h1, h2]
        · unfold swp swapM
          exact x2 _ _ (by split; exact hp.2.1; split; exact dl2 1 0 0 0 1 0 hp.1 hp.2.1 rfl; exact hi) hj
      · rw [if_neg hne]; exact St.set_eq
      · exact sn V4.l
      · exact sn V4.k
    · have he : p = j := by
       have h' : (p : Int) = (j : Int) := by simpa using h
       exact Int.ofNat.inj h'
      subst he
      refine exs_nil ⟨rfl, P, ?_⟩
      rw [swapM_self, if_pos rfl]
      exact V3
    · rintro σ4 ⟨_, P', V4⟩
      have hN : ∀ i jj, i < n -> jj < n -> (swapM j p M' i jj).natAbs < 2 ^ 1000 := fun i jj hi hj => by
       unfold swapM
       exact hb _ _ (by split; exact hp.2.1; split; exact dl2 1 0 0 0 1 0 hp.1 hp.2.1 rfl; exact hi) hj
      have hjj : swapM j p M' j j = M' p j := by unfold swapM; rw [if_pos rfl]
      have ht' : (if p = j then t else -t) = 1 ∨ (if p = j then t else -t) = -1 := by split; exact ht; exact sg1 ht
      generalize swapM j p M' = N at V4 hN hjj r
      generalize (if p = j then t else -t) = t' at V4 r ht'
      refine exs_cons (Q1 := fun fl σ5 => fl = .next ∧ DetV n P' (stepM j l N) t' l j σ5) (ex_forR (a := j + 1) (b := n) (evIt_range2 (ev_bl rfl (no_range g) (mb_range g)) (ev_succ (ev_cell rfl V4.k)) (lenN V4.s) (by exact dl3 1 1000000000 1 0 0 0 1 1000 hj (Nat.sub_le n 1) hn rfl) (by exact dl1 0 1000000000 1 1000 hn rfl)) (fun _ _ => rfl) hjn (fun low σ5 => DetV n P' (partM j low (j + 1) l N) t' l j σ5) ?_ ?_ ?_) ?_ (fun fl σ1 ne e => absurd e.1 ne)
      · rw [partM_zero]; exact V4
      · intro low σ5 hlow1 hlow2 V5
        refine ⟨_, as_loc rfl rfl, ?_⟩
        refine exs_gen (fun σ => DetV n P' (partM j low (j + 1) l N) t' l j σ ∧ σ.get "low" = some (.int (low : Nat))) ⟨V5.set "low" _ (by decide), St.set_eq⟩ ?_
        rintro σ6 ⟨V6, L6⟩
        refine exs_cons (Q1 := fun fl σ5 => fl = .next ∧ DetV n P' (partM j (low + 1) (j + 1) l N) t' l j σ5) (ex_forR (a := j + 1) (b := n) (evIt_range2 (ev_bl rfl (no_range g) (mb_range g)) (ev_succ (ev_cell rfl V6.k)) (lenN V6.s) (by exact dl3 1 1000000000 1 0 0 0 1 1000 hj (Nat.sub_le n 1) hn rfl) (by exact dl1 0 1000000000 1 1000 hn rfl)) (fun _ _ => rfl) hjn (fun place σ5 => DetV n P' (partM j low place l N) t' l j σ5 ∧ σ5.get "low" = some (.int (low : Nat))) ⟨V6, L6⟩ ?_ ?_) (fun σ7 h => exs_nil h.2) (fun fl σ1 ne e => absurd e.1 ne)
        · rintro place σ7 hp1 hp2 ⟨V7, L7⟩
          refine ⟨_, as_loc rfl rfl, ?_⟩
          refine exs_gen (fun σ => DetV n P' (partM j low place l N) t' l j σ ∧ σ.get "low" = some (.int (low : Nat)) ∧ σ.get "place" = some (.int (place : Nat))) ⟨V7.set "place" _ (by decide), sn L7, St.set_eq⟩ ?_
          clear V7 L7 V6 L6 V5
          rintro σ8 ⟨V8, L8, P8⟩
          have ekk : partM j low place l N j j = N j j := partM_old (.inl rfl)
          have elp : partM j low place l N low place = N low place := partM_old (.inr (.inr ⟨rfl, rfl⟩))
          have elk : partM j low place l N low j = N low j := partM_old (.inr (.inl rfl))
          have ekp : partM j low place l N j place = N j place := partM_old (.inl rfl)
          refine exs_one (ex_asg (d := .int (N j j * N low place - N low j * N j place)) rfl (ev_call (ev_glob rfl (mg_sub g)) (fn_sub g).fk (evL_cons (ev_call (d := .int (N j j * N low place)) (ev_glob rfl (mg_mul g)) (fn_mul g).fk (evL_cons (ekk ▸ ev_at V8.s hn rfl (ev_cell rfl V8.k) (ev_cell rfl V8.k) hjn hjn) (evL_cons (elp ▸ ev_at V8.s hn rfl (ev_loc rfl L8) (ev_loc rfl P8) (by exact hlow2) (by exact hp2)) evL_nil)) (cal_mul g (by exact dl1 2 40 1 38 hk rfl) (mulok_big (hN _ _ hjn hjn) (hN _ _ (by exact hlow2) (by exact hp2)))))
           (evL_cons (ev_call (d := .int (N low j * N j place)) (ev_glob rfl (mg_mul g)) (fn_mul g).fk (evL_cons (elk ▸ ev_at V8.s hn rfl (ev_loc rfl L8) (ev_cell rfl V8.k) (by exact hlow2) hjn) (evL_cons (ekp ▸ ev_at V8.s hn rfl (ev_cell rfl V8.k) (ev_loc rfl P8) hjn (by exact hp2)) evL_nil)) (cal_mul g (by exact dl1 2 40 1 38 hk rfl) (mulok_big (hN _ _ (by exact hlow2) hjn) (hN _ _ hjn (by exact hp2))))) evL_nil)) (cal_sub g (by exact dl1 2 40 1 38 hk rfl))) (as_loc rfl rfl)) ?_
          refine exs_gen (fun σ => DetV n P' (partM j low place l N) t' l j σ ∧ σ.get "low" = some (.int (low : Nat)) ∧ σ.get "place" = some (.int (place : Nat)) ∧ σ.get "cross" = some (.int (N j j * N low place - N low j * N j place))) ⟨V8.set "cross" _ (by decide), sn L8, sn P8, St.set_eq⟩ ?_
          clear V8 L8 P8
          rintro σ9 ⟨V9, L9, P9, C9⟩
          refine exs_cons (ex_put V9.s hn rfl (ev_loc rfl L9) (ev_loc rfl P9) (by exact hlow2) (by exact hp2) (ev_call (d := .int ((N j j * N low place - N low j * N j place).fdiv l)) (ev_glob rfl (mg_floordiv g)) (fn_floordiv g).fk (evL_cons (ev_loc rfl C9) (evL_cons (ev_loc rfl V9.l) evL_nil)) (cal_floordiv g (by exact dl1 2 40 1 38 hk rfl) hl.1 (noPylong hl.2)))) (fun σ10 ⟨_, q1, q2⟩ => exs_nil ⟨⟨?_, ?_, ?_, ?_⟩, ?_⟩) (fun fl σ1 ne e => absurd e.1 ne)
          · rwa [partM_upd j low place l N (by exact hlow1) (by exact hp1)] at q2
          · show σ10.vars.lookup _ = _; rw [q1]; exact V9.t
          · show σ10.vars.lookup _ = _; rw [q1]; exact V9.l
          · show σ10.vars.lookup _ = _; rw [q1]; exact V9.k
          · show σ10.vars.lookup _ = _; rw [q1]; exact L9
        · rintro σ7 ⟨V7, _⟩
          exact ⟨rfl, V7.ext fun i jj hi hj => partM_next j low n l N i jj hj (by exact hlow1)⟩
      · intro σ5 V5
        exact ⟨rfl, V5.ext fun i jj hi hj => partM_all j n l N i jj hi⟩
      · rintro σ5 ⟨_, V5⟩
        have ekk : stepM j l N j j = M' p j := by rw [← hjj]; unfold stepM; rw [if_neg fun h => Nat.lt_irrefl _ h.1]
        refine exs_one (ex_asg (d := .int (M' p j)) rfl (ekk ▸ ev_at V5.s hn rfl (ev_cell rfl V5.k) (ev_cell rfl V5.k) hjn hjn) (as_loc rfl rfl)) (exs_nil ⟨P', stepM j l N, t', M' p j, V5.s.set "last" _ (by decide), sn V5.t, St.set_eq, ht', r⟩)
 · rintro σ1 ⟨P, M', t, l, S1, T1, L1, ht, run⟩
   rw [Nat.sub_self] at run
   exact .inl ⟨rfl, P, M', t, l, S1, T1, ht, run⟩
 · rintro σ1 (⟨_, P, M', t, l, S1, T1, ht, run⟩ | h)
   · obtain ⟨X, x1, x2⟩ := S1.own
     have hnn : n - 1 < n := Nat.sub_lt hn1 Nat.one_pos
     have hd : d = t * M' (n - 1) (n - 1) := by cases run; rfl
     subst hd
     refine exs_ret (ev_call (ev_glob rfl (mg_mul g)) (fn_mul g).fk (evL_cons (ev_loc rfl T1) (evL_cons (ev_item (l := rowD n (X (P (n - 1)))) (i := -1) (d1 := .h (P (n - 1))) (ev_item (l := (List.range n).map fun i => .h (P i)) (i := -1) (ev_cell rfl S1.rows) (ev_un ev_int un_neg) (by show σ1.own[n]? = _; rw [x1, detOwn_h]) ?_ ⟨by decide, by decide⟩) (ev_un ev_int un_neg) (by show σ1.own[_]? = _; rw [x1, detOwn_row (S1.lt _ hnn)]) ?_ ⟨by decide, by decide⟩) evL_nil)) (cal_mul g (by exact dl1 2 40 1 38 hk rfl) (mulok_l (sg2 ht)))) ⟨_, .ret _, rfl⟩
     · rw [pyAt_last, List.getLast?_eq_getElem?, List.length_map, List.length_range]; simp [hnn]
     · rw [pyAt_last, List.getLast?_eq_getElem?, ← x2 (n - 1) (n - 1) hnn hnn]; simp [rowD, hnn]
   · cases h
 · rintro fl σ1 ne (⟨e, _⟩ | e)
   · exact absurd e ne
   · subst e; exact ⟨_, .ret _, rfl⟩
end
section
noncomputable def namesOf (hand : Nat) : List (List Nat × List Nat) := [([38], [38, 97, 109, 112, 59]), ([60], [38, 108, 116, 59]), ([62], [38, 103, 116, 59]), ([34], [38, 113, 117, 111, 116, 59]), ([10], if hand = 2 then [38, 35, 49, 48, 59] else [38, 35, 120, 65, 59])]
noncomputable def takenL : List (List Nat) := [[38, 60, 62], [38, 60, 62], [38, 60, 62, 34, 10], [38, 62, 34], [38, 60, 34, 10]]
noncomputable def spell1 (hand : Nat) (c : Nat) : List Nat := if (takenL.getD hand []).contains c then ((namesOf hand).lookup [c]).getD [] else [c]
noncomputable def spelled (hand : Nat) (x : List Nat) : List Nat := (x.map (spell1 hand)).flatten
theorem spell1_le (hand c : Nat) : (spell1 hand c).length ≤ 6 := by
 unfold spell1
 split
 · simp only [namesOf, List.lookup]
   repeat' split
   all_goals simp
 · simp
theorem spelled_le (hand : Nat) : ∀ x : List Nat, (spelled hand x).length ≤ 6 * x.length
 | [] => Nat.le_refl _
 | c :: r => by
  have h1 := spelled_le hand r
  have h2 := spell1_le hand c
  have e : spelled hand (c :: r) = spell1 hand c ++ spelled hand r := rfl
  rw [e, List.length_append, List.length_cons]
  omega
theorem taken_known {hand c : Nat} (hh : hand < 5) (h : (takenL.getD hand []).contains c = true) : ∃ z, (namesOf hand).lookup [c] = some z := by
 have hc : c = 38 ∨ c = 60 ∨ c = 62 ∨ c = 34 ∨ c = 10 := by
  match hand, hh with
  | 0, _ | 1, _ | 2, _ | 3, _ | 4, _ =>
   simp [takenL] at h
   first | exact k3 h | exact h | (rcases h with rfl | rfl | rfl | rfl <;> decide) | (rcases h with rfl | rfl | rfl <;> decide)
 rcases hc with rfl | rfl | rfl | rfl | rfl
 all_goals exact ⟨_, rfl⟩
theorem swaps_dict (keys : List (Option Expr)) (values : List Expr) (pos : Pos) (t : Option Expr) (line : Nat) (env : Env) : swapsWith (.Dict keys values pos) t line env = pure false := rfl
theorem ev_strL {G : Gl} {sc : Scope} {k : Nat} {σ : St} {x : Str} {n : Nat} {p : Pos} (l : List Nat) (h : unS x = l) : Ev G sc k σ (.Constant (.str x) n p) (.str l) := by
 subst h
 exact ev_str
noncomputable def dictE (P : Params) : Expr := match bodyAt P 164 with | .Assign _ e _ :: _ => e | _ => default
theorem dict5 {G : Gl} {sc : Scope} {k : Nat} {σ : St} {e1 e2 e3 e4 e5 v1 v2 v3 v4 v5 : Expr} {pos : Pos} {x1 x2 x3 x4 x5 z1 z2 z3 z4 z5 : List Nat} (h1 : Ev G sc k σ e1 (.str x1)) (h2 : Ev G sc k σ e2 (.str x2)) (h3 : Ev G sc k σ e3 (.str x3)) (h4 : Ev G sc k σ e4 (.str x4)) (h5 : Ev G sc k σ e5 (.str x5))
 (g1 : Ev G sc k σ v1 (.str z1)) (g2 : Ev G sc k σ v2 (.str z2)) (g3 : Ev G sc k σ v3 (.str z3)) (g4 : Ev G sc k σ v4 (.str z4)) (g5 : Ev G sc k σ v5 (.str z5)) (hnd : ([toS x1, toS x2, toS x3, toS x4, toS x5] : List Str).Nodup) :
 Ev G sc k σ (.Dict [some e1, some e2, some e3, some e4, some e5] [v1, v2, v3, v4, v5] pos) (.dct (DctP G [(x1, z1), (x2, z2), (x3, z3), (x4, z4), (x5, z5)])) :=
 ev_dict (evPr_cons h1 g1 (evPr_cons h2 g2 (evPr_cons h3 g3 (evPr_cons h4 g4 (evPr_cons h5 g5 evPr_nil))))) hnd rfl rfl (by simp) (by simp)
theorem dictE_eq (P : Params) : ∃ e1 e2 e3 e4 e5 v1 v2 v3 v4 v5 pos, dictE P = .Dict [some e1, some e2, some e3, some e4, some e5] [v1, v2, v3, v4, v5] pos ∧ (∃ n p, e1 = .Constant (.str "&") n p) ∧ (∃ n p, e2 = .Constant (.str "<") n p) ∧ (∃ n p, e3 = .Constant (.str ">") n p) ∧ (∃ n p, e4 = .Constant (.str "\"") n p) ∧ (∃ n p, e5 = .Constant (.str "\n") n p) ∧
 (∃ n p, v1 = .Constant (.str "&amp;") n p) ∧ (∃ n p, v2 = .Constant (.str "&lt;") n p) ∧ (∃ n p, v3 = .Constant (.str "&gt;") n p) ∧ (∃ n p, v4 = .Constant (.str "&quot;") n p) ∧ (∃ n p m q q' r l t u, v5 = .IfExp (.Compare (.Name "hand" q) [.Eq] [.Constant (.int 2) m q'] r) (.Constant (.str "&#10;") n p) (.Constant (.str "&#xA;") l t) u) :=
 ⟨_, _, _, _, _, _, _, _, _, _, _, rfl, ⟨_, _, rfl⟩, ⟨_, _, rfl⟩, ⟨_, _, rfl⟩, ⟨_, _, rfl⟩, ⟨_, _, rfl⟩, ⟨_, _, rfl⟩, ⟨_, _, rfl⟩, ⟨_, _, rfl⟩, ⟨_, _, rfl⟩, ⟨_, _, _, _, _, _, _, _, _, rfl⟩⟩
theorem dictE_ev {G : Gl} {k : Nat} {σ : St} {hand : Nat} (hv : σ.get "hand" = some (D.int (hand : Nat))) : Ev G (fdAt G.w.params 164).scope k σ (dictE G.w.params) (.dct (DctP G (namesOf hand))) := by
 obtain ⟨e1, e2, e3, e4, e5, v1, v2, v3, v4, v5, pos, h, ⟨_, _, h1⟩, ⟨_, _, h2⟩, ⟨_, _, h3⟩, ⟨_, _, h4⟩, ⟨_, _, h5⟩, ⟨_, _, g1⟩, ⟨_, _, g2⟩, ⟨_, _, g3⟩, ⟨_, _, g4⟩, ⟨_, _, _, _, _, _, _, _, _, g5⟩⟩ := dictE_eq G.w.params
 rw [h]
 refine dict5 (by rw [h1]; exact ev_strL _ (by decide +kernel)) (by rw [h2]; exact ev_strL _ (by decide +kernel)) (by rw [h3]; exact ev_strL _ (by decide +kernel)) (by rw [h4]; exact ev_strL _ (by decide +kernel)) (by rw [h5]; exact ev_strL _ (by decide +kernel))
  (by rw [g1]; exact ev_strL _ (by decide +kernel)) (by rw [g2]; exact ev_strL _ (by decide +kernel)) (by rw [g3]; exact ev_strL _ (by decide +kernel)) (by rw [g4]; exact ev_strL _ (by decide +kernel)) ?_ (by decide +kernel)
 rw [g5]
 refine ev_if (q := (hand : Int) == 2) (tr_cmp (ev_loc rfl hv) ev_int cmp_eq_int) (fun h => ?_) (fun h => ?_)
 · have : hand = 2 := by have := eq_of_beq h; omega
   rw [if_pos this]; exact ev_strL _ (by decide +kernel)
 · have : ¬ hand = 2 := by
    intro e; subst e; exact absurd h (by decide)
   rw [if_neg this]; exact ev_strL _ (by decide +kernel)
theorem dictE_sw (P : Params) (t : Option Expr) (line : Nat) (env : Env) : swapsWith (dictE P) t line env = pure false := swaps_dict _ _ _ _ _ _
set_option maxHeartbeats 1000000 in
theorem cal_spelled {G : Gl} (g : IsG G) {k : Nat} {σ : St} (hk : k < 38) {x : List Nat} {hand : Nat} (hh : hand < 5) (hx : x.length ≤ 1000000) : Cal G k σ (.ref 164) [.str x, .int (hand : Nat)] (.str (spelled hand x)) := by
 refine cal_fn (fn_law_spelled g) (by exact dl1 1 40 1 38 hk rfl) rfl rfl ?_ rfl
 have hl := spelled_le hand x
 have hE := fun σ => @dictE_ev G (k + 1) σ hand
 have hS := dictE_sw G.w.params
 show Exs G _ _ _ (.Assign [.Name "names" _] (dictE G.w.params) _ :: _) _
 generalize dictE G.w.params = e at hE hS
 refine exs_one (ex_asg (d := .dct (DctP G (namesOf hand))) rfl (hE _ rfl) (as_cell rfl rfl) (fun _ => hS _ _ _)) ?_
 refine exs_one (ex_asg (d := .str (takenL.getD hand [])) rfl (ev_item (l := takenL.map .str) (i := (hand : Nat)) (evN_list (ds := takenL.map .str) (evL_cons (ev_strL [38, 60, 62] (by decide +kernel)) (evL_cons (ev_strL [38, 60, 62] (by decide +kernel)) (evL_cons (ev_strL [38, 60, 62, 34, 10] (by decide +kernel)) (evL_cons (ev_strL [38, 62, 34] (by decide +kernel)) (evL_cons (ev_strL [38, 60, 34, 10] (by decide +kernel)) evL_nil))))) (by decide)).ev (ev_loc rfl rfl) rfl ?_ ⟨by exact i63n, by exact i63 (dl1 1 9223372036854775808 1 5 hh rfl)⟩) (as_cell rfl rfl)) ?_
 · rw [pyAt_nat, List.getElem?_map]
   have : hand < takenL.length := hh
   simp [List.getD_eq_getElem?_getD, this]
 refine exs_ret (d := .str (spelled hand x)) (ev_join (l := x.map (spell1 hand)) (evN_comp (fr := false) (comp_mapF x (fun c => .str [c]) (fun c => [("sign", .str [c])]) (fun c => .str (spell1 hand c)) (evIt_str (ev_loc rfl rfl)) (.inr fun _ _ => rfl) (by rw [List.map_map]; rfl) rfl (.skip rfl (.skip rfl (.free rfl rfl (.free rfl rfl .nil)))) (.cons rfl (.cons rfl .nil)) (fun _ _ => rfl) (by exact dl1 0 16777216 0 1000000 hx rfl) (fun _ _ => .loc _ _ _ rfl) (fun c _ => ⟨rfl, ?_⟩)) (clean_strs _)).ev rfl (by show (spelled hand x).length ≤ _; omega) rfl) ⟨_, .ret _, rfl⟩
 refine ev_if (q := (takenL.getD hand []).contains c) (tr_cmp (ev_loc rfl rfl) (ev_cell rfl rfl) (by rw [← contains_one, ← toS_one]; exact cmp_in_str)) (fun h => ?_) (fun h => ?_)
 · obtain ⟨z, hz⟩ := taken_known hh h
   have : spell1 hand c = z := by unfold spell1; rw [if_pos h, hz]; rfl
   rw [this]
   exact ev_look (ev_cell rfl rfl) (ev_loc rfl rfl) hz
 · have : spell1 hand c = [c] := by unfold spell1; rw [h]; rfl
   rw [this]
   exact ev_loc rfl rfl
end
section
theorem nfdiv (d n : Nat) : (d : Int).fdiv (n : Int) = ((d / n : Nat) : Int) := (Int.ofNat_fdiv d n).symm
theorem nfmod (d n : Nat) : (d : Int).fmod (n : Int) = ((d % n : Nat) : Int) := by rw [Int.fmod_eq_emod_of_nonneg _ (by exact Int.natCast_nonneg _)]; rfl
noncomputable def marksL : List (List Nat) := [[40], [41], [60, 40], [34], [62, 41], [92, 40], [10], [34, 92]]
noncomputable def digsL : List (List Nat) := [[48], [49], [50], [51], [52], [53], [54], [55], [56], [57], [49, 48], [49, 49], [49, 50], [49, 51], [49, 52], [49, 53], [49, 54], [49, 55], [49, 56], [49, 57], [50, 48]]
theorem decS_tab : ∀ n : Fin 21, decS ((n.val : Nat) : Int) = digsL.getD n.val [] := by decide +kernel
noncomputable def wordMW (m w : Nat) : List Nat := (marksL.getD m [] ++ (if w < 20 then [38] else [])) ++ digsL.getD (if w < 20 then 20 - w else w - 20) []
noncomputable def csL : List (List (Nat × List Nat)) := [cs_escape_cdata, cs_escape_cdata_c14n, cs_escape_attrib, cs_escape_attrib_html, cs_escape_attrib_c14n]
noncomputable def escOf (h : Nat) (x : List Nat) : List Nat := escFold (csL.getD h []) x
noncomputable def fL : List Nat → (List Nat → Bool) → Bool
 | [], k => k []
 | a :: r, k => fL r fun r' => k (a :: r')
theorem fL_eq : ∀ (l : List Nat) (k : List Nat → Bool), fL l k = k l
 | [], _ => rfl
 | a :: r, k => fL_eq r fun r' => k (a :: r')
theorem word_fin : ∀ m : Fin 8, ∀ w : Fin 41, (wordMW m.val w.val).length ≤ 5 := by decide +kernel
theorem esc_finA : ∀ h : Fin 5, ∀ m : Fin 8, ∀ w : Fin 41, fL (escOf h.val (wordMW m.val w.val)) (fun x => Nat.ble x.length 20) = true := by decide +kernel
theorem esc_fin (h : Fin 5) (m : Fin 8) (w : Fin 41) : (escOf h.val (wordMW m.val w.val)).length ≤ 20 := Nat.le_of_ble_eq_true ((fL_eq _ _).symm.trans (esc_finA h m w))
noncomputable def wayOf (d : Nat) : Int := ((d / 60 % 41 : Nat) : Int) - 20
noncomputable def handOf (d : Nat) : Nat := d / 39360 % 5
noncomputable def bareOf (d : Nat) : Bool := d / 19680 % 2 == 1
noncomputable def wordOf (d : Nat) : List Nat := wordMW (d / 2460 % 8) (d / 60 % 41)
theorem word_len (d : Nat) : (wordOf d).length ≤ 5 := word_fin ⟨d / 2460 % 8, Nat.mod_lt _ (by decide)⟩ ⟨d / 60 % 41, Nat.mod_lt _ (by decide)⟩
theorem hand_lt (d : Nat) : handOf d < 5 := Nat.mod_lt _ (by decide)
theorem esc_len (d : Nat) : (escOf (handOf d) (wordOf d)).length ≤ 20 := esc_fin ⟨handOf d, hand_lt d⟩ ⟨d / 2460 % 8, Nat.mod_lt _ (by decide)⟩ ⟨d / 60 % 41, Nat.mod_lt _ (by decide)⟩
theorem dressed_len (b : Bool) (x : List Nat) : (dressed b x).length ≤ 2 * x.length + 2 := by
 have h := (dress_len b x).2
 have q1 : (unS "\"").length = 1 := by decide
 unfold dressed
 split
 · exact dl1 0 2 0 0 h rfl
 · simp only [List.length_append, q1]; omega
structure PgS where
 page : List Nat
 due : List (List Nat)
 ways : List Int
 deep : Nat
noncomputable def shutsP (n : Nat) : List Nat := (List.replicate n [41, 32]).flatten
noncomputable def pgStep (S : PgS) (d : Nat) : PgS where
 page := (((S.page ++ shutsP (d % S.deep)) ++ [40, 32]) ++ dressed (bareOf d) (escOf (handOf d) (wordOf d))) ++ [32]
 due := S.due ++ (List.replicate (d % S.deep) [41] ++ [[40], spelled (handOf d) (wordOf d)])
 ways := S.ways ++ [wayOf d]
 deep := S.deep - d % S.deep + 1
noncomputable def pg0 : PgS := ⟨[40, 32], [[40]], [], 1⟩
noncomputable def pgRun (ds : List Nat) : PgS := ds.foldl pgStep pg0
theorem mul_shuts : ∀ n : Fin 7, unS (Txt.mul (toS [41, 32]) ((n.val : Nat) : Int)) = shutsP n.val := by decide +kernel
theorem mul_ok (n : Nat) (h : n < 7) : MulOk (toS [41, 32]) ((n : Nat) : Int) := by
 rcases n with _ | _ | _ | _ | _ | _ | _ | n
 all_goals first | exact absurd h (Nat.not_lt.mpr (Nat.le_add_left 7 n)) | exact ⟨by decide +kernel, by decide +kernel, by decide +kernel⟩
theorem cal_esc {G : Gl} (g : IsG G) {k : Nat} {σ : St} (hk : k < 40) {x : List Nat} (hx : x.length ≤ 16) {h : Nat} (hh : h < 5) : ∃ f, [D.val (.ref 126), .val (.ref 147), .val (.ref 133), .val (.ref 140), .val (.ref 154)][h]? = some (.val f) ∧ FK G f ∧ Cal G k σ f [.str x] (.str (escOf h x)) := by
 match h, hh with
 | 0, _ => exact ⟨_, rfl, (fn_escape_cdata g).fk, cal_escape_cdata g hk hx⟩
 | 1, _ => exact ⟨_, rfl, (fn_escape_cdata_c14n g).fk, cal_escape_cdata_c14n g hk hx⟩
 | 2, _ => exact ⟨_, rfl, (fn_escape_attrib g).fk, cal_escape_attrib g hk hx⟩
 | 3, _ => exact ⟨_, rfl, (fn_escape_attrib_html g).fk, cal_escape_attrib_html g hk hx⟩
 | 4, _ => exact ⟨_, rfl, (fn_escape_attrib_c14n g).fk, cal_escape_attrib_c14n g hk hx⟩
theorem ev_shuts {G : Gl} {sc : Scope} {k : Nat} {σ : St} {e : Expr} {p q : Pos} {n0 n : Nat} (hn : n < 7) (he : Ev G sc k σ e (.int (n : Nat))) : Ev G sc k σ (.BinOp (.Constant (.str ") ") n0 q) .Mult e p) (.str (shutsP n)) := by
 rw [← mul_shuts ⟨n, hn⟩]
 exact ev_bin (ev_strL [41, 32] (by decide +kernel)) he (bin_mul_str (mul_ok n hn))
theorem shutsP_len (n : Nat) : (shutsP n).length = 2 * n := by simp [shutsP, List.length_flatten]; omega
structure PgB (S : PgS) (j : Nat) : Prop where
 dp : 1 ≤ S.deep ∧ S.deep ≤ j + 1
 lp : S.page.length ≤ 2 + 60 * j
 ld : S.due.length ≤ 1 + 8 * j
 lw : S.ways.length = j
structure PgSt (S : PgS) (σ : St) : Prop where
 hands : σ.get "hands" = some (.lst [.val (.ref 126), .val (.ref 147), .val (.ref 133), .val (.ref 140), .val (.ref 154)])
 marks : σ.get "marks" = some (.lst (marksL.map .str))
 page : σ.get "page" = some (.str S.page)
 due : σ.get "due" = some (.h 0)
 ways : σ.get "ways" = some (.h 1)
 deep : σ.get "deep" = some (.int (S.deep : Nat))
 own : σ.own = [S.due.map .str, S.ways.map .int]
theorem PgSt.set {S : PgS} {σ : St} (h : PgSt S σ) (x : Str) (d : D) (hx : "hands" ≠ x ∧ "marks" ≠ x ∧ "page" ≠ x ∧ "due" ≠ x ∧ "ways" ≠ x ∧ "deep" ≠ x) : PgSt S (σ.set x d) :=
 ⟨(St.set_ne hx.1).trans h.hands, (St.set_ne hx.2.1).trans h.marks, (St.set_ne hx.2.2.1).trans h.page, (St.set_ne hx.2.2.2.1).trans h.due, (St.set_ne hx.2.2.2.2.1).trans h.ways, (St.set_ne hx.2.2.2.2.2).trans h.deep, h.own⟩
theorem pgRun_take (ds : List Nat) (j : Nat) (d : Nat) (h : ds[j]? = some d) : pgRun (ds.take (j + 1)) = pgStep (pgRun (ds.take j)) d := by
 unfold pgRun
 rw [List.take_add_one, h, List.foldl_append]; rfl
theorem pgB_step {S : PgS} {j : Nat} (h : PgB S j) (d : Nat) (hj : j < 5) : PgB (pgStep S d) (j + 1) := by
 have hdp := h.dp
 have hlp := h.lp
 have hld := h.ld
 have hlw := h.lw
 have hsh : d % S.deep < S.deep := Nat.mod_lt _ (by exact hdp.1)
 have hdr := dressed_len (bareOf d) (escOf (handOf d) (wordOf d))
 have hel := esc_len d
 have hshl := shutsP_len (d % S.deep)
 have hs5 : d % S.deep ≤ 5 := Nat.le_trans (Nat.le_of_lt hsh) (Nat.le_trans hdp.2 hj)
 refine ⟨?_, ?_, ?_, ?_⟩
 · simp only [pgStep]; exact ⟨dl1 1 1 0 0 (Nat.zero_le _) rfl, dl2 1 2 0 0 0 1 (Nat.sub_le S.deep (d % S.deep)) hdp.2 rfl⟩
 · simp only [pgStep, List.length_append, List.length_cons, List.length_nil]; have hh := Nat.add_le_add (Nat.add_le_add (Nat.add_le_add (Nat.add_le_add hlp (b2 hshl hs5)) (Nat.le_refl 2)) (b42 hdr hel)) (Nat.le_refl 1); exact pgl hh
 · simp only [pgStep, List.length_append, List.length_cons, List.length_nil, List.length_replicate]; exact dul (Nat.add_le_add hld (Nat.add_le_add_right hs5 2))
 · simp only [pgStep, List.length_append, List.length_cons, List.length_nil, hlw]
theorem pgB_run (ds : List Nat) (hd : ds.length ≤ 5) : ∀ j, j ≤ ds.length -> PgB (pgRun (ds.take j)) j
 | 0, _ => ⟨⟨Nat.le_refl 1, Nat.le_refl 1⟩, Nat.le_refl 2, Nat.le_refl 1, rfl⟩
 | j + 1, h => by
  have hj : ds[j]? = some ds[j] := List.getElem?_eq_getElem h
  rw [pgRun_take ds j _ hj]
  exact pgB_step (pgB_run ds hd j (by exact dl1 0 0 1 0 h rfl)) _ (by exact dl2 1 5 1 0 0 5 h hd rfl)
set_option maxHeartbeats 4000000 in
theorem cal_page {G : Gl} (g : IsG G) {k : Nat} {σ : St} (hk : k < 36) {ds : List Nat} (hd : ds.length ≤ 5) : Cal G k σ (.ref 178) [.lst (ds.map fun d => .int (d : Nat))] (.tup [.str ((pgRun ds).page ++ shutsP (pgRun ds).deep), .lst (((pgRun ds).due ++ List.replicate (pgRun ds).deep [41]).map .str), .lst ((pgRun ds).ways.map .int)]) := by
 have hcl : D.cleanL (ds.map fun d => D.int (d : Nat)) = true := cleanL_map (fun d : Nat => D.int (d : Nat)) (fun _ => rfl) _
 refine cal_fn (fn_law_page g) (by exact dl1 1 40 1 36 hk rfl) rfl (by show (D.cleanL (ds.map fun d => D.int (d : Nat)) && true) = true; rw [hcl]; rfl) ?_ (by show (true && (D.cleanL _ && (D.cleanL _ && true))) = true; rw [clean_strs, clean_ints]; rfl)
 refine exs_one (ex_asg rfl (evN_list (evL_cons (ev_glob rfl (mg_escape_cdata g)) (evL_cons (ev_glob rfl (mg_escape_cdata_c14n g)) (evL_cons (ev_glob rfl (mg_escape_attrib g)) (evL_cons (ev_glob rfl (mg_escape_attrib_html g)) (evL_cons (ev_glob rfl (mg_escape_attrib_c14n g)) evL_nil))))) (by decide)).ev (as_loc rfl rfl)) ?_
 refine exs_one (ex_asg (d := .lst (marksL.map .str)) rfl (evN_list (ds := marksL.map .str) (evL_cons (ev_strL [40] (by decide +kernel)) (evL_cons (ev_strL [41] (by decide +kernel)) (evL_cons (ev_strL [60, 40] (by decide +kernel)) (evL_cons (ev_strL [34] (by decide +kernel)) (evL_cons (ev_strL [62, 41] (by decide +kernel)) (evL_cons (ev_strL [92, 40] (by decide +kernel)) (evL_cons (ev_strL [10] (by decide +kernel)) (evL_cons (ev_strL [34, 92] (by decide +kernel)) evL_nil)))))))) (by decide)).ev (as_loc rfl rfl)) ?_
 refine exs_one (ex_asg (d := .str [40, 32]) rfl (ev_strL [40, 32] (by decide +kernel)) (as_loc rfl rfl)) ?_
 refine exs_one (ex_own (l := [.str [40]]) rfl (evN_list (evL_cons (ev_strL [40] (by decide +kernel)) evL_nil) (by decide)) rfl (as_loc rfl rfl)) ?_
 refine exs_one (ex_own rfl (evN_list evL_nil (by decide)) rfl (as_loc rfl rfl)) ?_
 refine exs_one (ex_asg rfl ev_int (as_loc rfl rfl)) ?_
 refine exs_gen (fun σ => PgSt pg0 σ ∧ σ.get "draws" = some (.lst (ds.map fun d => .int (d : Nat)))) ⟨⟨rfl, rfl, rfl, rfl, rfl, rfl, rfl⟩, rfl⟩ ?_
 rintro σ0 ⟨S0, D0⟩
 refine exs_cons (Q1 := fun fl σ1 => fl = .next ∧ PgSt (pgRun ds) σ1) (ex_forL (xs := ds) (f := fun d => .int (d : Nat)) (ow := true) (evIt_seq (d := .lst (ds.map fun d => .int (d : Nat))) (ev_loc rfl D0) rfl hcl (fun _ => ⟨D.clean_firm hcl, fun _ h => nomatch h⟩)) (.inl rfl) (fun j σ1 => PgSt (pgRun (ds.take j)) σ1) S0 ?_ ?_) ?_ (fun fl σ1 ne e => absurd e.1 ne)
 · intro j d σ1 hj S1
   rw [pgRun_take ds j d hj]
   have hj5 : j < 5 := by have := (List.getElem?_eq_some_iff.mp hj).1; exact dl2 1 5 1 0 0 5 this hd rfl
   have B := pgB_run ds hd j (by have := (List.getElem?_eq_some_iff.mp hj).1; exact dl1 0 0 1 0 this rfl)
   generalize pgRun (ds.take j) = S at S1 B
   have hdp := B.dp
   have hlp := B.lp
   have hld := B.ld
   have hlw := B.lw
   refine ⟨_, as_loc rfl rfl, ?_⟩
   refine exs_gen (fun σ => PgSt S σ ∧ σ.get "draw" = some (.int (d : Nat))) ⟨S1.set "draw" _ (by decide), St.set_eq⟩ ?_
   clear S1
   rintro σ2 ⟨S2, D2⟩
   have hsh : d % S.deep < S.deep := Nat.mod_lt _ (by exact hdp.1)
   have hs5 : d % S.deep ≤ 5 := Nat.le_trans (Nat.le_of_lt hsh) (Nat.le_trans hdp.2 hj5)
   have hp3 := b60 hlp (Nat.le_of_lt hj5)
   have hd3 := b8 hld (Nat.le_of_lt hj5)
   have mod2 : ∀ {sc : Scope} {σ : St} {e : Expr} {p q : Pos} {n0 a b : Nat} (hb : b ≠ 0), Ev G sc (k + 1) σ e (.int (a : Nat)) -> Ev G sc (k + 1) σ (.BinOp e .Mod (.Constant (.int (b : Nat)) n0 q) p) (.int ((a % b : Nat))) := fun {sc σ e p q n0 a b} hb h => by
    rw [← nfmod]; exact ev_bin h ev_int (bin_mod_int (inz hb))
   have div2 : ∀ {sc : Scope} {σ : St} {e : Expr} {p q : Pos} {n0 a b : Nat} (hb : b ≠ 0 ∧ b < 2 ^ 20), Ev G sc (k + 1) σ e (.int (a : Nat)) -> Ev G sc (k + 1) σ (.BinOp e .FloorDiv (.Constant (.int (b : Nat)) n0 q) p) (.int ((a / b : Nat))) := fun {sc σ e p q n0 a b} hb h => by
    rw [← nfdiv]
    exact ev_bin h ev_int (bin_div_int (inz hb.1) (noPylong (Nat.lt_of_lt_of_le hb.2 (Nat.pow_le_pow_right (by decide) (by decide)))))
   refine exs_one (ex_asg (d := .int ((d % S.deep : Nat))) rfl (by rw [← nfmod]; exact ev_bin (ev_loc rfl D2) (ev_loc rfl S2.deep) (bin_mod_int (inz (Nat.ne_of_gt hdp.1)))) (as_loc rfl rfl)) ?_
   refine exs_one (ex_asg (d := .int (wayOf d)) rfl (ev_bin (mod2 (b := 41) (by decide) (div2 (b := 60) (by decide) (ev_loc rfl (sn D2)))) ev_int bin_sub_int) (as_loc rfl rfl)) ?_
   refine exs_one (ex_asg (d := .int (handOf d : Nat)) rfl (mod2 (b := 5) (by decide) (div2 (b := 39360) (by decide) (ev_loc rfl (sn (sn D2))))) (as_loc rfl rfl)) ?_
   refine exs_gen (fun σ => PgSt S σ ∧ σ.get "draw" = some (.int (d : Nat)) ∧ σ.get "shut" = some (.int ((d % S.deep : Nat))) ∧ σ.get "way" = some (.int (wayOf d)) ∧ σ.get "hand" = some (.int (handOf d : Nat)))
    ⟨((S2.set "shut" _ (by decide)).set "way" _ (by decide)).set "hand" _ (by decide), sn (sn (sn D2)), sn (sn St.set_eq), sn St.set_eq, St.set_eq⟩ ?_
   clear S2 D2
   rintro σ3 ⟨S3, D3, H3, W3, N3⟩
   have hway : -20 ≤ wayOf d ∧ wayOf d ≤ 20 := w20 (Nat.mod_lt _ (by decide))
   refine exs_one (ex_asg (d := .str (wordOf d)) rfl ?_ (as_loc rfl rfl)) ?_
   · have e1 : wordOf d = (marksL.getD (d / 2460 % 8) [] ++ (if wayOf d < 0 then [38] else [])) ++ decS (if wayOf d < 0 then -wayOf d else wayOf d) := by
      have h1 : (wayOf d < 0) = (d / 60 % 41 < 20) := w0
      unfold wordOf wordMW
      simp only [h1]
      congr 1
      by_cases h2 : d / 60 % 41 < 20
      · rw [if_pos h2, if_pos h2, ← decS_tab ⟨20 - d / 60 % 41, by exact dl1 1 21 0 20 (Nat.sub_le 20 (d / 60 % 41)) rfl⟩]
        congr 1
        unfold wayOf
        show ((20 - d / 60 % 41 : Nat) : Int) = -(_ - _)
        rw [Int.neg_sub]; exact Int.ofNat_sub (Nat.le_of_lt h2)
      · rw [if_neg h2, if_neg h2, ← decS_tab ⟨d / 60 % 41 - 20, Nat.lt_of_le_of_lt (Nat.sub_le_sub_right (Nat.le_of_lt_succ (Nat.mod_lt _ (by decide))) 20) (by decide)⟩]
        congr 1
        unfold wayOf
        exact Int.ofNat_sub (Nat.not_lt.mp h2)
     have hm : d / 2460 % 8 < 8 := Nat.mod_lt _ (by decide)
     have hml : (marksL.getD (d / 2460 % 8) []).length ≤ 2 := (by decide : ∀ m : _root_.Fin 8, (marksL.getD m.val []).length ≤ 2) ⟨_, hm⟩
     have hif : (if wayOf d < 0 then [38] else [] : List Nat).length ≤ 1 := by split <;> simp
     have hdl : (decS (if wayOf d < 0 then -wayOf d else wayOf d)).length ≤ 5 := by
      have := word_len d
      rw [e1, List.length_append] at this
      exact Nat.le_trans (Nat.le_add_left _ _) this
     rw [e1]
     refine ev_bin (ev_bin (ev_item (l := marksL.map .str) (i := ((d / 2460 % 8 : Nat) : Int)) (ev_loc rfl S3.marks) (mod2 (b := 8) (by decide) (div2 (b := 2460) (by decide) (ev_loc rfl D3))) rfl ?_ ⟨by exact i63n, by exact i63 (dl1 1 9223372036854775808 1 8 hm rfl)⟩) (ev_if (q := decide (wayOf d < 0)) (tr_cmp (ev_loc rfl W3) ev_int cmp_lt_int) (fun h => ?_) (fun h => ?_)) (bin_add_str ?_)) (ev_call (ev_bl rfl (no_str g) (mb_str g)) (.ty _) (evL_cons (ev_call (ev_bl rfl (no_abs g) (mb_abs g)) (.bi _) (evL_cons (ev_loc rfl W3) evL_nil) abs_i) evL_nil) (str_i ?_)) (bin_add_str ?_)
     · rw [pyAt_nat, List.getElem?_map]
       have : d / 2460 % 8 < marksL.length := hm
       simp [List.getD_eq_getElem?_getD, this]
     · rw [if_pos (of_decide_eq_true h)]; exact ev_strL _ (by decide +kernel)
     · rw [if_neg (of_decide_eq_false h)]; exact ev_strL _ (by decide +kernel)
     · exact Nat.le_trans (Nat.add_le_add hml hif) (by decide)
     · have := if20 hway
       have h2 := Nat.log2_le_self (if wayOf d < 0 then -wayOf d else wayOf d).natAbs
       exact dl2 1 1920 0 0 0 20 h2 this rfl
     · rw [List.length_append]; exact Nat.le_trans (Nat.add_le_add (Nat.add_le_add hml hif) hdl) (by decide)
   refine exs_gen (fun σ => PgSt S σ ∧ σ.get "draw" = some (.int (d : Nat)) ∧ σ.get "shut" = some (.int ((d % S.deep : Nat))) ∧ σ.get "way" = some (.int (wayOf d)) ∧ σ.get "hand" = some (.int (handOf d : Nat)) ∧ σ.get "word" = some (.str (wordOf d)))
    ⟨S3.set "word" _ (by decide), sn D3, sn H3, sn W3, sn N3, St.set_eq⟩ ?_
   clear S3 D3 H3 W3 N3
   rintro σ4 ⟨S4, D4, H4, W4, N4, X4⟩
   have hwl := word_len d
   have hel := esc_len d
   have hdr := dressed_len (bareOf d) (escOf (handOf d) (wordOf d))
   have hspl := spelled_le (handOf d) (wordOf d)
   have hs10 := b2 (shutsP_len (d % S.deep)) hs5
   have hd42 := b42 hdr hel
   obtain ⟨f, hf1, hf2, hf3⟩ := @cal_esc G g (k + 1) σ4 (by exact dl1 2 40 1 36 hk rfl) (wordOf d) (by exact dl1 0 16 0 5 hwl rfl) (handOf d) (hand_lt d)
   refine exs_one (ex_asg (d := .str (pgStep S d).page) rfl (ev_bin (ev_bin (ev_bin (ev_bin (ev_loc rfl S4.page) (ev_shuts (n := d % S.deep) (by exact dl3 1 7 1 0 0 1 1 5 hsh hdp.2 hj5 rfl) (ev_loc rfl H4)) (bin_add_str (Nat.le_trans (Nat.add_le_add hp3 hs10) (by decide)))) (ev_strL [40, 32] (by decide +kernel)) (bin_add_str (by rw [List.length_append]; exact Nat.le_trans (Nat.add_le_add (Nat.add_le_add hp3 hs10) (Nat.le_refl 2)) (by decide))))
    (ev_call (d := .str (dressed (bareOf d) (escOf (handOf d) (wordOf d)))) (ev_glob rfl (mg_law_dressed g)) (fn_law_dressed g).fk (evL_cons (ev_call (ev_item (l := [D.val (.ref 126), .val (.ref 147), .val (.ref 133), .val (.ref 140), .val (.ref 154)]) (i := (handOf d : Nat)) (ev_loc rfl S4.hands) (ev_loc rfl N4) rfl (by rw [pyAt_nat]; exact hf1) ⟨by have := hand_lt d; exact i63n, by have := hand_lt d; exact i63 (dl1 1 9223372036854775808 1 5 this rfl)⟩) hf2 (evL_cons (ev_loc rfl X4) evL_nil) hf3) (evL_cons ?_ evL_nil)) (cal_dressed g (by exact dl1 2 40 1 36 hk rfl) (by exact dl1 0 1000000 0 20 hel rfl))) (bin_add_str (by rw [List.length_append, List.length_append]; exact Nat.le_trans (Nat.add_le_add (Nat.add_le_add (Nat.add_le_add hp3 hs10) (Nat.le_refl 2)) hd42) (by decide)))) (ev_strL [32] (by decide +kernel)) (bin_add_str (by rw [List.length_append, List.length_append, List.length_append]; exact Nat.le_trans (Nat.add_le_add (Nat.add_le_add (Nat.add_le_add (Nat.add_le_add hp3 hs10) (Nat.le_refl 2)) hd42) (Nat.le_refl 1)) (by decide)))) (as_loc rfl rfl)) ?_
   · have : bareOf d = (((d / 19680 % 2 : Nat) : Int) == 1) := by
      unfold bareOf
      rcases Nat.mod_two_eq_zero_or_one (d / 19680) with h | h <;> rw [h] <;> rfl
     rw [this]
     exact ev_cmp (mod2 (b := 2) (by decide) (div2 (b := 19680) (by decide) (ev_loc rfl D4))) ev_int cmp_eq_int
   refine exs_gen (fun σ => PgSt { S with page := (pgStep S d).page } σ ∧ σ.get "shut" = some (.int ((d % S.deep : Nat))) ∧ σ.get "way" = some (.int (wayOf d)) ∧ σ.get "hand" = some (.int (handOf d : Nat)) ∧ σ.get "word" = some (.str (wordOf d)))
    ⟨⟨sn S4.hands, sn S4.marks, St.set_eq, sn S4.due, sn S4.ways, sn S4.deep, S4.own⟩, sn H4, sn W4, sn N4, sn X4⟩ ?_
   clear S4 D4 H4 W4 N4 X4 hf3
   rintro σ5 ⟨S5, H5, W5, N5, X5⟩
   refine exs_one (ex_extend (n := 0) (l := S.due.map .str) (l2 := (List.replicate (d % S.deep) [41] ++ [[40], spelled (handOf d) (wordOf d)]).map .str) (ev_loc rfl S5.due) (by rw [S5.own]; rfl) ?_ (D.cleanL_firmL (clean_strs _)) (by rw [List.length_map, List.length_map, List.length_append, List.length_replicate]; exact Nat.le_trans (Nat.add_le_add hd3 (Nat.add_le_add_right hs5 2)) (by decide))) ?_
   · have := evN_bin (op := .Add) (p := ⟨203, 19, 203, 65⟩) (evN_bin (op := .Mult) (p := ⟨203, 19, 203, 31⟩) (evN_list (p := ⟨203, 19, 203, 24⟩) (evL_cons (ev_strL (G := G) (sc := (fdAt G.w.params 178).scope) (k := k + 1) (σ := σ5) (x := ")") (n := 0) (p := ⟨203, 20, 203, 23⟩) [41] (by decide +kernel)) evL_nil) (by show 1 ≤ 16777216; decide)).ev (ev_loc (x := "shut") (p := ⟨203, 27, 203, 31⟩) rfl H5) (bin_mul_list rfl (by exact i63n) (by exact i63 (dl3 1 9223372036854775808 1 0 0 1 1 5 hsh hdp.2 hj5 rfl)) (by show 1 * _ ≤ _; rw [Nat.one_mul, Int.toNat_natCast]; exact Nat.le_trans hs5 (by decide)))).ev
      (evN_list (p := ⟨203, 34, 203, 65⟩) (evL_cons (ev_strL (x := "(") (n := 0) (p := ⟨203, 35, 203, 38⟩) [40] (by decide +kernel)) (evL_cons (ev_call (p := ⟨203, 40, 203, 64⟩) (ev_glob (x := "_law_spelled") (p := ⟨203, 40, 203, 52⟩) rfl (mg_law_spelled g)) (fn_law_spelled g).fk (evL_cons (ev_loc (x := "word") (p := ⟨203, 53, 203, 57⟩) rfl X5) (evL_cons (ev_loc (x := "hand") (p := ⟨203, 59, 203, 63⟩) rfl N5) evL_nil)) (cal_spelled g (by exact dl1 2 38 1 36 hk rfl) (hand_lt d) (by exact dl1 0 1000000 0 5 hwl rfl))) evL_nil)) (by show 2 ≤ 16777216; decide)).ev (bin_add_list rfl rfl (by rw [Int.toNat_natCast]; simp [List.length_flatten]; exact Nat.le_trans hs5 (by decide)))
     rw [Int.toNat_natCast] at this
     rw [List.map_append, List.map_replicate]
     have e2 : ∀ n : Nat, (List.replicate n [D.str [41]]).flatten = List.replicate n (D.str [41]) := fun n => by
      induction n with
      | zero => rfl
      | succ n ih => rw [List.replicate_succ, List.flatten_cons, ih]; rfl
     rw [e2] at this
     exact this
   refine exs_gen (fun σ => PgSt { S with page := (pgStep S d).page, due := (pgStep S d).due } σ ∧ σ.get "shut" = some (.int ((d % S.deep : Nat))) ∧ σ.get "way" = some (.int (wayOf d))) ⟨⟨S5.hands, S5.marks, S5.page, S5.due, S5.ways, S5.deep, ?_⟩, H5, W5⟩ ?_
   · show σ5.own.set 0 _ = _
     rw [S5.own]
     show [_, _] = _
     simp only [pgStep, List.map_append]
   clear S5 H5 W5 N5 X5
   rintro σ6 ⟨S6, H6, W6⟩
   refine exs_one (ex_append (n := 1) (l := S.ways.map .int) (ev_loc rfl S6.ways) (by rw [S6.own]; rfl) (ev_loc rfl W6) rfl (by rw [List.length_map]; exact dl2 0 16777216 0 0 1 5 (Nat.le_of_eq hlw) hj5 rfl)) ?_
   refine exs_one (ex_asg (d := .int ((pgStep S d).deep : Nat)) rfl ?_ (as_loc rfl rfl)) (exs_nil ⟨sn S6.hands, sn S6.marks, sn S6.page, sn S6.due, sn S6.ways, St.set_eq, ?_⟩)
   · have : (((pgStep S d).deep : Nat) : Int) = ((S.deep : Int) - ((d % S.deep : Nat) : Int)) + 1 := congrArg (· + (1 : Int)) (Int.ofNat_sub (Nat.le_of_lt hsh))
     rw [this]
     exact ev_bin (ev_bin (ev_loc rfl S6.deep) (ev_loc rfl H6) bin_sub_int) ev_int bin_add_int
   · show σ6.own.set 1 _ = _
     rw [S6.own]
     show [_, _] = _
     simp only [pgStep, List.map_append]; rfl
 · intro σ1 S1
   rw [List.take_length] at S1
   exact ⟨rfl, S1⟩
 · rintro σ1 ⟨_, S1⟩
   have B := pgB_run ds hd ds.length (Nat.le_refl _)
   rw [List.take_length] at B
   generalize pgRun ds = S at S1 B
   have hdp := B.dp
   have hlp := B.lp
   have hld := B.ld
   have hp3 := b60 hlp hd
   have hd6 : S.deep ≤ 6 := Nat.le_trans hdp.2 (Nat.succ_le_succ hd)
   have hs12 := b2 (shutsP_len S.deep) hd6
   refine exs_ret (d := .tup [.str (S.page ++ shutsP S.deep), .lst ((S.due ++ List.replicate S.deep [41]).map .str), .h 1]) (ev_tup (evL_cons (ev_bin (ev_loc rfl S1.page) (ev_shuts (by exact dl2 1 7 0 1 0 5 hdp.2 hd rfl) (ev_loc rfl S1.deep)) (bin_add_str (Nat.le_trans (Nat.add_le_add hp3 hs12) (by decide)))) (evL_cons ?_ (evL_cons (ev_loc rfl S1.ways) evL_nil))) (by show 3 ≤ 16777216; decide)) ⟨_, .ret _, ?_⟩ (by show (true && (D.firmL _ && (true && true))) = true; rw [D.cleanL_firmL (clean_strs _)]; rfl)
   · have := (evN_bin (op := .Add) (p := ⟨206, 32, 206, 50⟩) (ev_loc (x := "due") (p := ⟨206, 32, 206, 35⟩) rfl S1.due) (evN_bin (op := .Mult) (p := ⟨206, 38, 206, 50⟩) (evN_list (p := ⟨206, 38, 206, 43⟩) (evL_cons (ev_strL (G := G) (sc := (fdAt G.w.params 178).scope) (k := k + 1) (σ := σ1) (x := ")") (n := 0) (p := ⟨206, 39, 206, 42⟩) [41] (by decide +kernel)) evL_nil) (by show 1 ≤ 16777216; decide)).ev (ev_loc (x := "deep") (p := ⟨206, 46, 206, 50⟩) rfl S1.deep) (bin_mul_list rfl (by exact i63n) (by exact i63 (dl2 1 9223372036854775808 0 1 0 5 hdp.2 hd rfl)) (by show 1 * _ ≤ _; simp; exact dl2 0 256 0 1 0 5 hdp.2 hd rfl))).ev (bin_add_list (l := S.due.map .str) (by show σ1.own[0]? = _; rw [S1.own]; rfl) rfl (by rw [Int.toNat_natCast]; simp [List.length_flatten]; exact Nat.le_trans (Nat.add_le_add (b8 hld hd) hd6) (by decide)))).ev
     rw [Int.toNat_natCast] at this
     rw [List.map_append, List.map_replicate]
     have e2 : ∀ n : Nat, (List.replicate n [D.str [41]]).flatten = List.replicate n (D.str [41]) := fun n => by
      induction n with
      | zero => rfl
      | succ n ih => rw [List.replicate_succ, List.flatten_cons, ih]; rfl
     rw [e2] at this
     exact this
   · rw [S1.own]
     show D.tup [D.str _, D.lst _, D.lst ((S.ways.map D.int).map (frz _ 1))] = _
     rw [frz_ints]
end
section
noncomputable def escs (i : Nat) (esc : Bool) : List Nat -> List (Nat × List Nat)
 | [] => if esc then [(i - 1, [92])] else []
 | c :: r => if esc then (i, [92, c]) :: escs (i + 1) false r else if c = 92 then escs (i + 1) true r else (i, [c]) :: escs (i + 1) false r
noncomputable def escF (esc : Bool) : List Nat -> Bool
 | [] => esc
 | c :: r => if esc then escF false r else if c = 92 then escF true r else escF false r
noncomputable def pairD (p : Nat × List Nat) : D := .tup [.int (p.1 : Nat), .str p.2]
noncomputable def escD (x : List Nat) : List D := (escs 0 false x).map pairD
section
variable {G : Gl} {env : Env} {h0 : Heap} {σ : St} {s : Shared} {A : Around} {Rr : GenEnd} {Y : Protocol} {n : Nat} {s₀ : Shared} {c : Code} {fs : List Frame}
 {K : Flow -> Sem Fin} {H : Value -> Sem Fin} {gd : Bool -> Bool} {lv : List Value -> List Value} {sc : Scope}
theorem seg_asgC {x : Str} {e : Expr} {p p' : Pos} {v : Value} {t : Nat} {d : D} (E : GEnv G env sc h0) (g : GSt G env σ s) (hn : sc.names.lookup x = some .local)
 (hev : ∀ (Q : Value -> Shared -> Prop) (F : Value -> Shared -> Prop), Q v { s with toks := t } -> wpAny (model G.prog G.w) (A.over c fs) (eval e env) Q F s) (ht : s.toks ≤ t) (hd : d.scal = true) (hh : ∀ O μ h, Holds O μ h d v)
 (hs : ∀ env, swapsWith e (some (.Name x p')) p.line env = pure false)
 (hc : ∀ s', GSt G env (σ.set x d) s' -> Sin env s s' -> s'.heap.objs.size = s.heap.objs.size -> s'.gens = s.gens -> Seg (model G.prog G.w) A Rr Y n s₀ c (K .next) fs s') : Seg (model G.prog G.w) A Rr Y n s₀ c ((exec (.Assign [.Name x p'] e p) env).wrap K H gd lv) fs s := by
 rw [exec_Assign_Name env x p' e p (hs env)]
 refine seg_bind_wrap (wpAny_standAt ?_)
 refine seg_bind_wrap (hev _ _ ?_)
 obtain ⟨m, hm, hl⟩ := g.ns
 have hk : env.kindOf x = some .local := kindOf_of E.scp hn
 refine seg_bind_wrap (wpAny_standAt ?_)
 refine seg_bind_wrap (wpAny_bindName (wpAny_storeName_local (s := { s with toks := t }) hk hm (fun h' hns hsb => ?_) (by show (env.scope.kind == .class || (env.scope.kind == .module && _)) = false; rw [E.scp, E.kind]; rfl)))
 refine hc _ ⟨Nat.lt_succ_of_le (Nat.le_trans (Nat.le_of_lt g.tok) ht), g.bare, E.top.off E.new g.top fun a o n e => (hsb.2 a n).trans e, ⟨_, hns, fun y e hy hky => ?_⟩, fun y e hy => ?_, g.own⟩ ⟨fun b o n e => (hsb.2 b n).trans e, rfl, fun h => h, fun _ _ _ e => e, Nat.le_succ_of_le ht⟩ hsb.1 rfl
 · simp only [St.set, setL_lookup] at hy
   by_cases hyx : y = x
   · simp only [if_pos hyx] at hy ⊢; cases hy; exact ⟨v, rfl, hh _ _ _⟩
   · simp only [if_neg hyx] at hy ⊢
     obtain ⟨v', e1, e2⟩ := hl y e hy hky
     exact ⟨v', e1, scal_any (g.scal y e hy) e2⟩
 · simp only [St.set, setL_lookup] at hy
   split at hy
   · cases hy; exact hd
   · exact g.scal y e hy
theorem seg_for {tgt iter : Expr} {body : List Stmt} {pos : Pos} (hfold : ∀ x, foldedSetIterable iter env x = pure x)
 (h : wpAny (model G.prog G.w) (A.over c fs) (eval iter env) (fun x s1 => wpAny (model G.prog G.w) (A.over c fs) (pyIter x) (fun it s2 => ∀ kf : Result -> Sem Fin, (kf (.ok .next) = K .next) -> ∀ p g l, g = gd false -> Seg (model G.prog G.w) A Rr Y n s₀ (.forLoop tgt it body [] env) ((model G.prog G.w).den (.forLoop tgt it body [] env)) (.ret kf none g l c p [] :: fs) s2) (fun _ _ => False) s1) (fun _ _ => False) s) :
 Seg (model G.prog G.w) A Rr Y n s₀ c ((exec (.For tgt iter body [] pos) env).wrap K H gd lv) fs s := by
 rw [arm_exec_For]
 refine seg_bind_wrap (wpAny_standAt ?_)
 refine seg_bind_wrap (wpAny_mono h (fun x s1 h1 => ?_) fun _ _ f => f.elim)
 refine seg_bind_wrap (wpAny_of_eq (hfold x) ?_)
 refine seg_bind_wrap (wpAny_standAt ?_)
 refine seg_bind_wrap (wpAny_holding (wpAny_mono h1 (fun it s2 h2 => ?_) fun _ _ f => f.elim))
 exact seg_call fun p => h2 _ (by rfl) p _ _ rfl
end
noncomputable def gTgt (P : Params) : Expr := match bodyAt P 28 with | [_, _, .For t _ _ _ _, _] => t | _ => .Name "" ⟨0, 0, 0, 0⟩
noncomputable def gBody (P : Params) : List Stmt := match bodyAt P 28 with | [_, _, .For _ _ b _ _, _] => b | _ => []
noncomputable def gEnd (P : Params) : List Stmt := match bodyAt P 28 with | [_, _, _, e] => [e] | _ => []
noncomputable abbrev Wr3 (L e it : Addr) : Addr -> Prop := fun b => b = L ∨ b = e ∨ b = it
noncomputable abbrev none3 : Nat -> Prop := fun _ => False
noncomputable def genY (G : Gl) (L e it : Addr) (all : List (Nat × List Nat)) : Protocol := fun m s₀ v s kap =>
 ∃ p, all[all.length - 1 - m]? = some p ∧ (∃ sb, NewPair sb s p.1 p.2 v ∧ (∀ a o, s₀.heap.get? a = some o -> ∃ o', sb.heap.get? a = some o') ∧ ∀ b, Wr3 L e it b -> ∃ o', sb.heap.get? b = some o') ∧ Chg (Wr3 L e it) none3 s₀ s ∧ (∀ b, Wr3 L e it b -> ∃ o, s.heap.get? b = some o) ∧ (AllBare s.gens ∧ 0 < s.toks ∧ TopG G s.heap) ∧
  ∀ s2 : Shared, (∀ b o, Wr3 L e it b -> s.heap.get? b = some o -> s2.heap.get? b = some o) -> AllBare s2.gens -> 0 < s2.toks -> TopG G s2.heap -> kap (.send .none) s2
noncomputable def genR (L e it : Addr) : GenEnd := fun n s₀ r s₁ => r = .ok (.ret .none) ∧ (n = 0 ∧ Chg (Wr3 L e it) none3 s₀ s₁)
section
variable {G : Gl} {env : Env} {h0 : Heap} {A : Around} {e it : Addr} {x : List Nat} {all : List (Nat × List Nat)} {Sx : Nat -> Heap -> Prop} {k' : Nat}
noncomputable abbrev gsc (G : Gl) : Scope := (fdAt G.w.params 28).scope
theorem TopG.off2 {G : Gl} {h0 h1 h2 : Heap} (T0 : TopG G h0) (T1 : TopG G h1) (hk : ∀ a o, (∃ o0, h0.get? a = some o0) -> h1.get? a = some o -> h2.get? a = some o) : TopG G h2 := by
 refine ⟨fun a o e => hk a o ⟨_, T0.k a o e⟩ (T1.k a o e), T1.g.at' fun o e => hk _ o ?_ e, T1.b.at' fun o e => hk _ o ?_ e, ?_⟩
 · obtain ⟨o, _, _, e, _⟩ := T0.g; exact ⟨o, e⟩
 · obtain ⟨o, _, _, e, _⟩ := T0.b; exact ⟨o, e⟩
 · obtain ⟨mc, ⟨o, es, ep, e0, r⟩, hn⟩ := T1.nolimit
   obtain ⟨_, ⟨o0, _, _, e, _⟩, _⟩ := T0.nolimit
   exact ⟨mc, ⟨o, es, ep, hk _ _ ⟨o0, e⟩ e0, r⟩, hn⟩
structure GO (G : Gl) (env : Env) (e it : Addr) (h0 : Heap) : Prop where
 E : GEnv G env (gsc G) h0
 ei : e ≠ it
 eL : e ≠ env.locals
 iL : it ≠ env.locals
 h1 : ∃ h1, TopG G h1 ∧ h1.get? e = none ∧ h1.get? it = none
theorem GO.st (O : GO G env e it h0) {σ : Mine.St} {s s' : Shared} (g : GSt G env σ s) (hk : ∀ b o, b ≠ e -> b ≠ it -> s.heap.get? b = some o -> s'.heap.get? b = some o) (tk : s.toks ≤ s'.toks) (hb : s'.gens = s.gens) : GSt G env σ s' := by
 obtain ⟨h1, T1, n1, n2⟩ := O.h1
 refine ⟨Nat.lt_of_lt_of_le g.tok tk, by rw [hb]; exact g.bare, T1.off2 g.top fun a o hp h1 => by obtain ⟨o0, e0⟩ := hp; exact hk a o (fun q => by rw [q, n1] at e0; cases e0) (fun q => by rw [q, n2] at e0; cases e0) h1, ?_, g.scal, g.own⟩
 obtain ⟨m, hm, h⟩ := g.ns
 exact ⟨m, hm.at' fun o e => hk _ o (Ne.symm O.eL) (Ne.symm O.iL) e, fun x d e q => (by obtain ⟨v, e1, e2⟩ := h x d e q; exact ⟨v, e1, scal_any (g.scal x d e) e2⟩)⟩
structure GE (G : Gl) (env : Env) (e it : Addr) (esc : Bool) (s₀ s : Shared) : Prop where
 st : ∃ σ, GSt G env σ s ∧ σ.get "escape" = some (.bool esc)
 ch : Chg (Wr3 env.locals e it) none3 s₀ s
structure GL (G : Gl) (env : Env) (e it : Addr) (Sx : Nat -> Heap -> Prop) (all : List (Nat × List Nat)) (i : Nat) (esc : Bool) (r : List Nat) (n : Nat) (s₀ s : Shared) : Prop extends GE G env e it esc s₀ s where
 n : n = (escs i esc r).length
 all : ∃ pre, all = pre ++ escs i esc r
 live : ∀ b, Wr3 env.locals e it b -> ∃ o, s.heap.get? b = some o
 fin : escF esc r = false
 en : ∃ old, IsEnum s.heap e it i old
 si : Sx i s.heap
theorem ex_of_chg {L e it : Addr} {s s' : Shared} (c : Chg (Wr3 L e it) none3 s s') (hl : ∀ b, Wr3 L e it b -> ∃ o, s'.heap.get? b = some o) : ∀ a o, s.heap.get? a = some o -> ∃ o', s'.heap.get? a = some o' := by
 intro a o h
 by_cases h1 : Wr3 L e it a
 · exact hl a h1
 · exact ⟨o, c.heap a o h1 h⟩
theorem sin_chg {s s' : Shared} (h : Sin env s s') : Chg (Wr3 env.locals e it) none3 s s' := h.wider (fun b q => .inl q) fun _ q => q
theorem live_kp {L e it : Addr} {s s' : Shared} (k : Kp s s') (h : ∀ b, Wr3 L e it b -> ∃ o, s.heap.get? b = some o) : ∀ b, Wr3 L e it b -> ∃ o, s'.heap.get? b = some o := fun b hb => (by obtain ⟨o, ho⟩ := h b hb; exact ⟨o, k.heap b o ho⟩)
theorem live_sin (h : ∀ b, Wr3 env.locals e it b -> ∃ o, s.heap.get? b = some o) {s' : Shared} {σ : Mine.St} (c : Sin env s s') (g : GSt G env σ s') : ∀ b, Wr3 env.locals e it b -> ∃ o, s'.heap.get? b = some o := fun b hb => by
 by_cases h1 : b = env.locals
 · obtain ⟨m, ⟨o, _, _, ho, _⟩, _⟩ := g.ns
   exact ⟨o, by rw [h1]; exact ho⟩
 · obtain ⟨o, ho⟩ := h b hb
   exact ⟨o, c.heap b o h1 ho⟩
theorem drop_cons {x r : List Nat} {i ch : Nat} (h : x.drop i = ch :: r) : x[i]? = some ch ∧ x.drop (i + 1) = r := by
 have h1 : i < x.length := by
  rcases Nat.lt_or_ge i x.length with q | q
  · exact q
  · rw [List.drop_eq_nil_iff.mpr q] at h; cases h
 rw [List.drop_eq_getElem_cons h1] at h
 injection h with h2 h3
 exact ⟨by rw [List.getElem?_eq_getElem h1, h2], h3⟩
theorem genY_of (O : GO G env e it h0) {i : Nat} {p : Nat × List Nat} {rest : List (Nat × List Nat)} {s₀ sb s' : Shared} {v : Value} {kap : Resume -> Shared -> Prop} (hall : ∃ pre, all = pre ++ p :: rest) (hp : NewPair sb s' p.1 p.2 v) (ch : Chg (Wr3 env.locals e it) none3 s₀ sb) (hl : ∀ b, Wr3 env.locals e it b -> ∃ o, sb.heap.get? b = some o) (kp : Kp sb s') (ht : AllBare s'.gens ∧ 0 < s'.toks ∧ TopG G s'.heap)
 (hk : ∀ s2 : Shared, (∀ b o, Wr3 env.locals e it b -> s'.heap.get? b = some o -> s2.heap.get? b = some o) -> AllBare s2.gens -> 0 < s2.toks -> TopG G s2.heap -> kap (.send .none) s2) : genY G env.locals e it all rest.length s₀ v s' kap := by
 obtain ⟨pre, rfl⟩ := hall
 refine ⟨p, ?_, ⟨sb, hp, ex_of_chg ch hl, hl⟩, ch.trans (Chg.of_kp kp), live_kp kp hl, ht, hk⟩
 rw [List.length_append, List.length_cons, show pre.length + (rest.length + 1) - 1 - rest.length = pre.length from sb4, List.getElem?_append_right (Nat.le_refl _), Nat.sub_self]
 rfl
theorem GSt.wake {σ : Mine.St} {s s2 : Shared} {L' : Addr} (g : GSt G env σ s) (hL : ∀ o, s.heap.get? env.locals = some o -> s2.heap.get? env.locals = some o) (hb : AllBare s2.gens) (ht : 0 < s2.toks) (hT : TopG G s2.heap) : GSt G env σ s2 := by
 refine ⟨ht, hb, hT, ?_, g.scal, g.own⟩
 obtain ⟨m, hm, h⟩ := g.ns
 exact ⟨m, hm.at' hL, fun x d e q => (by obtain ⟨v, e1, e2⟩ := h x d e q; exact ⟨v, e1, scal_any (g.scal x d e) e2⟩)⟩
end
section
variable {G : Gl} {env : Env} {h0 : Heap} {A : Around} {e it : Addr} {x : List Nat} {all : List (Nat × List Nat)} {Sx : Nat -> Heap -> Prop} {k' : Nat}
set_option maxHeartbeats 2000000 in
theorem seg_gloop (O : GO G env e it h0) (hA : A.handled = none)
 {c0 : Code} {kf : Result -> Sem Fin} {l0 : List Value} {p0 : Pos} (hk : Aok k' (A.over (.forLoop (gTgt G.w.params) (.ref e) (gBody G.w.params) [] env) [.ret kf none false l0 c0 p0 []]))
 (D : ∀ A' : Around, A'.handled = none -> Draws G.prog G.w A' it [it] x.length (SignAt (toS x)) Sx)
 (hend : ∀ s₀ s, GE G env e it false s₀ s -> Seg (model G.prog G.w) A (genR env.locals e it) (genY G env.locals e it all) 0 s₀ c0 (kf (.ok .next)) [] s) :
 ∀ (r : List Nat) (i : Nat) (esc : Bool) (n : Nat) (s₀ s : Shared), i + r.length = x.length -> x.drop i = r -> GL G env e it Sx all i esc r n s₀ s ->
  Seg (model G.prog G.w) A (genR env.locals e it) (genY G env.locals e it all) n s₀ (.forLoop (gTgt G.w.params) (.ref e) (gBody G.w.params) [] env)
   ((model G.prog G.w).den (.forLoop (gTgt G.w.params) (.ref e) (gBody G.w.params) [] env)) [.ret kf none false l0 c0 p0 []] s := by
 intro r
 have E := O.E
 induction r with
 | nil =>
  intro i esc n s₀ s hi hx g
  have hix : i = x.length := by simpa using hi
  subst hix
  have hesc : esc = false := g.fin
  subst hesc
  have hn : n = 0 := g.n
  subst hn
  show Seg _ A _ _ _ s₀ _ ((forTurn (gTgt G.w.params) (.ref e) (gBody G.w.params) [] env).onRaise _) _ s
  unfold forTurn
  rw [Sem.onRaise_eq_wrap]
  refine seg_bind_wrap (wpAny_standAt ?_)
  obtain ⟨old, hen⟩ := g.en
  refine seg_bind_wrap (wpAny_onRaise (wpAny_pyNext_enum_endD (D _ hA) hen g.si fun h' he' => ?_))
  refine seg_again rfl ?_
  refine seg_leaf (.ok .next) (hend s₀ _ ⟨?_, ?_⟩)
  · obtain ⟨σ, g1, g2⟩ := g.st
    exact ⟨σ, O.st g1 (fun b o _ n2 e => he' b o n2 e) (Nat.le_refl _) rfl, g2⟩
  · exact g.ch.trans ⟨fun b o n e => he' b o (fun q => n (.inr (.inr q))) e, rfl, fun h => h, fun _ _ _ e => e, Nat.le_refl _⟩
 | cons ch r ih =>
  intro i esc n s₀ s hi hx g
  have hlt : i < x.length := by simp at hi; omega
  obtain ⟨hxi, hxr⟩ := drop_cons hx
  obtain ⟨old, hen⟩ := g.en
  obtain ⟨σ, g1, g2⟩ := g.st
  show Seg _ A _ _ _ s₀ _ ((forTurn (gTgt G.w.params) (.ref e) (gBody G.w.params) [] env).onRaise _) _ s
  unfold forTurn
  rw [Sem.onRaise_eq_wrap]
  refine seg_bind_wrap (wpAny_standAt ?_)
  have step : wpAny (model G.prog G.w) (A.over (.forLoop (gTgt G.w.params) (.ref e) (gBody G.w.params) [] env) [.ret kf none false l0 c0 p0 []]) (pyNext (.ref e)) (fun rr s1 => rr = some (.ref s.heap.objs.size) ∧ ∃ u tk, s1.gens = s.gens ∧ s1.os = s.os ∧ IsEnumOut s1.heap e it ((i : Int) + 1) (.str ⟨#[ch]⟩ u) s.heap.objs.size ∧ Sx (i + 1) s1.heap ∧
   IsTupH s1.heap s.heap.objs.size #[.int i tk, .str ⟨#[ch]⟩ u] ∧ (∀ b o, b ≠ e -> b ≠ it -> s.heap.get? b = some o -> s1.heap.get? b = some o)) (fun _ _ => False) s := by
   refine wpAny_pyNext_enum_itemD (D _ hA) hen g.si hlt O.ei (by simpa using O.ei) fun x0 h' tk hP he' hs' ht' hsz hk' => ?_
   obtain ⟨c1, u, q1, rfl⟩ := hP
   have : c1 = ch := by
    have q2 : x[i]? = some c1 := by simpa [toS] using q1
    rw [hxi] at q2; exact (Option.some.inj q2).symm
   subst this
   exact ⟨rfl, u, tk, rfl, rfl, he', hs', ⟨_, ht'⟩, hk'⟩
  refine seg_bind_wrap (wpAny_onRaise (wpAny_mono (wpAny_toks_of (Nat.le_refl s.toks) step) (fun rr s1 hq => ?_) fun _ _ f => f.2.elim))
  obtain ⟨tk1, hr, u, tk, hg1, ho1, he1, hs1, ht1, hk1⟩ := hq
  subst hr
  have hTL : s.heap.objs.size ≠ env.locals := fun q => by
   obtain ⟨o, ho⟩ := g.live env.locals (.inl rfl)
   exact Nat.lt_irrefl _ (q ▸ Heap.lt_size ho)
  have hTe : s.heap.objs.size ≠ e := fun q => by
   obtain ⟨o, ho⟩ := g.live e (.inr (.inl rfl))
   exact Nat.lt_irrefl _ (q ▸ Heap.lt_size ho)
  have hTi : s.heap.objs.size ≠ it := fun q => by
   obtain ⟨o, ho⟩ := g.live it (.inr (.inr rfl))
   exact Nat.lt_irrefl _ (q ▸ Heap.lt_size ho)
  generalize s.heap.objs.size = T at hTL hTe hTi he1 ht1
  have c1 : Chg (Wr3 env.locals e it) none3 s s1 := ⟨fun b o n e' => hk1 b o (fun q => n (.inr (.inl q))) (fun q => n (.inr (.inr q))) e', ho1, fun h => by rw [hg1]; exact h, fun _ _ _ e' => by rw [hg1]; exact e', tk1⟩
  have G1 : GSt G env σ s1 := O.st g1 hk1 tk1 hg1
  refine seg_bind_wrap (wpAny_letOwnedTupleGo_enum he1 fun h2 he2 hs2 => ?_)
  have G2 : GSt G env σ { s1 with heap := h2 } := O.st G1 (fun b o n1 _ e' => (hs2.2 b n1).trans e') (Nat.le_refl _) rfl
  have c2 : Chg (Wr3 env.locals e it) none3 s1 { s1 with heap := h2 } := ⟨fun b o n e' => (hs2.2 b (fun q => n (.inr (.inl q)))).trans e', rfl, fun h => h, fun _ _ _ e' => e', Nat.le_refl _⟩
  have hs2' : Sx (i + 1) h2 := (D _ hA).frame _ _ _ hs1 fun b hb o e' => (hs2.2 b (fun q => by rw [List.mem_singleton] at hb; exact O.ei (q.symm.trans hb))).trans e'
  have ht2 : IsTupH h2 T #[.int i tk, .str ⟨#[ch]⟩ u] := ht1.keeps fun o e' => (hs2.2 T hTe).trans e'
  have l2 : ∀ b, Wr3 env.locals e it b -> ∃ o, h2.get? b = some o := fun b hb => by
   rcases hb with hb | hb | hb
   · obtain ⟨m, ⟨o, _, _, ho, _⟩, _⟩ := G2.ns
     exact ⟨o, by rw [hb]; exact ho⟩
   · rw [hb]; exact ⟨_, he2⟩
   · rw [hb]; exact (D _ hA).live _ _ hs2'
  have hAs : As G (gsc G) k' (gTgt G.w.params) (.tup [.int (i : Nat), .str [ch]]) σ ((σ.set "pos" (.int (i : Nat))).set "ch" (.str [ch])) := as_tup (asL_cons (as_loc rfl rfl) (asL_cons (as_loc rfl rfl) asL_nil rfl) rfl) rfl
  refine seg_bind_wrap (wpAny_mono (wpAny_toks_of (Nat.le_refl s1.toks) (hAs (gcx env { s1 with heap := h2 }) [] _ { s1 with heap := h2 } (.ref T) E.scp rfl hk (G2.r E) ⟨T, _, rfl, fun q => ?_, ht2, ⟨tk, rfl⟩, ⟨u, rfl⟩, trivial⟩)) (fun _ s3 ⟨tk3, r3, p3⟩ => ?_) fun _ _ f => f.2.elim)
  · rcases q with q | q | q | q
    · exact q
    · cases q
    · exact hTL q
    · cases q
  obtain ⟨G3, sn3⟩ := GSt.back E r3 tk3 (fun y d hy => by
   simp only [St.set, setL_lookup] at hy
   split at hy
   · cases hy; rfl
   · split at hy
     · cases hy; rfl
     · exact g1.scal y d hy) g1.own
  have g23 : ((σ.set "pos" (.int (i : Nat))).set "ch" (.str [ch])).get "escape" = some (.bool esc) := sn (sn g2)
  have gp3 : ((σ.set "pos" (.int (i : Nat))).set "ch" (.str [ch])).get "pos" = some (.int (i : Nat)) := sn St.set_eq
  have gc3 : ((σ.set "pos" (.int (i : Nat))).set "ch" (.str [ch])).get "ch" = some (.str [ch]) := St.set_eq
  have c03 : Chg (Wr3 env.locals e it) none3 s₀ s3 := g.ch.trans (c1.trans (c2.trans (sin_chg sn3)))
  have l3 := live_sin (s := { s1 with heap := h2 }) l2 sn3 G3
  have e3 : IsEnum s3.heap e it ((i : Int) + 1) (.str ⟨#[ch]⟩ u) := sn3.heap e _ O.eL he2
  have si3 : Sx (i + 1) s3.heap := (D _ hA).frame _ _ _ hs2' fun b hb o e' => sn3.heap b o (fun q => by rw [List.mem_singleton] at hb; exact O.iL (hb.symm.trans q)) e'
  generalize (σ.set "pos" (.int (i : Nat))).set "ch" (.str [ch]) = σ3 at G3 g23 gp3 gc3
  clear sn3 r3 p3 hAs l2 ht2 hs2' c2 G2 hs2 he2 c1 G1 step hk1 ht1 hs1 he1
  rw [Sem.bind_eq_wrap', Sem.wrap_wrap]
  refine seg_execs_cons ?_
  refine seg_if E G3 hk (b := esc) (tr_bool (ev_loc rfl g23)) (fun s4 hb G4 sn4 => ?_) (fun s4 hb G4 sn4 => ?_)
  · subst hb
    have hn : n = (escs (i + 1) false r).length + 1 := g.n
    subst hn
    refine seg_execs_cons ?_
    have c04 := c03.trans (sin_chg sn4)
    have l4 := live_sin l3 sn4 G4
    refine seg_yieldPair (p := (i : Nat)) (z := [92, ch]) E G4 hk (ev_loc rfl gp3) (ev_bin (ev_strL [92] (by decide +kernel)) (ev_loc rfl gc3) (bin_add_str (by simp))) rfl rfl rfl rfl (fun v s5 np G5 kp kap hkap => genY_of O (i := i) (p := (i, [92, ch])) (rest := escs (i + 1) false r) g.all np c04 l4 kp ⟨G5.bare, G5.tok, G5.top⟩ (fun s6 hpres hb6 ht6 hT6 => hkap s6 ?_))
    have G6 : GSt G env σ3 s6 := G5.wake (L' := 0) (fun o ho => hpres _ o (.inl rfl) ho) hb6 ht6 hT6
    show Seg _ _ _ _ _ s6 _ ((execs [_] env).wrap _ _ _ _) _ s6
    refine seg_execs_cons ?_
    refine seg_ex (σ' := σ3.set "escape" (.bool false)) E G6 hk (ex_asg rfl ev_bool (as_loc rfl rfl)) (fun y d hy => ?_) G6.own (fun s7 G7 sn7 => ?_)
    · simp only [St.set, setL_lookup] at hy
      split at hy
      · cases hy; rfl
      · exact G6.scal y d hy
    · refine seg_again rfl (ih (i + 1) false _ s6 s7 (by simp at hi; omega) hxr ⟨⟨⟨_, G7, St.set_eq⟩, sin_chg sn7⟩, rfl, ?_, ?_, ?_, ⟨_, sn7.heap e _ O.eL (hpres e _ (.inr (.inl rfl)) (kp.heap e _ (sn4.heap e _ O.eL e3)))⟩, ?_⟩)
      · obtain ⟨pre, h⟩ := g.all
        exact ⟨pre ++ [(i, [92, ch])], by rw [h]; simp [escs]⟩
      · exact live_sin (fun b hb => (by obtain ⟨o, ho⟩ := live_kp kp l4 b hb; exact ⟨o, hpres b o hb ho⟩)) sn7 G7
      · have := g.fin; simpa [escF] using this
      · refine (D _ hA).frame _ _ _ si3 fun b hb o e' => ?_
        rw [List.mem_singleton] at hb
        rw [hb] at e' ⊢
        exact sn7.heap it _ O.iL (hpres it _ (.inr (.inr rfl)) (kp.heap it _ (sn4.heap it _ O.iL e')))
  · subst hb
    refine seg_execs_cons ?_
    have l4 := live_sin l3 sn4 G4
    refine seg_if E G4 hk (b := [ch] == [92]) (tr_cmp (ev_loc rfl gc3) (ev_strL [92] (by decide +kernel)) cmp_eq_str) (fun s5 hb G5 sn5 => ?_) (fun s5 hb G5 sn5 => ?_)
    · have hch : ch = 92 := by simpa using hb
      subst hch
      refine seg_execs_cons ?_
      refine seg_ex (σ' := σ3.set "escape" (.bool true)) E G5 hk (ex_asg rfl ev_bool (as_loc rfl rfl)) (fun y d hy => ?_) G5.own (fun s7 G7 sn7 => ?_)
      · simp only [St.set, setL_lookup] at hy
        split at hy
        · cases hy; rfl
        · exact G5.scal y d hy
      · refine seg_again rfl (ih (i + 1) true n s₀ s7 (by simp at hi; omega) hxr ⟨⟨⟨_, G7, St.set_eq⟩, c03.trans ((sin_chg sn4).trans ((sin_chg sn5).trans (sin_chg sn7)))⟩, ?_, ?_, ?_, ?_, ⟨_, sn7.heap e _ O.eL (sn5.heap e _ O.eL (sn4.heap e _ O.eL e3))⟩, ?_⟩)
        · have := g.n; simpa [escs] using this
        · have := g.all; simpa [escs] using this
        · exact live_sin (live_sin l4 sn5 G5) sn7 G7
        · have := g.fin; simpa [escF] using this
        · refine (D _ hA).frame _ _ _ si3 fun b hb o e' => ?_
          rw [List.mem_singleton] at hb
          rw [hb] at e' ⊢
          exact sn7.heap it _ O.iL (sn5.heap it _ O.iL (sn4.heap it _ O.iL e'))
    · have hch : ch ≠ 92 := by
       exact fun e => by rw [e] at hb; exact absurd hb (by decide)
      have he : escs i false (ch :: r) = (i, [ch]) :: escs (i + 1) false r := by simp [escs, hch]
      have hn : n = (escs (i + 1) false r).length + 1 := by have := g.n; rw [he] at this; exact this
      subst hn
      refine seg_execs_cons ?_
      have c05 := c03.trans ((sin_chg sn4).trans (sin_chg sn5))
      have l5 := live_sin l4 sn5 G5
      refine seg_yieldPair (p := (i : Nat)) (z := [ch]) E G5 hk (ev_loc rfl gp3) (ev_loc rfl gc3) rfl rfl rfl rfl (fun v s6 np G6 kp kap hkap => genY_of O (i := i) (p := (i, [ch])) (rest := escs (i + 1) false r) (by have := g.all; rw [he] at this; exact this) np c05 l5 kp ⟨G6.bare, G6.tok, G6.top⟩ (fun s7 hpres hb7 ht7 hT7 => hkap s7 ?_))
      have G7 : GSt G env σ3 s7 := G6.wake (L' := 0) (fun o ho => hpres _ o (.inl rfl) ho) hb7 ht7 hT7
      refine seg_again rfl (ih (i + 1) false _ s7 s7 (by simp at hi; omega) hxr ⟨⟨⟨_, G7, g23⟩, Chg.refl _ _ _⟩, rfl, ?_, ?_, ?_, ⟨_, hpres e _ (.inr (.inl rfl)) (kp.heap e _ (sn5.heap e _ O.eL (sn4.heap e _ O.eL e3)))⟩, ?_⟩)
      · obtain ⟨pre, h⟩ := g.all
        exact ⟨pre ++ [(i, [ch])], by rw [h, he]; simp⟩
      · exact fun b hb => (by obtain ⟨o, ho⟩ := live_kp kp l5 b hb; exact ⟨o, hpres b o hb ho⟩)
      · have := g.fin; simpa [escF, hch] using this
      · refine (D _ hA).frame _ _ _ si3 fun b hb o e' => ?_
        rw [List.mem_singleton] at hb
        rw [hb] at e' ⊢
        exact hpres it _ (.inr (.inr rfl)) (kp.heap it _ (sn5.heap it _ O.iL (sn4.heap it _ O.iL e')))
end
end
section
theorem aok_func {k : Nat} {b : List Stmt} {env : Env} (hk : k < 40) : Aok (k + 1) ((Ast k).in1.over (.func b env) []) := by
 refine ⟨rfl, ?_, ?_, hk⟩
 · show 310 + 10 * k + 0 + (Code.func b env).weight ≤ _
   show 310 + 10 * k + 1 ≤ 310 + 10 * k + 10
   exact dl0 1 10 rfl
 · show 100 * (k + 1) + 1 + 0 + (Code.func b env).cUnits ≤ _
   show 100 * (k + 1) + 4 ≤ 100 * (k + 1) + 100
   exact dl0 4 100 rfl
theorem aok_loop {k : Nat} {b b' : List Stmt} {t : Expr} {v : Value} {env : Env} {kf : Result -> Sem Fin} {l0 : List Value} {p0 : Pos} (hk : k < 40) : Aok (k + 1) ((Ast k).in1.over (.forLoop t v b' [] env) [.ret kf none false l0 (.func b env) p0 []]) := by
 refine ⟨rfl, ?_, ?_, hk⟩
 · show 310 + 10 * k + frameCount [(Code.func b env, p0)] + (Code.forLoop t v b' [] env).weight ≤ _
   have h1 : (Code.func b env).weight = 1 := rfl
   have h2 : (Code.forLoop t v b' [] env).weight = 0 := rfl
   rw [frameCount_cons, h1, h2]
   show 310 + 10 * k + 1 ≤ 310 + 10 * k + 10
   exact dl0 1 10 rfl
 · show 100 * (k + 1) + 1 + unitsOf [(Code.func b env, p0)] + (Code.forLoop t v b' [] env).cUnits ≤ _
   have h1 : (Code.func b env).cUnits = 3 := rfl
   have h2 : (Code.forLoop t v b' [] env).cUnits = 0 := rfl
   rw [unitsOf_cons, unitsOf_nil, h1, h2]
   omega
theorem no_enumerate {G : Gl} (g : IsG G) : G.mg "enumerate" = none := g.mg _ _ rfl
theorem mb_enumerate {G : Gl} (g : IsG G) : G.mb "enumerate" = some (.type "enumerate") := (g.mb _ (by decide)).trans (by decide +kernel)
theorem draws_of {prog : Program} {w : World} {it : Addr} {x : List Nat} {t : Tok} : ∀ A' : Around, A'.handled = none -> Draws prog w A' it [it] x.length (SignAt (toS x)) (fun i h => h.IsStrIter it (strIterType (toS x)) (toS x) t i) := by
 intro A' hA
 have hl : (toS x).cps.size = x.length := by simp [toS]
 cases ha : (toS x).cps.all (· < 128)
 · have e : strIterType (toS x) = "str_iterator" := by unfold strIterType; rw [ha]; rfl
   rw [e, ← hl]
   exact Draws.strWide hA it (toS x) t
 · have e : strIterType (toS x) = "str_ascii_iterator" := by unfold strIterType; rw [ha]; rfl
   rw [e, ← hl]
   exact Draws.strAscii hA it (toS x) t
set_option maxHeartbeats 1000000 in
theorem seg_gen {G : Gl} (g : IsG G) {env : Env} {h0 : Heap} {k : Nat} (hk : k < 40) {x : List Nat} {s : Shared} (E : GEnv G env (gsc G) h0) (gs : GSt G env ⟨[("addr", .str x)], []⟩ s) (hf : escF false x = false) :
 Seg (model G.prog G.w) (Ast k).in1 (genR env.locals (s.heap.objs.size + 1) s.heap.objs.size) (genY G env.locals (s.heap.objs.size + 1) s.heap.objs.size (escs 0 false x)) (escs 0 false x).length s (.func (bodyAt G.w.params 28) env)
  ((model G.prog G.w).den (.func (bodyAt G.w.params 28) env)) [] s := by
 refine seg_func ?_
 have hb : bodyAt G.w.params 28 = bodyAt G.w.params 28 := rfl
 refine seg_execs_cons ?_
 refine seg_asgC (d := .int 0) (x := "pos") (v := .int 0 s.toks) (t := s.toks + 1) E gs rfl (fun Q F h _ _ _ => h) (Nat.le_succ _) rfl (fun _ _ _ => ⟨_, rfl⟩) (fun _ => rfl) (fun s1 g1 sn1 z1 n1 => ?_)
 refine seg_execs_cons ?_
 refine seg_asgC (d := .bool false) (x := "escape") (v := .bool false) (t := s1.toks) E g1 rfl (fun Q F h _ _ _ => h) (Nat.le_refl _) rfl (fun _ _ _ => rfl) (fun _ => rfl) (fun s2 g2 sn2 z2 n2 => ?_)
 refine seg_execs_cons ?_
 refine seg_for (fun _ => rfl) ?_
 have hz : s2.heap.objs.size = s.heap.objs.size := z2.trans z1
 have sn := sn1.trans sn2
 obtain ⟨m, hm, hl⟩ := g2.ns
 obtain ⟨va, ha1, ta, ha2⟩ := hl "addr" (.str x) rfl (kindOf_of E.scp rfl)
 subst ha2
 have hLs : ∃ o, s2.heap.get? env.locals = some o := (by obtain ⟨o, _, _, e, _⟩ := hm; exact ⟨o, e⟩)
 have hkind : env.scope.kind = .function := by rw [E.scp]; exact E.kind
 show wpAny _ _ (do callWith _ (← eval (.Name "enumerate" _) env) [] (backTo _ (starEach [.Name "addr" _] env)) []) _ _ s2
 refine wpAny_bind (Calls.Name_function_global hkind (kindOf_of E.scp rfl) (Calls.loadGlobal_builtin (by rw [E.glob]; exact g2.top.g) (no_enumerate g) (by rw [E.blt]; exact g2.top.b) (mb_enumerate g) ?_))
 refine PySem.callWith_type rfl (evalArgs_any rfl ?_)
 refine Calls.spliced_cons (x := eval (.Name "addr" _) env) (wpAny_Name (wpAny_loadName_local hkind (kindOf_of E.scp rfl) hm ha1 ?_))
 refine Calls.spliced_nil ?_
 refine call_enumerate_str fun h' he hit hsz hkeep => ?_
 refine wpAny_pyIter_enum he ?_
 intro kf hkf p gg l hgg
 subst hgg
 rw [hz] at he hit ⊢
 have hLlt : env.locals < s.heap.objs.size := by rw [← hz]; obtain ⟨o, ho⟩ := hLs; exact Heap.lt_size ho
 have O : GO G env (s.heap.objs.size + 1) s.heap.objs.size h0 := ⟨E, Nat.succ_ne_self _, Ne.symm (Nat.ne_of_lt (Nat.lt_succ_of_lt hLlt)), Ne.symm (Nat.ne_of_lt hLlt), s.heap, gs.top, Heap.get?_none_of_le (Nat.le_succ _), Heap.get?_none_of_le (Nat.le_refl _)⟩
 have g3 : GSt G env ((Mine.St.set ⟨[("addr", .str x)], []⟩ "pos" (.int 0)).set "escape" (.bool false)) { s2 with heap := h' } := O.st g2 (fun b o _ _ e => hkeep b o e) (Nat.le_refl _) rfl
 have hL' : ∃ o, h'.get? env.locals = some o := (by obtain ⟨o, ho⟩ := hLs; exact ⟨o, hkeep _ o ho⟩)
 have c3 : Chg (Wr3 env.locals (s.heap.objs.size + 1) s.heap.objs.size) none3 s { s2 with heap := h' } := (sin_chg sn).trans ⟨fun b o _ e => hkeep b o e, rfl, fun h => h, fun _ _ _ e => e, Nat.le_refl _⟩
 refine seg_gloop (k' := k + 1) (x := x) (all := escs 0 false x) (Sx := fun i h => h.IsStrIter s.heap.objs.size (strIterType (toS x)) (toS x) ta i) O rfl (aok_loop hk) draws_of (fun s₀ s' ge => ?_) x 0 false _ s { s2 with heap := h' } (by simp) rfl ⟨⟨⟨_, g3, rfl⟩, c3⟩, rfl, ⟨[], rfl⟩, fun b hb => ?_, hf, ⟨_, he⟩, hit⟩
 · rw [hkf]
   obtain ⟨σ, g4, g5⟩ := ge.st
   show Seg _ _ _ _ _ s₀ _ ((execs [_] env).wrap _ _ _ _) _ s'
   refine seg_execs_cons ?_
   refine seg_if (k' := k + 1) E g4 (aok_func hk) (b := false) (tr_bool (ev_loc rfl g5)) (fun s5 h _ _ => nomatch h) (fun s5 _ g6 sn6 => ?_)
   exact seg_end (.ok (.ret .none)) ⟨rfl, rfl, ge.ch.trans (sin_chg sn6)⟩
 · rcases hb with hb | hb | hb
   · rw [hb]; exact hL'
   · rw [hb]; exact ⟨_, he⟩
   · rw [hb]; obtain ⟨o, ho, _⟩ := hit; exact ⟨o, ho⟩
end
section
set_option tactic.hygienic true in
theorem noOwn_gen {a : Addr} {g : Nat} {v : Value} {s : Shared} (h : s.heap.IsGen a g) : noOwn (.ref a) v s := by
 intro M A E Q target hq
 obtain ⟨o, nm, qn, ho, hc, hd, _⟩ := h
 unfold letOwnedTupleGo
 split
 · split
   · rename_i r1 a1 heq
     have e1 := (Prod.mk.inj heq).1
     cases e1
     refine wpAny_bind (wpAny_load ho ?_)
     rw [hc, hd]
     exact wpAny_pure hq
   · exact wpAny_pure hq
 · split
   · rename_i r1 a1 heq
     have e1 := (Prod.mk.inj heq).1
     cases e1
     refine wpAny_bind (wpAny_load ho ?_)
     rw [hc, hd]
     exact wpAny_pure hq
   · exact wpAny_pure hq
 · exact wpAny_pure hq
section
variable {G : Gl} {a L e it : Addr} {gI k : Nat} {all : List (Nat × List Nat)}
theorem isGen_chg {s s' : Shared} (h : s.heap.IsGen a gI) (c : Chg (Wr3 L e it) none3 s s') (n : ¬ Wr3 L e it a) : s'.heap.IsGen a gI := (by obtain ⟨o, nm, qn, ho, r⟩ := h; exact ⟨o, nm, qn, c.heap a o n ho, r⟩)
theorem gwalk_susp (hk : k < 40) (hn : ¬ Wr3 L e it a) : ∀ (rest : List (Nat × List Nat)) (gs : GenState) (s : Shared), (∃ pre, all = pre ++ rest) -> s.heap.IsGen a gI -> s.gens[gI]? = some gs -> 0 < s.toks ->
 (∀ s2 : Shared, (∀ b o, Wr3 L e it b -> s.heap.get? b = some o -> s2.heap.get? b = some o) -> AllBare s2.gens -> 0 < s2.toks -> TopG G s2.heap -> gs.Goes (model G.prog G.w) (Ast k).in1 (genR L e it) (genY G L e it all) rest.length (.send .none) s2) ->
 GWalk G k (.ref a) (fun g => g = gI) (rest.map pairD) (fun b => b = a ∨ Wr3 L e it b) s
 | [], gs, s, hall, hgen, hgs, ht, hgo => fun s' A e1 e2 e3 e4 e5 hA => by
  refine wp_star hA ?_
  have hgen' : s'.heap.IsGen a gI := (by obtain ⟨o, nm, qn, ho, r⟩ := hgen; exact ⟨o, nm, qn, e1 a o (.inl rfl) ho, r⟩)
  have hgo' := hgo (s'.setGen gI .running) (fun b o hb ho => e1 b o (.inr hb) ho) (AllBare.setGen e3 rfl) (Nat.lt_of_lt_of_le ht e4) e5
  refine wpAny_mono (wpAny_toks_of (Nat.le_refl s'.toks) (pyNext_genF (A := Ast k) (n := 0) (P := fun n s₀ s₁ => n = 0 ∧ Chg (Wr3 L e it) none3 s₀ s₁) (Y := genY G L e it all) (E := fun _ _ => False)
   (Q := fun r s'' => r = none ∧ (∀ b o, ¬ (b = a ∨ Wr3 L e it b) -> s'.heap.get? b = some o -> s''.heap.get? b = some o) ∧ s''.os = s'.os ∧ AllBare s''.gens ∧ ∀ (g : Nat) x, g ≠ gI -> s'.gens[g]? = some x -> s''.gens[g]? = some x) rfl e5.nolimit (Ast.ok (by exact dl1 0 40 1 40 hk rfl)).room hgen' (e2 gI gs rfl hgs) hgo' (fun v s₁ gs' hb hy => ?_) (fun s₁ hp h' hk' => ?_))) (fun r s'' x => ?_) fun _ _ f => f.2
  · obtain ⟨p, _, _, _, _, ⟨b1, b2, b3⟩, hkap⟩ := hy
    exact (hkap s₁ (fun _ _ _ e => e) b1 b2 b3).elim
  · obtain ⟨_, c⟩ := hp
    exact ⟨rfl, fun b o n ho => hk' b o (c.heap b o (fun q => n (.inr q)) ho), c.os, AllBare.setGen (c.bare (AllBare.setGen e3 rfl)) rfl, fun g y hg hy => setGen_other hg (c.gens g y (fun f => f) (setGen_other hg hy))⟩
  · obtain ⟨tk, hr, x1, x2, x3, x4⟩ := x
    exact ⟨hr, x1, x2, fun _ => x3, fun g y hg hy => x4 g y hg hy, tk⟩
 | p :: rest, gs, s, hall, hgen, hgs, ht, hgo => fun s' A e1 e2 e3 e4 e5 hA => by
  refine wp_star hA ?_
  have hgen' : s'.heap.IsGen a gI := (by obtain ⟨o, nm, qn, ho, r⟩ := hgen; exact ⟨o, nm, qn, e1 a o (.inl rfl) ho, r⟩)
  have hgo' := hgo (s'.setGen gI .running) (fun b o hb ho => e1 b o (.inr hb) ho) (AllBare.setGen e3 rfl) (Nat.lt_of_lt_of_le ht e4) e5
  refine wpAny_mono (wpAny_toks_of (Nat.le_refl s'.toks) (pyNext_genF (A := Ast k) (n := rest.length + 1) (P := fun n s₀ s₁ => n = 0 ∧ Chg (Wr3 L e it) none3 s₀ s₁) (Y := genY G L e it all) (E := fun _ _ => False)
   (Q := fun r s'' => ∃ v, r = some v ∧ (∀ b, (b = a ∨ Wr3 L e it b) -> ∃ o, s''.heap.get? b = some o) ∧ (∀ O' μ', (∀ b, O' b -> (∃ o, s'.heap.get? b = some o) ∨ b = a ∨ Wr3 L e it b) -> Holds O' μ' s''.heap (pairD p) v) ∧ noOwn (.ref a) v s'' ∧
    Chg (fun b => b = a ∨ Wr3 L e it b) (fun g => g = gI) s' s'' ∧ GWalk G k (.ref a) (fun g => g = gI) (rest.map pairD) (fun b => b = a ∨ Wr3 L e it b) s'')
   rfl e5.nolimit (Ast.ok (by exact dl1 0 40 1 40 hk rfl)).room hgen' (e2 gI gs rfl hgs) hgo' (fun v s₁ gs' hb hy => ?_) (fun s₁ hp h' hk' => ?_))) (fun r s'' x => ?_) fun _ _ f => f.2
  · obtain ⟨q, hq, ⟨sb, np, x1, x2⟩, c, hl, ⟨b1, b2, b3⟩, hkap⟩ := hy
    have hqp : q = p := by
     obtain ⟨pre, rfl⟩ := hall
     rw [List.length_append, List.length_cons, show pre.length + (rest.length + 1) - 1 - (rest.length + 1 - 1) = pre.length from sb4, List.getElem?_append_right (Nat.le_refl _), Nat.sub_self] at hq
     exact (Option.some.inj hq).symm
    subst hqp
    have hgen1 : s₁.heap.IsGen a gI := isGen_chg (s := s'.setGen gI .running) hgen' c hn
    have hea : ∃ o, s₁.heap.get? a = some o := (by obtain ⟨o, _, _, ho, _⟩ := hgen1; exact ⟨o, ho⟩)
    refine ⟨v, rfl, fun b hb' => ?_, fun O' μ' hO' => ?_, noOwn_gen (s := s₁.setGen gI gs') hgen1, ⟨fun b o n ho => c.heap b o (fun z => n (.inr z)) ho, c.os, fun _ => AllBare.setGen b1 hb, fun g y hg hy => setGen_other hg (c.gens g y (fun f => f) (setGen_other hg hy)), c.toks⟩, ?_⟩
    · rcases hb' with hb' | hb'
      · rw [hb']; exact hea
      · exact hl b hb'
    · refine np.holds fun b hb' => ?_
      rcases hO' b hb' with ⟨o, ho⟩ | h | h
      · exact x1 b o ho
      · obtain ⟨o, _, _, ho, _⟩ := hgen'
        rw [h]; exact x1 a o ho
      · exact x2 b h
    · refine gwalk_susp hk hn rest gs' (s₁.setGen gI gs') ?_ hgen1 (setGen_self (gs := .running) ?_) b2 fun s2 z1 z2 z3 z4 => hkap s2 z1 z2 z3 z4
      · obtain ⟨pre, h⟩ := hall
        exact ⟨pre ++ [q], by rw [h, List.append_assoc]; rfl⟩
      · exact c.gens gI _ (fun f => f) (setGen_self (e2 gI gs rfl hgs))
  · exact absurd hp.1 (Nat.succ_ne_zero _)
  · obtain ⟨tk, v, hr, x1, x2, x3, x4, x5⟩ := x
    exact ⟨v, _, hr, fun b hb => .inl hb, x1, x2, x3, x4, x5⟩
end
end
section
section
variable {G : Gl} {a : Addr} {gI k : Nat}
theorem gwalk_fresh (g : IsG G) (hk : k < 40) {env : Env} {h0 : Heap} {x : List Nat} {s : Shared} (E : GEnv G env (gsc G) h0) (hgen : s.heap.IsGen a gI) (hgs : s.gens[gI]? = some (.fresh (.func (bodyAt G.w.params 28) env))) (ht : 0 < s.toks)
 (hns : ∃ m, s.heap.Ns env.locals m ∧ ∃ t, m "addr" = some (.str (toS x) t)) (haL : a ≠ env.locals) (hf : escF false x = false) : GWalk G k (.ref a) (fun g => g = gI) (escD x) (fun b => b = a ∨ b = env.locals) s := by
 unfold escD
 have main : ∀ s' : Shared, (∀ b o, (b = a ∨ b = env.locals) -> s.heap.get? b = some o -> s'.heap.get? b = some o) -> AllBare s'.gens -> s.toks ≤ s'.toks -> TopG G s'.heap ->
  (GenState.fresh (.func (bodyAt G.w.params 28) env)).Goes (model G.prog G.w) (Ast k).in1 (genR env.locals (s'.heap.objs.size + 1) s'.heap.objs.size) (genY G env.locals (s'.heap.objs.size + 1) s'.heap.objs.size (escs 0 false x)) (escs 0 false x).length (.send .none) (s'.setGen gI .running) := by
  intro s' e1 e3 e4 e5
  refine ⟨rfl, seg_gen (s := s'.setGen gI .running) g hk E ⟨Nat.lt_of_lt_of_le ht e4, AllBare.setGen e3 rfl, e5, ?_, ?_, rfl⟩ hf⟩
  · obtain ⟨m, hm, t, hv⟩ := hns
    refine ⟨m, hm.at' fun o e => e1 _ o (.inr rfl) e, fun y d hy _ => ?_⟩
    by_cases hya : y = "addr"
    · subst hya
      cases hy
      exact ⟨_, hv, ⟨t, rfl⟩⟩
    · have hb : (y == ("addr" : Str)) = false := by simpa using hya
      simp only [List.lookup, hb] at hy
      cases hy
  · intro y d hy
    by_cases hya : y = "addr"
    · subst hya
      cases hy; rfl
    · have hb : (y == ("addr" : Str)) = false := by simpa using hya
      simp only [List.lookup, hb] at hy
      cases hy
 generalize hall : escs 0 false x = all at main
 cases all with
 | nil =>
  intro s' A e1 e2 e3 e4 e5 hA
  refine wp_star hA ?_
  have hgen' : s'.heap.IsGen a gI := (by obtain ⟨o, nm, qn, ho, r⟩ := hgen; exact ⟨o, nm, qn, e1 a o (.inl rfl) ho, r⟩)
  refine wpAny_mono (wpAny_toks_of (Nat.le_refl s'.toks) (pyNext_genF (A := Ast k) (n := 0) (P := fun n s₀ s₁ => n = 0 ∧ Chg (Wr3 env.locals (s'.heap.objs.size + 1) s'.heap.objs.size) none3 s₀ s₁) (Y := genY G env.locals (s'.heap.objs.size + 1) s'.heap.objs.size []) (E := fun _ _ => False)
   (Q := fun r s'' => r = none ∧ (∀ b o, ¬ (b = a ∨ b = env.locals) -> s'.heap.get? b = some o -> s''.heap.get? b = some o) ∧ s''.os = s'.os ∧ AllBare s''.gens ∧ ∀ (g : Nat) x, g ≠ gI -> s'.gens[g]? = some x -> s''.gens[g]? = some x) rfl e5.nolimit (Ast.ok (by exact dl1 0 40 1 40 hk rfl)).room hgen' (e2 gI _ rfl hgs) (main s' e1 e3 e4 e5) (fun v s₁ gs' hb hy => ?_) (fun s₁ hp h' hk' => ?_))) (fun r s'' x => ?_) fun _ _ f => f.2
  · obtain ⟨p, _, _, _, _, ⟨b1, b2, b3⟩, hkap⟩ := hy
    exact (hkap s₁ (fun _ _ _ e => e) b1 b2 b3).elim
  · obtain ⟨_, c⟩ := hp
    refine ⟨rfl, fun b o n ho => hk' b o (c.heap b o (fun q => ?_) ho), c.os, AllBare.setGen (c.bare (AllBare.setGen e3 rfl)) rfl, fun g y hg hy => setGen_other hg (c.gens g y (fun f => f) (setGen_other hg hy))⟩
    rcases q with q | q | q
    · exact n (.inr q)
    · have := Heap.lt_size ho; rw [q] at this; exact absurd this (Nat.not_lt.mpr (Nat.le_succ _))
    · have := Heap.lt_size ho; rw [q] at this; exact Nat.lt_irrefl _ this
  · obtain ⟨tk, hr, x1, x2, x3, x4⟩ := x
    exact ⟨hr, x1, x2, fun _ => x3, fun g y hg hy => x4 g y hg hy, tk⟩
 | cons p rest =>
  intro s' A e1 e2 e3 e4 e5 hA
  refine wp_star hA ?_
  have hgen' : s'.heap.IsGen a gI := (by obtain ⟨o, nm, qn, ho, r⟩ := hgen; exact ⟨o, nm, qn, e1 a o (.inl rfl) ho, r⟩)
  have halt : a < s'.heap.objs.size := (by obtain ⟨o, _, _, ho, _⟩ := hgen'; exact Heap.lt_size ho)
  have hn : ¬ Wr3 env.locals (s'.heap.objs.size + 1) s'.heap.objs.size a := fun q => by
   rcases q with q | q | q
   · exact haL q
   · rw [q] at halt; exact absurd halt (Nat.not_lt.mpr (Nat.le_succ _))
   · rw [q] at halt; exact Nat.lt_irrefl _ halt
  refine wpAny_mono (wpAny_toks_of (Nat.le_refl s'.toks) (pyNext_genF (A := Ast k) (n := rest.length + 1) (P := fun n s₀ s₁ => n = 0 ∧ Chg (Wr3 env.locals (s'.heap.objs.size + 1) s'.heap.objs.size) none3 s₀ s₁) (Y := genY G env.locals (s'.heap.objs.size + 1) s'.heap.objs.size (p :: rest)) (E := fun _ _ => False)
   (Q := fun r s'' => ∃ v, r = some v ∧ (∀ b, (b = a ∨ Wr3 env.locals (s'.heap.objs.size + 1) s'.heap.objs.size b) -> ∃ o, s''.heap.get? b = some o) ∧ (∀ O' μ', (∀ b, O' b -> (∃ o, s'.heap.get? b = some o) ∨ b = a ∨ Wr3 env.locals (s'.heap.objs.size + 1) s'.heap.objs.size b) -> Holds O' μ' s''.heap (pairD p) v) ∧ noOwn (.ref a) v s'' ∧
    Chg (fun b => b = a ∨ b = env.locals) (fun g => g = gI) s' s'' ∧ GWalk G k (.ref a) (fun g => g = gI) (rest.map pairD) (fun b => b = a ∨ Wr3 env.locals (s'.heap.objs.size + 1) s'.heap.objs.size b) s'')
   rfl e5.nolimit (Ast.ok (by exact dl1 0 40 1 40 hk rfl)).room hgen' (e2 gI _ rfl hgs) (main s' e1 e3 e4 e5) (fun v s₁ gs' hb hy => ?_) (fun s₁ hp h' hk' => ?_))) (fun r s'' x => ?_) fun _ _ f => f.2
  · obtain ⟨q, hq, ⟨sb, np, x1, x2⟩, c, hl, ⟨b1, b2, b3⟩, hkap⟩ := hy
    have hqp : q = p := by
     rw [List.length_cons, show rest.length + 1 - 1 - (rest.length + 1 - 1) = 0 from sb5] at hq
     exact (Option.some.inj hq).symm
    subst hqp
    have hgen1 : s₁.heap.IsGen a gI := isGen_chg (s := s'.setGen gI .running) hgen' c hn
    have hea : ∃ o, s₁.heap.get? a = some o := (by obtain ⟨o, _, _, ho, _⟩ := hgen1; exact ⟨o, ho⟩)
    refine ⟨v, rfl, fun b hb' => ?_, fun O' μ' hO' => ?_, noOwn_gen (s := s₁.setGen gI gs') hgen1, ⟨fun b o n ho => c.heap b o (fun z => ?_) ho, c.os, fun _ => AllBare.setGen b1 hb, fun g y hg hy => setGen_other hg (c.gens g y (fun f => f) (setGen_other hg hy)), c.toks⟩, ?_⟩
    · rcases hb' with hb' | hb'
      · rw [hb']; exact hea
      · exact hl b hb'
    · refine np.holds fun b hb' => ?_
      rcases hO' b hb' with ⟨o, ho⟩ | h | h
      · exact x1 b o ho
      · obtain ⟨o, _, _, ho, _⟩ := hgen'
        rw [h]; exact x1 a o ho
      · exact x2 b h
    · rcases z with z | z | z
      · exact n (.inr z)
      · have := Heap.lt_size ho; rw [z] at this; exact absurd this (Nat.not_lt.mpr (Nat.le_succ _))
      · have := Heap.lt_size ho; rw [z] at this; exact Nat.lt_irrefl _ this
    · refine gwalk_susp hk hn rest gs' (s₁.setGen gI gs') ⟨[q], rfl⟩ hgen1 (setGen_self (gs := .running) ?_) b2 fun s2 z1 z2 z3 z4 => hkap s2 z1 z2 z3 z4
      exact c.gens gI _ (fun f => f) (setGen_self (e2 gI _ rfl hgs))
  · exact absurd hp.1 (Nat.succ_ne_zero _)
  · obtain ⟨tk, v, hr, x1, x2, x3, x4, x5⟩ := x
    refine ⟨v, _, hr, fun b hb => ?_, x1, x2, x3, x4, x5⟩
    rcases hb with hb | hb | hb | hb
    · exact .inl (.inl hb)
    · exact .inl (.inr hb)
    · exact .inr (by rw [hb]; exact Heap.get?_none_of_le (Nat.le_succ _))
    · exact .inr (by rw [hb]; exact Heap.get?_none_of_le (Nat.le_refl _))
theorem fk_iter (g : IsG G) : FK G (.ref 28) := by
 have h : ∃ c d fd s, (hd.heap_1 G.w.params).lookup 28 = some ⟨c, d, .func fd, s⟩ := ⟨_, _, _, _, rfl⟩
 obtain ⟨c, d, fd, s, e⟩ := h
 exact .fn 28 _ fd (by rw [g.K]; exact e) rfl
theorem evG_iter (g : IsG G) {sc : Scope} {σ : St} (hk : k < 40) {e : Expr} {p q : Pos} {x : List Nat} (hn : sc.names.lookup (Str.ofString "_iter_escaped_chars") = some .globalImplicit) (he : Ev G sc k σ e (.str x)) (hf : escF false x = false)
 (hs : autoParam (∀ env, starEach [e] env = (false, eval e env) :: starEach [] env) ir)
 (hs' : autoParam (∀ env, eval (.Call (.Name (Str.ofString "_iter_escaped_chars") q) [e] [] p) env = (do callWith p (← eval (.Name (Str.ofString "_iter_escaped_chars") q) env) [] (backTo p (starEach [e] env)) [])) ir) : EvG G sc k σ (.Call (.Name (Str.ofString "_iter_escaped_chars") q) [e] [] p) (escD x) := by
 intro c μ A s hcs hA r
 rw [hs']
 refine wpAny_bind (wpAny_mono ((ev_glob (p := q) hn (mg_iter_escaped_chars g)) c μ A s hcs hA r) (fun v s1 hq => ?_) fun _ _ f => f)
 obtain ⟨k1, x1⟩ := hq
 have x1' : v = .ref 28 := x1
 subst x1'
 have r1 := r.kp k1
 have hx := evL_cons he evL_nil hs c μ A s1 p hcs hA r1
 refine callWith_fk (fk_iter g) hx.1 (wpAny_mono hx.2 (fun vs s2 ⟨k2, x2⟩ => ⟨(r1.kp k2).topG, ?_⟩) fun _ _ f => f)
 have r2 := r1.kp k2
 obtain ⟨v, rfl, t, rfl⟩ := x2.one
 have hlk : ∃ cc d fd ss, (hd.heap_1 G.w.params).lookup 28 = some ⟨cc, d, .func fd, ss⟩ ∧ fd = fdAt G.w.params 28 := ⟨_, _, _, _, rfl, rfl⟩
 obtain ⟨cc, d, fd, ss, ho, hfd⟩ := hlk
 have ho' : G.K.lookup 28 = some ⟨cc, d, .func fd, ss⟩ := by rw [g.K]; exact ho
 refine wpAny_call (codeAny_call_generator (body := bodyAt G.w.params 28) hA.room (r2.topG.k _ _ ho') rfl (by rw [hfd]; rfl) (by rw [hfd]; rfl) (by rw [hfd]; rfl) (codeRec_of r2.topG.k (by rw [hfd, g.K]; rfl)) ?_)
 have hbind : bindArgs fd ⟨[Value.str (toS x) t], []⟩ = pure [(("addr" : Str), Value.str (toS x) t)] := by rw [hfd]; kernel_rfl
 have hclo : fd.closure = [] := by rw [hfd]; rfl
 have hkind : fd.scope.kind = .function := by rw [hfd]; rfl
 simp only [List.nil_append]
 rw [hbind, hclo]
 refine wpAny_pure (wpAny_mono (wpAny_toks_of (Nat.le_refl s2.toks) (wpAny_newFunctionEnv_cells (Q := fun env s' => env = newEnv fd.scope s2.heap.objs.size fd.globals (cellsFrom (s2.heap.objs.size + 1) fd.scope.names []) (fd.qualname ++ ".<locals>.") (some 28) fd.code none fd.builtins ∧
  InCallC s2 env.locals (bindL env.kindOf [("addr", .str (toS x) t)] fun _ => none) env.cells (bindC env.kindOf [("addr", .str (toS x) t)] fun _ => none) s') (E := fun _ _ => False) hkind (fun y hy => ?_) fun env he s' X => ⟨he, X⟩)) (fun env s3 ⟨htk, he, X⟩ => ?_) fun _ _ f => f.2.elim)
 · rw [List.mem_singleton.mp hy, hfd]
   exact .inl rfl
 have hloc : env.locals = s2.heap.objs.size := by rw [he]; rfl
 have hsc : env.scope = gsc G := by rw [he, hfd]; rfl
 obtain ⟨h3, tk3, hs3, hkeep⟩ := X.done
 have hg3 : s3.gens = s2.gens := by rw [hs3]
 have ho3 : s3.os = s2.os := by rw [hs3]
 have hkeep3 : ∀ b o, s2.heap.get? b = some o -> s3.heap.get? b = some o := by rw [hs3]; exact hkeep
 refine ⟨r2.topG.nolimit.keeps hkeep3, ?_⟩
 have E : GEnv G env (gsc G) s2.heap := by
  refine ⟨hsc, rfl, fun y h => ?_, fun y h => lookup_notfree rfl h, by rw [he, hfd]; rfl, by rw [he, hfd]; rfl, by rw [he, hfd]; rfl, r2.topG, by rw [hloc]; exact fresh_size _⟩
  have hm := mem_of_lookup h
  have : ((gsc G).names.all fun z => z.2 != .cell) = true := rfl
  have := List.all_eq_true.mp this _ hm
  simp at this
 have halt : env.locals < s3.heap.objs.size := by
  obtain ⟨o, _, _, ho, _⟩ := X.toInCall.ns
  exact Heap.lt_size ho
 have kp3 : Kp s2 s3 := ⟨⟨hkeep3, ho3, fun h => by rw [hg3]; exact h, fun _ _ e => by rw [hg3]; exact e⟩, htk⟩
 have hbd : fd.body = .stmts (bodyAt G.w.params 28) := by rw [hfd]; rfl
 refine ⟨(k1.trans k2).trans (kp3.trans ⟨⟨fun b o e => Heap.get?_push_of_some _ e, rfl, fun h => h.push rfl, fun gn y e => ?_⟩, by show s3.toks ≤ s3.toks + 1 + 1; exact dl0 0 2 rfl⟩), s3.heap.objs.size, s3.gens.size, fun b => b = s3.heap.objs.size ∨ b = env.locals, fun gn => gn = s3.gens.size, rfl, .inl rfl, ⟨_, _, _, Heap.get?_push_size _ rfl, rfl, rfl, rfl⟩, fun b hb => ?_, fun b hb => ?_, fun gn hgn => ?_, fun gn hgn => ?_, ?_⟩
 · have hlt := (Array.getElem?_eq_some_iff.mp e).1
   show (s3.gens.push _)[gn]? = _
   rw [Array.getElem?_push_lt hlt]; exact congrArg some (Array.getElem?_eq_some_iff.mp e).2
 · rcases hb with hb | hb
   · rw [hb]; exact none_of_kp ((k1.trans k2).trans kp3) (fresh_size _)
   · rw [hb, hloc]; exact none_of_kp (k1.trans k2) (fresh_size _)
 · rcases hb with hb | hb
   · rw [hb]; exact ⟨_, Heap.get?_push_size _ rfl⟩
   · rw [hb]
     obtain ⟨o, _, _, ho, _⟩ := X.toInCall.ns
     exact ⟨o, Heap.get?_push_of_some _ ho⟩
 · rw [hgn]
   cases e : s.gens[s3.gens.size]? with
   | none => rfl
   | some y =>
    have := ((k1.trans k2).trans kp3).gens _ _ e
    have := (Array.getElem?_eq_some_iff.mp this).1
    exact absurd this (Nat.lt_irrefl _)
 · rw [hgn]; exact ⟨_, Array.getElem?_push_size ..⟩
 · refine gwalk_fresh g hk E ⟨_, _, _, Heap.get?_push_size _ rfl, rfl, rfl, rfl⟩ (Array.getElem?_push_size ..) ?_ ⟨_, X.toInCall.ns.push _, t, ?_⟩ (Ne.symm (Nat.ne_of_lt halt)) hf
   · show 0 < s3.toks + 1 + 1; exact dl1 1 2 0 0 (Nat.zero_le _) rfl
   · have : env.kindOf "addr" = some .local := kindOf_of hsc rfl
     simp [bindL, this]
end
end
section
structure SS where
 start : Nat
 opn : Option Nat
 res : List (List Nat)
noncomputable def sl (x : List Nat) (a : Nat) (b : Option Nat) : List Nat := unS (Txt.slice (toS x) (some (a : Int)) (b.map fun n => ((n : Nat) : Int)))
noncomputable def strip1 (x : List Nat) (S : SS) (p : Nat × List Nat) : SS :=
 if p.2 = [34] then match S.opn with
  | none => { S with opn := some p.1 }
  | some o => ⟨p.1 + 1, none, if S.start ≠ o then S.res ++ [sl x S.start (some o)] else S.res⟩
 else S
noncomputable def stripEnd (x : List Nat) (S : SS) : List Nat := (if S.start < x.length then S.res ++ [sl x S.start none] else S.res).flatten
noncomputable def stripped (x : List Nat) : List Nat := if x.contains 34 then stripEnd x ((escs 0 false x).foldl (strip1 x) ⟨0, none, []⟩) else x
noncomputable def ssD : Option Nat -> D
 | none => .none
 | some o => .int (o : Nat)
theorem sl_le (x : List Nat) (a : Nat) (b : Option Nat) : (sl x a b).length ≤ x.length := by
 have := Txt.slice_le (toS x) (some (a : Int)) (b.map fun n => ((n : Nat) : Int))
 rw [toS_length] at this
 simpa [sl, unS, Str.length] using this
theorem escs_len : ∀ (x : List Nat) (i : Nat) (b : Bool), (escs i b x).length ≤ x.length + (if b then 1 else 0)
 | [], i, b => by cases b <;> simp [escs]
 | c :: r, i, b => by
  cases b with
  | true => have := escs_len r (i + 1) false; simp [escs] at this ⊢; exact dl1 0 1 0 0 this rfl
  | false =>
   simp only [escs, Bool.false_eq_true, if_false]
   by_cases h : c = 92
   · have := escs_len r (i + 1) true; simp [h] at this ⊢; exact this
   · have := escs_len r (i + 1) false; simp [h] at this ⊢; exact this
structure SSt (x : List Nat) (S : SS) (n : Nat) (σ : St) : Prop where
 addr : σ.get "addr" = some (.str x)
 start : σ.get "start" = some (.int (S.start : Nat))
 opn : σ.get "open_pos" = some (ssD S.opn)
 res : σ.get "result" = some (.h 0)
 own : σ.own = [S.res.map .str]
 len : S.res.length ≤ n ∧ ∀ y ∈ S.res, y.length ≤ x.length
theorem flat_le {m : Nat} : ∀ l : List (List Nat), (∀ y ∈ l, y.length ≤ m) -> l.flatten.length ≤ l.length * m
 | [], _ => by simp
 | y :: r, h => by
  have h1 := h y List.mem_cons_self
  have h2 := flat_le r fun z hz => h z (List.mem_cons_of_mem _ hz)
  rw [List.flatten_cons, List.length_append, List.length_cons, Nat.add_mul, Nat.one_mul]
  exact Nat.le_trans (Nat.add_le_add h1 h2) (Nat.le_of_eq (Nat.add_comm _ _))
theorem SSt.set {x : List Nat} {S : SS} {n : Nat} {σ : St} (h : SSt x S n σ) (y : Str) (d : D) (hy : "addr" ≠ y ∧ "start" ≠ y ∧ "open_pos" ≠ y ∧ "result" ≠ y) : SSt x S n (σ.set y d) :=
 ⟨(St.set_ne hy.1).trans h.addr, (St.set_ne hy.2.1).trans h.start, (St.set_ne hy.2.2.1).trans h.opn, (St.set_ne hy.2.2.2).trans h.res, h.own, h.len⟩
set_option maxHeartbeats 2000000 in
theorem cal_strip {G : Gl} (g : IsG G) {k : Nat} {σ : St} (hk : k < 38) {x : List Nat} (hx : x.length ≤ 4000) (hf : escF false x = false) : Cal G k σ (.ref 35) [.str x] (.str (stripped x)) := by
 refine cal_fn (fn_strip_quoted_realnames g) (by exact dl1 1 40 1 38 hk rfl) rfl rfl ?_ rfl
 have c1 : Txt.contains (toS x) (toS (unS "\"")) = x.contains 34 := by
  rw [show unS "\"" = [34] by decide +kernel, toS_one, contains_one]
 refine exs_cons (Q1 := fun fl σ1 => (x.contains 34 = true ∧ fl = .next ∧ σ1.get "addr" = some (.str x) ∧ σ1.own = []) ∨ (x.contains 34 = false ∧ fl = .ret (.str x))) (ex_if (b := !x.contains 34) (tr_cmp (ev_strL [34] (by decide +kernel)) (ev_loc rfl rfl) (by rw [← contains_one, ← toS_one]; exact cmp_notIn_str)) (fun h => ?_) (fun h => ?_)) (fun σ0 h => ?_) (fun fl σ1 ne h => ?_)
 · exact exs_ret (ev_loc rfl rfl) (.inr ⟨by simpa using h, rfl⟩)
 · exact exs_nil (.inl ⟨by simpa using h, rfl, rfl, rfl⟩)
 rotate_left
 · rcases h with h | ⟨h1, h2⟩
   · exact absurd h.2.1 ne
   · subst h2
     refine ⟨_, .ret _, ?_⟩
     show D.str x = _
     unfold stripped
     rw [h1]; rfl
 rcases h with ⟨hc, _, ha, ho⟩ | h
 rotate_left
 · cases h.2
 refine exs_one (ex_asg rfl ev_int (as_loc rfl rfl)) ?_
 refine exs_one (ex_asg rfl ev_none (as_loc rfl rfl)) ?_
 refine exs_one (ex_own (l := []) rfl (evN_list evL_nil (by decide)) rfl (as_loc rfl rfl)) ?_
 refine exs_gen (fun σ => SSt x ⟨0, none, []⟩ 0 σ) ⟨sn (sn (sn ha)), sn (sn St.set_eq), sn St.set_eq, ?_, ?_, Nat.le_refl _, fun _ h => nomatch h⟩ ?_
 · show ((((σ0.set _ _).set _ _).set "result" (.h σ0.own.length)).get "result") = _
   rw [ho]; exact St.set_eq
 · show σ0.own ++ [[]] = _
   rw [ho]; rfl
 intro σ1 S1
 have hlen := escs_len x 0 false
 refine exs_cons (Q1 := fun fl σ2 => fl = .next ∧ SSt x ((escs 0 false x).foldl (strip1 x) ⟨0, none, []⟩) x.length σ2) (ex_forG (evG_iter g (by exact dl1 2 40 1 38 hk rfl) rfl (ev_loc rfl S1.addr) hf)
  (fun rest σ2 => ∃ done ps S, escs 0 false x = done ++ ps ∧ rest = ps.map pairD ∧ SSt x S done.length σ2 ∧ ps.foldl (strip1 x) S = (escs 0 false x).foldl (strip1 x) ⟨0, none, []⟩) ⟨[], _, _, rfl, rfl, S1, rfl⟩ ?_ ?_) ?_ (fun fl σ1 ne e => absurd e.1 ne)
 · rintro d r σ2 ⟨done, ps, S, h1, h2, S2, h3⟩
   cases ps with
   | nil => cases h2
   | cons p ps =>
    injection h2 with h4 h5
    subst h4 h5
    refine ⟨_, as_tup (asL_cons (as_loc rfl rfl) (asL_cons (as_loc rfl rfl) asL_nil rfl) rfl) rfl, ?_⟩
    have hpl : ps.length < x.length := by
     have := congrArg List.length h1
     simp at this hlen
     omega
    have hdl : done.length < x.length := by
     have := congrArg List.length h1
     simp at this hlen
     omega
    have hSS : SSt x S done.length ((σ2.set "pos" (.int (p.1 : Nat))).set "ch" (.str p.2)) := (S2.set "pos" _ (by decide)).set "ch" _ (by decide)
    have hch : ((σ2.set "pos" (.int (p.1 : Nat))).set "ch" (.str p.2)).get "ch" = some (.str p.2) := St.set_eq
    have hps : ((σ2.set "pos" (.int (p.1 : Nat))).set "ch" (.str p.2)).get "pos" = some (.int (p.1 : Nat)) := sn St.set_eq
    generalize (σ2.set "pos" (.int (p.1 : Nat))).set "ch" (.str p.2) = σ3 at hSS hch hps
    have fin : ∀ {σ4 : St}, SSt x (strip1 x S p) (done.length + 1) σ4 -> ∃ done' ps' S', escs 0 false x = done' ++ ps' ∧ ps.map pairD = ps'.map pairD ∧ SSt x S' done'.length σ4 ∧ ps'.foldl (strip1 x) S' = (escs 0 false x).foldl (strip1 x) ⟨0, none, []⟩ := fun {σ4} h =>
     ⟨done ++ [p], ps, strip1 x S p, by rw [h1]; simp, rfl, by simpa using h, h3⟩
    have lenS := hSS.len
    refine exs_cons (Q1 := fun fl σ4 => fl = .next ∧ SSt x (strip1 x S p) (done.length + 1) σ4) (ex_if (b := p.2 == [34]) (tr_cmp (ev_loc rfl hch) (ev_strL [34] (by decide +kernel)) cmp_eq_str) (fun h => ?_) (fun h => ?_)) (fun σ4 h => exs_nil (fin h.2)) (fun fl σ1 ne e => absurd e.1 ne)
    · have hp : p.2 = [34] := by simpa using h
      refine exs_cons (Q1 := fun fl σ4 => fl = .next ∧ SSt x (strip1 x S p) (done.length + 1) σ4) (ex_if (b := S.opn.isNone) (tr_cmp (ev_loc rfl hSS.opn) ev_none (cmp_is_none fun O μ h v hv => ?_)) (fun h => ?_) (fun h => ?_)) (fun σ4 h => exs_nil h) (fun fl σ1 ne e => absurd e.1 ne)
      · cases ho : S.opn with
        | none => rw [ho] at hv; have hv' : v = .none := hv; rw [hv']; rfl
        | some o => rw [ho] at hv; obtain ⟨t, hv'⟩ := hv; rw [hv']; rfl
      · have ho : S.opn = none := by simpa using h
        have hst : strip1 x S p = { S with opn := some p.1 } := by unfold strip1; rw [if_pos hp, ho]
        rw [hst]
        refine exs_one (ex_asg rfl (ev_loc rfl hps) (as_loc rfl rfl)) (exs_nil ⟨rfl, sn hSS.addr, sn hSS.start, St.set_eq, sn hSS.res, hSS.own, by show S.res.length ≤ _; exact dl1 0 1 0 0 lenS.1 rfl, lenS.2⟩)
      · obtain ⟨o, ho⟩ : ∃ o, S.opn = some o := by
         cases hq : S.opn with
         | none => rw [hq] at h; cases h
         | some o => exact ⟨o, rfl⟩
        have hst : strip1 x S p = ⟨p.1 + 1, none, if S.start ≠ o then S.res ++ [sl x S.start (some o)] else S.res⟩ := by unfold strip1; rw [if_pos hp, ho]
        rw [hst]
        have hopn : σ3.get "open_pos" = some (.int (o : Nat)) := by rw [hSS.opn, ho]; rfl
        refine exs_cons (Q1 := fun fl σ4 => fl = .next ∧ SSt x ⟨S.start, S.opn, if S.start ≠ o then S.res ++ [sl x S.start (some o)] else S.res⟩ (done.length + 1) σ4 ∧ σ4.get "pos" = some (.int (p.1 : Nat))) (ex_if (b := ((S.start : Nat) : Int) != (o : Nat)) (tr_cmp (ev_loc rfl hSS.start) (ev_loc rfl hopn) cmp_ne_int) (fun h => ?_) (fun h => ?_)) (fun σ4 h => ?_) (fun fl σ1 ne e => absurd e.1 ne)
        · have hne : S.start ≠ o := by
           rintro rfl; simp at h
          rw [if_pos hne]
          refine exs_one (ex_append (n := 0) (l := S.res.map .str) (d := .str (sl x S.start (some o))) (ev_loc rfl hSS.res) (by rw [hSS.own]; rfl) (ev_sliceS (ev_loc rfl hSS.addr) (.some (ev_loc rfl hSS.start)) (.some (ev_loc rfl hopn)) (by exact dl1 0 16777216 0 4000 hx rfl)) rfl (by rw [List.length_map]; exact dl3 0 16777216 0 0 1 0 0 4000 lenS.1 hdl hx rfl)) (exs_nil ⟨rfl, ⟨hSS.addr, hSS.start, hSS.opn, hSS.res, ?_, ?_, ?_⟩, hps⟩)
          · show σ3.own.set 0 _ = _
            rw [hSS.own]
            show [_] = _
            rw [List.map_append]; rfl
          · simp; exact lenS.1
          · intro y hy
            rcases List.mem_append.mp hy with hy | hy
            · exact lenS.2 y hy
            · rw [List.mem_singleton.mp hy]; exact sl_le _ _ _
        · have heq : S.start = o := by
           have h' : ((S.start : Nat) : Int) = (o : Nat) := by simpa using h
           exact Int.ofNat.inj h'
          rw [if_neg (by simpa using heq)]
          exact exs_nil ⟨rfl, ⟨hSS.addr, hSS.start, hSS.opn, hSS.res, hSS.own, by show S.res.length ≤ _; exact dl1 0 1 0 0 lenS.1 rfl, lenS.2⟩, hps⟩
        · obtain ⟨_, S4, hp4⟩ := h
          generalize (if S.start ≠ o then S.res ++ [sl x S.start (some o)] else S.res) = rr at S4 ⊢
          refine exs_one (ex_asg (d := .int ((p.1 + 1 : Nat))) rfl (ev_succ (ev_loc rfl hp4)) (as_loc rfl rfl)) ?_
          refine exs_one (ex_asg rfl ev_none (as_loc rfl rfl)) (exs_nil ⟨rfl, sn (sn S4.addr), sn St.set_eq, St.set_eq, sn (sn S4.res), S4.own, S4.len⟩)
    · have hp : p.2 ≠ [34] := by
       intro e; rw [e] at h; exact absurd h (by decide)
      have hst : strip1 x S p = S := by unfold strip1; rw [if_neg hp]
      rw [hst]
      exact exs_nil ⟨rfl, hSS.addr, hSS.start, hSS.opn, hSS.res, hSS.own, by have := lenS.1; exact dl1 0 1 0 0 lenS.1 rfl, lenS.2⟩
 · rintro σ2 ⟨done, ps, S, h1, h2, S2, h3⟩
   have : ps = [] := by
    cases ps with
    | nil => rfl
    | cons _ _ => cases h2
   subst this
   refine ⟨rfl, ?_⟩
   rw [← h3]
   have hl : done.length ≤ x.length := by
    have := congrArg List.length h1
    simp at this hlen
    exact dl2 0 0 0 0 0 0 (Nat.le_of_eq this.symm) hlen rfl
   exact ⟨S2.addr, S2.start, S2.opn, S2.res, S2.own, Nat.le_trans S2.len.1 hl, S2.len.2⟩
 · rintro σ2 ⟨_, S2⟩
   have hres : stripped x = stripEnd x ((escs 0 false x).foldl (strip1 x) ⟨0, none, []⟩) := by unfold stripped; rw [if_pos hc]
   rw [hres]
   generalize (escs 0 false x).foldl (strip1 x) ⟨0, none, []⟩ = S at S2
   have lenS := S2.len
   refine exs_cons (Q1 := fun fl σ3 => fl = .next ∧ σ3.get "result" = some (.h 0) ∧ σ3.own = [(if S.start < x.length then S.res ++ [sl x S.start none] else S.res).map .str]) (ex_if (b := decide (((S.start : Nat) : Int) < (x.length : Nat))) (tr_cmp (ev_loc rfl S2.start) (ev_call (ev_bl rfl (no_len g) (mb_len g)) (.bi _) (evL_cons (ev_loc rfl S2.addr) evL_nil) (len_s (by exact dl1 1 9223372036854775808 0 4000 hx rfl))) cmp_lt_int) (fun h => ?_) (fun h => ?_)) (fun σ3 h => ?_) (fun fl σ1 ne e => absurd e.1 ne)
   · have hlt : S.start < x.length := Int.ofNat_lt.mp (of_decide_eq_true h)
     rw [if_pos hlt]
     refine exs_one (ex_append (n := 0) (l := S.res.map .str) (d := .str (sl x S.start none)) (ev_loc rfl S2.res) (by rw [S2.own]; rfl) (ev_sliceS (ev_loc rfl S2.addr) (.some (ev_loc rfl S2.start)) .none (by exact dl1 0 16777216 0 4000 hx rfl)) rfl (by rw [List.length_map]; exact dl2 0 16777216 0 0 0 4000 lenS.1 hx rfl)) (exs_nil ⟨rfl, S2.res, ?_⟩)
     show σ2.own.set 0 _ = _
     rw [S2.own]
     show [_] = _
     rw [List.map_append]; rfl
   · have hlt : ¬ S.start < x.length := fun q => of_decide_eq_false h (Int.ofNat_lt.mpr q)
     rw [if_neg hlt]
     exact exs_nil ⟨rfl, S2.res, S2.own⟩
   · obtain ⟨_, h1, h2⟩ := h
     refine exs_ret (d := .str (stripEnd x S)) (ev_join (d := .h 0) (l := (if S.start < x.length then S.res ++ [sl x S.start none] else S.res)) (ev_loc rfl h1) (by show σ3.own[0]? = _; rw [h2]; rfl) ?_ rfl) ⟨_, .ret _, rfl⟩
     have hall : ∀ y ∈ (if S.start < x.length then S.res ++ [sl x S.start none] else S.res), y.length ≤ x.length := fun y hy => by
      split at hy
      · rcases List.mem_append.mp hy with hy | hy
        · exact lenS.2 y hy
        · rw [List.mem_singleton.mp hy]; exact sl_le _ _ _
      · exact lenS.2 y hy
     have hl2 : (if S.start < x.length then S.res ++ [sl x S.start none] else S.res).length ≤ x.length + 1 := by
      split
      · simp; exact lenS.1
      · exact dl1 0 1 0 0 lenS.1 rfl
     have h3 := flat_le _ hall
     have h4 : (if S.start < x.length then S.res ++ [sl x S.start none] else S.res).length * x.length ≤ 4001 * 4000 := Nat.mul_le_mul (by exact dl2 0 4001 0 1 0 4000 hl2 hx rfl) hx
     exact Nat.le_trans h3 (Nat.le_trans h4 (by decide))
noncomputable def chk : Int -> List (Nat × List Nat) -> Bool
 | n, [] => n == 0
 | n, p :: r => if p.2 = [40] then chk (n + 1) r else if p.2 = [41] then (if n - 1 < 0 then false else chk (n - 1) r) else chk n r
noncomputable def checked (x : List Nat) : Bool := chk 0 (escs 0 false (stripped x))
end
section
structure CkSt (x : List Nat) (n : Int) (σ : St) : Prop where
 opens : σ.get "opens" = some (.int n)
theorem cal_check {G : Gl} (g : IsG G) {k : Nat} {σ : St} (hk : k < 36) {x : List Nat} (hx : x.length ≤ 4000) (hf : escF false x = false) (hf2 : escF false (stripped x) = false) : Cal G k σ (.ref 42) [.str x] (.bool (checked x)) := by
 refine cal_fn (fn_check_parenthesis g) (by exact dl1 1 40 1 36 hk rfl) rfl rfl ?_ rfl
 refine exs_one (ex_asg rfl (ev_call (ev_glob rfl (mg_strip_quoted_realnames g)) (fn_strip_quoted_realnames g).fk (evL_cons (ev_loc rfl rfl) evL_nil) (cal_strip g (by exact dl1 2 38 1 36 hk rfl) hx hf)) (as_loc rfl rfl)) ?_
 refine exs_one (ex_asg rfl ev_int (as_loc rfl rfl)) ?_
 refine exs_gen (fun σ => σ.get "addr" = some (.str (stripped x)) ∧ σ.get "opens" = some (.int 0)) ⟨rfl, rfl⟩ ?_
 rintro σ1 ⟨A1, O1⟩
 refine exs_cons (Q1 := fun fl σ2 => (fl = .next ∧ ∃ n : Int, σ2.get "opens" = some (.int n) ∧ (n == 0) = checked x) ∨ (fl = .ret (.bool false) ∧ checked x = false)) (ex_forG (evG_iter g (by exact dl1 2 40 1 36 hk rfl) rfl (ev_loc rfl A1) hf2)
  (fun rest σ2 => ∃ ps n, rest = ps.map pairD ∧ σ2.get "opens" = some (.int n) ∧ chk n ps = checked x) ⟨_, 0, rfl, O1, rfl⟩ ?_ ?_) ?_ ?_
 · rintro d r σ2 ⟨ps, n, h2, O2, h3⟩
   cases ps with
   | nil => cases h2
   | cons p ps =>
    injection h2 with h4 h5
    subst h4 h5
    refine ⟨_, as_tup (asL_cons (as_loc rfl rfl) (asL_cons (as_loc rfl rfl) asL_nil rfl) rfl) rfl, ?_⟩
    have hch : ((σ2.set "pos" (.int (p.1 : Nat))).set "ch" (.str p.2)).get "ch" = some (.str p.2) := St.set_eq
    have hop : ((σ2.set "pos" (.int (p.1 : Nat))).set "ch" (.str p.2)).get "opens" = some (.int n) := sn (sn O2)
    generalize (σ2.set "pos" (.int (p.1 : Nat))).set "ch" (.str p.2) = σ3 at hch hop
    refine exs_cons (Q1 := fun fl σ4 => (fl = .next ∧ ∃ n', σ4.get "opens" = some (.int n') ∧ chk n' ps = checked x) ∨ (fl = .ret (.bool false) ∧ checked x = false)) (ex_if (b := p.2 == [40]) (tr_cmp (ev_loc rfl hch) (ev_strL [40] (by decide +kernel)) cmp_eq_str) (fun h => ?_) (fun h => ?_)) (fun σ4 h => ?_) (fun fl σ4 ne h => ?_)
    · have hp : p.2 = [40] := by simpa using h
      refine exs_one (ex_aug (d := .int (n + 1)) rfl hop ev_int in_add_int rfl) (exs_nil (.inl ⟨rfl, n + 1, St.set_eq, ?_⟩))
      rw [← h3]; simp [chk, hp]
    · have hp : p.2 ≠ [40] := by intro e; rw [e] at h; exact absurd h (by decide)
      refine exs_cons (Q1 := fun fl σ4 => (fl = .next ∧ ∃ n', σ4.get "opens" = some (.int n') ∧ chk n' ps = checked x) ∨ (fl = .ret (.bool false) ∧ checked x = false)) (ex_if (b := p.2 == [41]) (tr_cmp (ev_loc rfl hch) (ev_strL [41] (by decide +kernel)) cmp_eq_str) (fun h => ?_) (fun h => ?_)) (fun σ4 h => ?_) (fun fl σ4 ne h => ?_)
      · have hp1 : p.2 = [41] := by simpa using h
        have hc : chk n (p :: ps) = if n - 1 < 0 then false else chk (n - 1) ps := by simp [chk, hp1]
        rw [hc] at h3
        refine exs_one (ex_aug (d := .int (n - 1)) rfl hop ev_int in_sub_int rfl) ?_
        refine exs_cons (Q1 := fun fl σ4 => (fl = .next ∧ ∃ n', σ4.get "opens" = some (.int n') ∧ chk n' ps = checked x) ∨ (fl = .ret (.bool false) ∧ checked x = false)) (ex_if (b := decide (n - 1 < 0)) (tr_cmp (ev_loc rfl St.set_eq) ev_int cmp_lt_int) (fun h => ?_) (fun h => ?_)) (fun σ4 h => ?_) (fun fl σ4 ne h => h)
        · rw [if_pos (of_decide_eq_true h)] at h3
          exact exs_ret ev_bool (.inr ⟨rfl, h3.symm⟩)
        · rw [if_neg (of_decide_eq_false h)] at h3
          exact exs_nil (.inl ⟨rfl, n - 1, St.set_eq, h3⟩)
        · exact exs_nil h
      · have hp1 : p.2 ≠ [41] := by intro e; rw [e] at h; exact absurd h (by decide)
        refine exs_nil (.inl ⟨rfl, n, hop, ?_⟩)
        rw [← h3]; simp [chk, hp, hp1]
      · exact exs_nil h
      · exact h
    · rcases h with ⟨_, n', q1, q2⟩ | h
      · exact exs_nil ⟨ps, n', rfl, q1, q2⟩
      · cases h.1
    · rcases h with h | ⟨h1, h2⟩
      · exact absurd h.1 ne
      · subst h1; exact .inr ⟨rfl, h2⟩
 · rintro σ2 ⟨ps, n, h2, O2, h3⟩
   have : ps = [] := by
    cases ps with
    | nil => rfl
    | cons _ _ => cases h2
   subst this
   exact .inl ⟨rfl, n, O2, h3⟩
 · rintro σ2 (⟨_, n, O2, h3⟩ | h)
   · exact exs_ret (ev_cmp (ev_loc rfl O2) ev_int cmp_eq_int) ⟨_, .ret _, by rw [← h3]; rfl⟩
   · cases h.1
 · rintro fl σ2 ne (h | ⟨h1, h2⟩)
   · exact absurd h.1 ne
   · subst h1; exact ⟨_, .ret _, by rw [h2]; rfl⟩
end
section
noncomputable def sl2 (x : List Nat) (a b : Nat) : List Nat := sl x a (some b)
noncomputable def mulS (n : Int) : List Nat := unS (Txt.mul (toS [41]) n)
noncomputable def slTo (x : List Nat) (b : Nat) : List Nat := unS (Txt.slice (toS x) none (some (b : Int)))
noncomputable def opensOf (bare : List Nat) : List Nat := ((escs 0 false bare).filter fun p => p.2 == [40]).map (·.1)
noncomputable def shutsOf (bare : List Nat) : List Nat := ((escs 0 false bare).filter fun p => p.2 == [41]).map (·.1)
noncomputable def leftOf (opens shuts : List Nat) (node upper : Nat) : Int := ((node : Int) - (upper : Int)) - 1 - ((shuts.filter fun p : Nat => decide (((opens.getD upper 0 : Nat) : Int) < (p : Int)) && decide ((p : Int) < ((opens.getD node 0 : Nat) : Int))).length : Nat)
noncomputable def segOf (bare opens shuts : List Nat) (node upper : Nat) : List Nat := sl2 bare (opens.getD upper 0 + 1) (opens.getD node 0) ++ mulS (leftOf opens shuts node upper)
noncomputable def roadOf (bare opens shuts : List Nat) (node : Nat) : List Nat := ((List.range' 1 (node - 1)).filter fun u => checked (segOf bare opens shuts node u)) ++ [node]
noncomputable def roadsOf (bare opens shuts : List Nat) : List (List Nat) := (List.range opens.length).map (roadOf bare opens shuts)
structure RoadOk (page bare opens shuts : List Nat) (ws : List (List Nat)) : Prop where
 pl : page.length ≤ 1000
 pe : escF false page = false
 sl : (stripped page).length ≤ 1000
 hw : Txt.words (toS (stripped page)) = ws.map toS
 hz : (Builtin.Str.spaceWords (toS (stripped page)) ((toS (stripped page)).length + 1)).length ≤ sizeLine
 hb : bare = ws.flatten
 bl : bare.length ≤ 1000
 be : escF false bare = false
 ho : opens = opensOf bare
 hs : shuts = shutsOf bare
 few : 1 ≤ opens.length ∧ opens.length ≤ 6 ∧ shuts.length ≤ 6
 lt : ∀ p ∈ opens, p ≤ 1000
 pre : ∀ p ∈ opens, (slTo bare p).length ≤ 1000 ∧ escF false (slTo bare p) = false ∧ escF false (stripped (slTo bare p)) = false
 first : opens.map (fun p => checked (slTo bare p)) = true :: List.replicate (opens.length - 1) false
 seg : ∀ node upper, node < opens.length -> 1 ≤ upper -> upper < node -> escF false (segOf bare opens shuts node upper) = false ∧ escF false (stripped (segOf bare opens shuts node upper)) = false
theorem mul1_ok : ∀ n : Int, -20 ≤ n -> n ≤ 20 -> MulOk (toS [41]) n := by
 intro n h1 h2
 refine ⟨?_, fun h3 h4 => ?_, fun h3 h4 => ?_⟩
 · simp only [Bool.or_eq_false_iff, decide_eq_false_iff_not]
   constructor <;> omega
 · have h5 : (toS [41]).length = 1 := rfl
   rw [h5]
   have h6 : (1 : Int) * n ≤ 2 ^ 63 - 1 := by omega
   have h7 := Int.le_ediv_of_mul_le (a := 1) (b := 2 ^ 63 - 1) (c := n) (by omega) h6
   omega
 · have h5 : (toS [41]).length = 1 := rfl
   rw [h5]
   unfold Builtin.Str.tooLong
   rw [sizeLine_eq]
   simp
   omega
theorem mulS_len (n : Int) (h1 : -20 ≤ n) (h2 : n ≤ 20) : (mulS n).length ≤ 20 := by
 have : ∀ m : _root_.Fin 41, (mulS ((m.val : Int) - 20)).length ≤ 20 := by decide +kernel
 obtain ⟨m, rfl⟩ := t20 h1 h2
 exact this m
theorem esc_clean (x : List Nat) : D.cleanL (escD x) = true := cleanL_map pairD (fun _ => rfl) _
theorem nats_clean (l : List Nat) : D.cleanL (l.map fun n => D.int (n : Nat)) = true := cleanL_map (fun n : Nat => D.int (n : Nat)) (fun _ => rfl) _
noncomputable def rdD (r : List Nat) : D := .lst (r.map fun n => .int (n : Nat))
structure RSt (bare opens shuts : List Nat) (rs : List (List Nat)) (more : List (List D)) (σ : St) : Prop where
 bare : σ.get "bare" = some (.str bare)
 opens : σ.get "opens" = some (.lst (opens.map fun n => .int (n : Nat)))
 shuts : σ.get "shuts" = some (.lst (shuts.map fun n => .int (n : Nat)))
 roads : σ.get "roads" = some (.h 0)
 own : σ.own = (rs.map rdD) :: more
theorem RSt.set {bare opens shuts : List Nat} {rs : List (List Nat)} {more : List (List D)} {σ : St} (h : RSt bare opens shuts rs more σ) (x : Str) (d : D) (hx : "bare" ≠ x ∧ "opens" ≠ x ∧ "shuts" ≠ x ∧ "roads" ≠ x) : RSt bare opens shuts rs more (σ.set x d) :=
 ⟨(St.set_ne hx.1).trans h.bare, (St.set_ne hx.2.1).trans h.opens, (St.set_ne hx.2.2.1).trans h.shuts, (St.set_ne hx.2.2.2).trans h.roads, h.own⟩
theorem getD_at {l : List Nat} {i : Nat} (h : i < l.length) : (l.map fun n => D.int (n : Nat))[i]? = some (.int ((l.getD i 0 : Nat))) := by
 rw [List.getElem?_map, List.getElem?_eq_getElem h, List.getD_eq_getElem?_getD, List.getElem?_eq_getElem h]; rfl
theorem set_last {α : Type} (b : List α) (x y : α) : (b ++ [x]).set b.length y = b ++ [y] := by
 rw [List.set_append_right _ _ (Nat.le_refl _), Nat.sub_self]; rfl
noncomputable def RV (bare opens shuts : List Nat) (node L : Nat) (σ : St) : Prop := σ.get "bare" = some (.str bare) ∧ σ.get "opens" = some (.lst (opens.map fun n => .int (n : Nat))) ∧ σ.get "shuts" = some (.lst (shuts.map fun n => .int (n : Nat))) ∧ σ.get "roads" = some (.h 0) ∧ σ.get "node" = some (.int (node : Nat)) ∧ σ.get "road" = some (.h L)
set_option maxHeartbeats 4000000 in
theorem cal_roads {G : Gl} (g : IsG G) {k : Nat} {σ : St} (hk : k < 30) {page bare opens shuts : List Nat} {ws : List (List Nat)} (H : RoadOk page bare opens shuts ws) :
 Cal G k σ (.ref 200) [.str page] (.lst ((roadsOf bare opens shuts).map fun r => .lst (r.map fun n => .int (n : Nat)))) := by
 have hcl : D.cleanL ((roadsOf bare opens shuts).map fun r => D.lst (r.map fun n => D.int (n : Nat))) = true := cleanL_map (fun r : List Nat => D.lst (r.map fun n => D.int (n : Nat))) (fun r => nats_clean r) _
 refine cal_fn (fn_law_roads g) (by exact dl1 1 40 1 30 hk rfl) rfl rfl ?_ hcl
 have hpl := H.pl
 have hsl := H.sl
 have hbl := H.bl
 have hfew := H.few
 have hel := escs_len bare 0 false
 simp only [Bool.false_eq_true, if_false, Nat.add_zero] at hel
 refine exs_one (ex_asg (d := .str bare) rfl (by
  rw [H.hb]
  exact ev_join (d := .bor (ws.map .str)) (l := ws) (ev_meth (ev_call (ev_glob rfl (mg_strip_quoted_realnames g)) (fn_strip_quoted_realnames g).fk (evL_cons (ev_loc rfl rfl) evL_nil) (cal_strip g (by exact dl1 2 38 1 30 hk rfl) (by exact dl1 0 4000 0 1000 hpl rfl) H.pe)) evL_nil F.plainAttrs_str F.slot_str_split F.type_str_split ty_str (m_split (by exact dl1 0 16777216 0 1000 hsl rfl) H.hw H.hz)) rfl (by rw [← H.hb]; exact dl1 0 16777216 0 1000 hbl rfl) rfl) (as_cell rfl rfl)) ?_
 refine exs_one (ex_asg (d := .lst (escD bare)) rfl (evN_listG (ev_bl rfl (no_list g) (mb_list g)) (evG_iter g (by exact dl1 3 40 1 30 hk rfl) rfl (ev_cell rfl rfl) H.be) (esc_clean bare) (by simp [escD]; exact dl2 0 16777216 0 0 0 1000 hel hbl rfl) (by exact dl1 2 39 1 30 hk rfl)).ev (as_loc rfl (D.clean_firm (d := .lst _) (esc_clean bare)))) ?_
 refine exs_one (ex_compC (fr := false) (l := opens.map fun n => .int (n : Nat)) (comp_isF (escs 0 false bare) pairD (fun p => [("sign", .str p.2), ("place", .int (p.1 : Nat))]) (fun p => p.2 == [40]) (fun p => .int (p.1 : Nat)) (ow := true)
  (evIt_seq (d := .lst (escD bare)) (ev_loc rfl rfl) rfl (esc_clean bare) (fun h => nomatch h)) (.inl rfl) (by rw [H.ho, opensOf, List.map_map]; rfl) rfl (.skip rfl (.skip rfl (.skip rfl .nil))) .nil (fun _ _ => rfl) (by exact dl2 0 16777216 0 0 0 1000 hel hbl rfl) (fun _ _ => .two _ _ _ _ _ _ _ _ rfl rfl)
  (fun p _ => .inr ⟨_, rfl, tr_cmp (ev_loc rfl rfl) (ev_strL [40] (by decide +kernel)) cmp_eq_str⟩) (fun p _ _ => ⟨rfl, ev_loc rfl rfl⟩)) (nats_clean opens) rfl (as_cell rfl (D.clean_firm (d := .lst _) (nats_clean opens)))) ?_
 refine exs_one (ex_swap (fr := false) (l := shuts.map fun n => .int (n : Nat)) (comp_isF (escs 0 false bare) pairD (fun p => [("sign", .str p.2), ("place", .int (p.1 : Nat))]) (fun p => p.2 == [41]) (fun p => .int (p.1 : Nat)) (ow := true)
  (evIt_seq (d := .lst (escD bare)) (ev_loc rfl rfl) rfl (esc_clean bare) (fun h => nomatch h)) (.inl rfl) (by rw [H.hs, shutsOf, List.map_map]; rfl) rfl (.skip rfl (.skip rfl (.skip rfl .nil))) .nil (fun _ _ => rfl) (by exact dl2 0 16777216 0 0 0 1000 hel hbl rfl) (fun _ _ => .two _ _ _ _ _ _ _ _ rfl rfl)
  (fun p _ => .inr ⟨_, rfl, tr_cmp (ev_loc rfl rfl) (ev_strL [41] (by decide +kernel)) cmp_eq_str⟩) (fun p _ _ => ⟨rfl, ev_loc rfl rfl⟩)) (nats_clean shuts) rfl rfl rfl rfl (as_loc rfl (D.clean_firm (d := .lst _) (nats_clean shuts)))) ?_
 refine exs_gen (fun σ => σ.get "bare" = some (.str bare) ∧ σ.get "opens" = some (.lst (opens.map fun n => .int (n : Nat))) ∧ σ.get "shuts" = some (.lst (shuts.map fun n => .int (n : Nat))) ∧ σ.own = []) ⟨rfl, rfl, rfl, rfl⟩ ?_
 rintro σ1 ⟨B1, O1, S1, W1⟩
 have lenO : ∀ {σ' : St} {p q r : Pos}, σ'.get "opens" = some (.lst (opens.map fun n => .int (n : Nat))) -> Ev G (fdAt G.w.params 200).scope (k + 1) σ' (.Call (.Name "len" p) [.Name "opens" q] [] r) (.int (opens.length : Nat)) := fun {σ' p q r} h => by
  have := ev_call (p := r) (ev_bl (G := G) (sc := (fdAt G.w.params 200).scope) (k := k + 1) (σ := σ') (x := "len") (p := p) rfl (no_len g) (mb_len g)) (.bi _) (evL_cons (ev_cell (x := "opens") (p := q) rfl h) evL_nil) (len_l (l := opens.map fun n => D.int (n : Nat)) rfl (by rw [List.length_map]; exact dl1 1 9223372036854775808 0 6 hfew.2.1 rfl))
  rw [List.length_map] at this
  exact this
 refine exs_one (ex_if (b := false) (tr_cmp (d1 := .lst ((opens.map fun p => checked (slTo bare p)).map .bool)) (d2 := .lst ([.bool true] ++ (List.replicate ((opens.length : Int) - 1).toNat [D.bool false]).flatten)) ?_ ?_ (cmp_ne_same (f := D.bool) (l := true :: List.replicate (opens.length - 1) false) (by rw [H.first]; rfl) ?_ (fun _ => rfl) (fun _ => rfl) (fun _ => Nat.zero_le _))) (fun h => nomatch h) (fun _ => exs_nil ⟨rfl, rfl⟩)) ?_
 · refine (evN_comp (fr := false) (comp_mapF opens (fun p => .int (p : Nat)) (fun p => [("place", .int (p : Nat))]) (fun p => .bool (checked (slTo bare p))) (ow := true) (evIt_seq (d := .lst (opens.map fun n => .int (n : Nat))) (ev_cell rfl O1) rfl (nats_clean opens) (fun h => nomatch h)) (.inl rfl) (by rw [List.map_map]; rfl) rfl (.skip rfl (.skip rfl (.skip rfl (.free B1 rfl .nil)))) (.cons rfl .nil) (fun _ _ => rfl) (by exact dl1 0 16777216 0 6 hfew.2.1 rfl) (fun _ _ => .loc _ _ _ rfl) (fun p hp => ⟨rfl, ?_⟩)) (cleanL_map D.bool (fun _ => rfl) _)).ev
   have hp' := H.pre p hp
   exact ev_call (ev_glob rfl (mg_check_parenthesis g)) (fn_check_parenthesis g).fk (evL_cons (ev_sliceS (ev_cell rfl rfl) .none (.some (ev_loc rfl rfl)) (by exact dl1 0 16777216 0 1000 hbl rfl)) evL_nil) (cal_check (x := slTo bare p) g (by exact dl1 2 36 1 30 hk rfl) (by exact dl1 0 4000 0 1000 hp'.1 rfl) hp'.2.1 hp'.2.2)
 · refine (evN_bin (evN_list (evL_cons ev_bool evL_nil) (by show 1 ≤ 16777216; decide)).ev (evN_bin (evN_list (evL_cons ev_bool evL_nil) (by show 1 ≤ 16777216; decide)).ev (ev_bin (lenO O1) ev_int bin_sub_int) (bin_mul_list rfl (m63 hfew.2.1).1 (m63 hfew.2.1).2 (by exact len1 hfew.2.1))).ev (bin_add_list rfl rfl ?_)).ev
   have : (List.replicate ((opens.length : Int) - 1).toNat [D.bool false]).flatten.length = ((opens.length : Int) - 1).toNat := by simp
   rw [this]
   exact Nat.le_trans (Nat.add_le_add_left (Nat.le_trans (Nat.le_of_eq tn1) (Nat.le_trans (Nat.sub_le _ 1) hfew.2.1)) 1) (by decide)
 · have e2 : ∀ n : Nat, (List.replicate n [D.bool false]).flatten = List.replicate n (D.bool false) := fun n => by
    induction n with
    | zero => rfl
    | succ n ih => rw [List.replicate_succ, List.flatten_cons, ih]; rfl
   show some ([D.bool true] ++ _) = some _
   rw [e2, show ((opens.length : Int) - 1).toNat = opens.length - 1 from tn1]
   simp
 refine exs_one (ex_own (l := []) rfl (evN_list evL_nil (by decide)) rfl (as_loc rfl rfl)) ?_
 refine exs_gen (fun σ => RSt bare opens shuts [] [] σ) ⟨sn B1, sn O1, sn S1, ?_, ?_⟩ ?_
 · show (St.set _ "roads" (.h σ1.own.length)).get "roads" = _
   rw [W1]; exact St.set_eq
 · show σ1.own ++ [[]] = _
   rw [W1]; rfl
 clear B1 O1 S1 W1
 intro σ2 R2
 refine exs_cons (Q1 := fun fl σ3 => fl = .next ∧ ∃ more, RSt bare opens shuts (roadsOf bare opens shuts) more σ3) (ex_forR0 (b := opens.length) (evIt_range1 (n := opens.length) (ev_bl rfl (no_range g) (mb_range g)) (lenO R2.opens) (by exact dl1 0 1000000000 0 6 hfew.2.1 rfl)) (fun _ _ => rfl) (fun j σ3 => ∃ more, RSt bare opens shuts ((List.range j).map (roadOf bare opens shuts)) more σ3) ⟨_, R2⟩ ?_ (fun σ3 h => ⟨rfl, h⟩)) ?_ (fun fl σ1 ne e => absurd e.1 ne)
 · rintro node σ3 hnode ⟨more, R3⟩
   refine ⟨_, as_cell rfl rfl, ?_⟩
   refine exs_gen (fun σ => RSt bare opens shuts ((List.range node).map (roadOf bare opens shuts)) more σ ∧ σ.get "node" = some (.int (node : Nat))) ⟨R3.set "node" _ (by decide), St.set_eq⟩ ?_
   clear R3
   rintro σ4 ⟨R4, N4⟩
   refine exs_one (ex_own (l := []) rfl (evN_list evL_nil (by decide)) rfl (as_loc rfl rfl)) ?_
   generalize hbase : (((List.range node).map (roadOf bare opens shuts)).map rdD) :: more = base at *
   have hb0 : base[0]? = some (((List.range node).map (roadOf bare opens shuts)).map rdD) := by rw [← hbase]; rfl
   refine exs_gen (fun σ => RV bare opens shuts node base.length σ ∧ σ.own = base ++ [([] : List Nat).map fun n => .int (n : Nat)]) ⟨⟨sn R4.bare, sn R4.opens, sn R4.shuts, sn R4.roads, sn N4, ?_⟩, ?_⟩ ?_
   · show (St.set _ "road" (.h σ4.own.length)).get "road" = _
     rw [R4.own, hbase]; exact St.set_eq
   · show σ4.own ++ [[]] = _
     rw [R4.own, hbase]; rfl
   clear R4 N4
   rintro σ5 ⟨V5, W5⟩
   refine exs_cons (Q1 := fun fl σ6 => fl = .next ∧ RV bare opens shuts node base.length σ6 ∧ σ6.own = base ++ [((List.range' 1 (node - 1)).filter fun u => checked (segOf bare opens shuts node u)).map fun n => .int (n : Nat)])
    (ex_forL (xs := List.range' 1 (node - 1)) (f := fun j => .int (j : Nat)) (ow := false) (evIt_range2 (a := 1) (b := node) (ev_bl rfl (no_range g) (mb_range g)) ev_int (ev_cell rfl V5.2.2.2.2.1) (by exact Nat.le_of_ble_eq_true rfl) (by exact dl2 0 1000000000 1 0 0 6 hnode hfew.2.1 rfl)) (.inr fun _ _ => rfl)
    (fun i σ6 => RV bare opens shuts node base.length σ6 ∧ σ6.own = base ++ [(((List.range' 1 (node - 1)).take i).filter fun u => checked (segOf bare opens shuts node u)).map fun n => .int (n : Nat)]) ⟨V5, W5⟩ ?_ ?_) ?_ (fun fl σ1 ne e => absurd e.1 ne)
   · rintro i upper σ6 hi ⟨⟨q1, q2, q3, q4, q5, q6⟩, W6⟩
     have hup : 1 ≤ upper ∧ upper < node := by
      have := List.mem_of_getElem? hi
      rw [List.mem_range'_1] at this
      exact up1 this
     refine ⟨_, as_cell rfl rfl, ?_⟩
     generalize hacc : ((List.range' 1 (node - 1)).take i).filter (fun u => checked (segOf bare opens shuts node u)) = acc at W6
     refine exs_gen (fun σ => RV bare opens shuts node base.length σ ∧ σ.own = base ++ [acc.map fun n => D.int (n : Nat)] ∧ σ.get "upper" = some (.int (upper : Nat))) ⟨⟨sn q1, sn q2, sn q3, sn q4, sn q5, sn q6⟩, W6, St.set_eq⟩ ?_
     clear q1 q2 q3 q4 q5 q6 W6
     rintro σ7 ⟨⟨q1, q2, q3, q4, q5, q6⟩, W7, U7⟩
     have hlO := H.lt
     have hou : opens.getD upper 0 ≤ 1000 := by
      rw [List.getD_eq_getElem?_getD, List.getElem?_eq_getElem (by exact dl2 1 0 1 0 1 0 hup.2 hnode rfl)]
      exact hlO _ (List.getElem_mem _)
     have hon : opens.getD node 0 ≤ 1000 := by
      rw [List.getD_eq_getElem?_getD, List.getElem?_eq_getElem (by exact hnode)]
      exact hlO _ (List.getElem_mem _)
     refine exs_one (ex_asg (d := .int (leftOf opens shuts node upper)) rfl (ev_bin (ev_bin (ev_bin (ev_cell rfl q5) (ev_cell rfl U7) bin_sub_int) ev_int bin_sub_int) (ev_call (ev_bl rfl (no_len g) (mb_len g)) (.bi _) (evL_cons (evN_comp (fr := false) (l := (shuts.filter fun p : Nat => decide (((opens.getD upper 0 : Nat) : Int) < (p : Int)) && decide ((p : Int) < ((opens.getD node 0 : Nat) : Int))).map fun n => .int (n : Nat))
      (comp_isF shuts (fun p => .int (p : Nat)) (fun p => [("place", .int (p : Nat))]) (fun p : Nat => decide (((opens.getD upper 0 : Nat) : Int) < (p : Int)) && decide ((p : Int) < ((opens.getD node 0 : Nat) : Int))) (fun p => .int (p : Nat)) (ow := true) (evIt_seq (d := .lst (shuts.map fun n => .int (n : Nat))) (ev_loc rfl q3) rfl (nats_clean shuts) (fun h => nomatch h)) (.inl rfl) rfl rfl (.skip rfl (.skip rfl (.free q5 rfl (.free q2 rfl (.free U7 rfl .nil))))) (.cons rfl (.cons (D.clean_noh (d := .lst _) (nats_clean opens)) (.cons rfl .nil))) (fun _ _ => rfl) (by exact dl1 0 16777216 0 6 hfew.2.2 rfl) (fun _ _ => .loc _ _ _ rfl)
       (fun p _ => .inr ⟨_, rfl, tr_lt3 (ev_item (l := opens.map fun n => .int (n : Nat)) (i := (upper : Nat)) (ev_cell rfl rfl) (ev_cell rfl rfl) rfl (by rw [pyAt_nat, getD_at (by exact dl2 1 0 1 0 1 0 hup.2 hnode rfl)]) ⟨by exact i63n, by exact i63 (dl3 1 9223372036854775808 1 0 1 0 0 6 hup.2 hnode hfew.2.1 rfl)⟩) (ev_loc rfl rfl) (ev_item (l := opens.map fun n => .int (n : Nat)) (i := (node : Nat)) (ev_cell rfl rfl) (ev_cell rfl rfl) rfl (by rw [pyAt_nat, getD_at (by exact hnode)]) ⟨by exact i63n, by exact i63 (dl2 1 9223372036854775808 1 0 0 6 hnode hfew.2.1 rfl)⟩)⟩) (fun p _ _ => ⟨rfl, ev_loc rfl rfl⟩)) (nats_clean _)).ev evL_nil) (by
        have hl := len_l (G := G) (k := k + 1) (σ := σ7) (d := .lst ((shuts.filter fun p : Nat => decide (((opens.getD upper 0 : Nat) : Int) < (p : Int)) && decide ((p : Int) < ((opens.getD node 0 : Nat) : Int))).map fun n => D.int (n : Nat))) rfl (by
         have := List.length_filter_le (fun p : Nat => decide (((opens.getD upper 0 : Nat) : Int) < (p : Int)) && decide ((p : Int) < ((opens.getD node 0 : Nat) : Int))) shuts
         rw [List.length_map]; exact dl2 1 9223372036854775808 0 0 0 6 this hfew.2.2 rfl)
        rw [List.length_map] at hl
        exact hl)) bin_sub_int) (as_loc rfl rfl)) ?_
     refine exs_gen (fun σ => RV bare opens shuts node base.length σ ∧ σ.own = base ++ [acc.map fun n => D.int (n : Nat)] ∧ σ.get "upper" = some (.int (upper : Nat)) ∧ σ.get "left" = some (.int (leftOf opens shuts node upper))) ⟨⟨sn q1, sn q2, sn q3, sn q4, sn q5, sn q6⟩, W7, sn U7, St.set_eq⟩ ?_
     clear q1 q2 q3 q4 q5 q6 W7 U7
     rintro σ8 ⟨⟨q1, q2, q3, q4, q5, q6⟩, W8, U8, L8⟩
     have hsf := List.length_filter_le (fun p : Nat => decide (((opens.getD upper 0 : Nat) : Int) < (p : Int)) && decide ((p : Int) < ((opens.getD node 0 : Nat) : Int))) shuts
     have hleft : -20 ≤ leftOf opens shuts node upper ∧ leftOf opens shuts node upper ≤ 20 := by unfold leftOf; exact left20 hup.2 (Nat.le_trans (Nat.le_of_lt hnode) hfew.2.1) (Nat.le_trans hsf hfew.2.2)
     have hml := mulS_len _ hleft.1 hleft.2
     have hs2 := sl_le bare (opens.getD upper 0 + 1) (some (opens.getD node 0))
     have hsg := H.seg node upper hnode hup.1 hup.2
     have htake : ((List.range' 1 (node - 1)).take (i + 1)).filter (fun u => checked (segOf bare opens shuts node u)) = acc ++ if checked (segOf bare opens shuts node upper) then [upper] else [] := by
      rw [List.take_add_one, hi, List.filter_append, hacc]
      congr 1
      cases hc : checked (segOf bare opens shuts node upper) <;> simp [hc]
     have hal : acc.length ≤ 10 := by
      have := List.length_filter_le (fun u => checked (segOf bare opens shuts node u)) ((List.range' 1 (node - 1)).take i)
      rw [hacc, List.length_take, List.length_range'] at this
      exact Nat.le_trans this (Nat.le_trans (Nat.min_le_right _ _) (Nat.le_trans (Nat.sub_le _ _) (Nat.le_trans (Nat.le_of_lt hnode) (Nat.le_trans hfew.2.1 (by decide)))))
     refine exs_cons (Q1 := fun fl σ9 => fl = .next ∧ RV bare opens shuts node base.length σ9 ∧ σ9.own = base ++ [(acc ++ if checked (segOf bare opens shuts node upper) then [upper] else []).map fun n => .int (n : Nat)])
      (ex_if (b := checked (segOf bare opens shuts node upper)) (tr_bool (ev_call (ev_glob rfl (mg_check_parenthesis g)) (fn_check_parenthesis g).fk (evL_cons (ev_bin (d := .str (segOf bare opens shuts node upper)) (ev_sliceS (i := some ((opens.getD upper 0 + 1 : Nat) : Int)) (j := some ((opens.getD node 0 : Nat) : Int)) (ev_cell rfl q1) (.some (ev_succ (ev_item (l := opens.map fun n => .int (n : Nat)) (i := (upper : Nat)) (ev_cell rfl q2) (ev_cell rfl U8) rfl (by rw [pyAt_nat, getD_at (by exact dl2 1 0 1 0 1 0 hup.2 hnode rfl)]) ⟨by exact i63n, by exact i63 (dl3 1 9223372036854775808 1 0 1 0 0 6 hup.2 hnode hfew.2.1 rfl)⟩))) (.some (ev_item (l := opens.map fun n => .int (n : Nat)) (i := (node : Nat)) (ev_cell rfl q2) (ev_cell rfl q5) rfl (by rw [pyAt_nat, getD_at (by exact hnode)]) ⟨by exact i63n, by exact i63 (dl2 1 9223372036854775808 1 0 0 6 hnode hfew.2.1 rfl)⟩)) (by exact dl1 0 16777216 0 1000 hbl rfl))
       (ev_bin (ev_strL [41] (by decide +kernel)) (ev_loc rfl L8) (bin_mul_str (mul1_ok _ hleft.1 hleft.2))) (bin_add_str ?_)) evL_nil) (cal_check g (by exact dl1 2 36 1 30 hk rfl) ?_ hsg.1 hsg.2))) (fun h => ?_) (fun h => ?_)) (fun σ9 h => exs_nil ⟨h.2.1, by rw [htake]; exact h.2.2⟩) (fun fl σ1 ne e => absurd e.1 ne)
     · have : (sl2 bare (opens.getD upper 0 + 1) (opens.getD node 0)).length + (mulS (leftOf opens shuts node upper)).length ≤ 16777216 := Nat.le_trans (Nat.add_le_add (Nat.le_trans hs2 hbl) hml) (by decide)
       exact this
     · unfold segOf sl2; rw [List.length_append]; exact Nat.le_trans (Nat.add_le_add (Nat.le_trans hs2 hbl) hml) (by decide)
     · rw [h]
       refine exs_one (ex_append (n := base.length) (l := acc.map fun n => .int (n : Nat)) (ev_loc rfl q6) (by rw [W8]; simp) (ev_cell rfl U8) rfl (by rw [List.length_map]; exact dl1 0 16777216 0 10 hal rfl)) (exs_nil ⟨rfl, ⟨q1, q2, q3, q4, q5, q6⟩, ?_⟩)
       show σ8.own.set base.length _ = _
       rw [W8, set_last]
       simp
     · rw [h]
       exact exs_nil ⟨rfl, ⟨q1, q2, q3, q4, q5, q6⟩, by rw [W8]; simp⟩
   · rintro σ6 ⟨q, W6⟩
     refine ⟨rfl, q, ?_⟩
     rw [W6, List.take_length]
   · rintro σ6 ⟨_, ⟨q1, q2, q3, q4, q5, q6⟩, W6⟩
     have hrl : ((List.range' 1 (node - 1)).filter fun u => checked (segOf bare opens shuts node u)).length ≤ 10 := by
      have := List.length_filter_le (fun u => checked (segOf bare opens shuts node u)) (List.range' 1 (node - 1))
      rw [List.length_range'] at this
      exact Nat.le_trans this (Nat.le_trans (Nat.sub_le _ _) (Nat.le_trans (Nat.le_of_lt hnode) (Nat.le_trans hfew.2.1 (by decide))))
     have hrd : rdD (roadOf bare opens shuts node) = .lst ((((List.range' 1 (node - 1)).filter fun u => checked (segOf bare opens shuts node u)).map fun n => D.int (n : Nat)) ++ [.int (node : Nat)]) := by
      unfold rdD roadOf
      rw [List.map_append]; rfl
     refine exs_one (ex_append (n := 0) (l := ((List.range node).map (roadOf bare opens shuts)).map rdD) (d := rdD (roadOf bare opens shuts node)) (ev_loc rfl q4) (by
      rw [W6, List.getElem?_append_left (by rw [← hbase]; simp)]; exact hb0) (by
      rw [hrd]
      exact (evN_bin (ev_loc rfl q6) (evN_list (evL_cons (ev_cell rfl q5) evL_nil) (by show 1 ≤ 16777216; decide)).ev (bin_add_list (by show σ6.own[base.length]? = _; rw [W6]; simp) rfl (by rw [List.length_map]; show _ + 1 ≤ _; exact dl1 1 16777216 0 10 hrl rfl))).ev) (D.clean_firm (d := .lst _) (nats_clean _)) (by simp; exact dl2 0 16777216 1 0 0 6 hnode hfew.2.1 rfl)) (exs_nil ⟨more ++ [((List.range' 1 (node - 1)).filter fun u => checked (segOf bare opens shuts node u)).map fun n => .int (n : Nat)], q1, q2, q3, q4, ?_⟩)
     show σ6.own.set 0 _ = _
     rw [W6, ← hbase, List.range_succ, List.map_append, List.map_append]
     rfl
 · rintro σ3 ⟨_, more, R3⟩
   refine exs_ret (ev_loc rfl R3.roads) ⟨_, .ret _, ?_⟩
   show (match σ3.own[0]? with | some l => D.lst (l.map (frz σ3.own 2)) | none => D.h 0) = _
   rw [R3.own]
   show D.lst (((roadsOf bare opens shuts).map rdD).map (frz _ 2)) = _
   rw [List.map_map]
   rfl
end
section
structure Wd where
 X : Type
 Wr : Addr -> Prop
 Fx : Addr -> Prop
 Φ : X -> Heap -> Prop
 ex : ∀ {ξ : X} {h : Heap} {b : Addr}, Φ ξ h -> Wr b -> ∃ o, h.get? b = some o
 fx : ∀ {ξ : X} {h : Heap} {b : Addr}, Φ ξ h -> Fx b -> ¬ Wr b ∧ ∃ o, h.get? b = some o
 keep : ∀ {ξ : X} {h h' : Heap}, Φ ξ h -> (∀ b o, Wr b ∨ Fx b -> h.get? b = some o -> h'.get? b = some o) -> Φ ξ h'
noncomputable def noG : Nat -> Prop := fun _ => False
structure XC (G : Gl) (W : Wd) (c : Cx) : Prop where
 top : ∀ h : Heap, (∀ a o, c.base a o -> h.get? a = some o) -> TopG G h
 old : ∀ a, c.O a -> ∃ o, c.base a o
 wr : ∀ b, W.Wr b -> ∀ o, ¬ c.base b o
 fx : ∀ b, W.Fx b -> ∃ o, c.base b o
 fm : c.fm = true
noncomputable abbrev Wd.cx (W : Wd) (c : Cx) (s : Shared) : Cx := c.plus W.Wr W.Wr noG s
structure XJ (G : Gl) (W : Wd) (c : Cx) (μ : List Addr) (σ : St) (ξ : W.X) (s : Shared) : Prop where
 r : R G (W.cx c s) μ σ s
 φ : W.Φ ξ s.heap
section
variable {G : Gl} {W : Wd} {sc : Scope} {k : Nat} {σ : St} {c : Cx} {μ : List Addr} {s s' : Shared} {ξ : W.X}
theorem XJ.after {s0 : Shared} (X : XC G W c) (r : R G (W.cx c s0) μ σ s) (ch : Chg W.Wr noG s s') (φ : W.Φ ξ s'.heap) : XJ G W c μ σ ξ s' := by
 refine ⟨r.move (r.firm X.fm) rfl rfl (fun a o n _ m => n m) (fun b o h e => ch.heap b o (fun w => h (.inr w)) e) (ch.os.trans r.os) ch.toks (ch.bare r.bare) (fun g x h => ?_) (fun a o h => ?_) (fun h hb => X.top h fun a o e => hb a o (.inl e)) (fun a h => ?_) (fun a h => ⟨(r.mine a h).1, fun o ho => ?_⟩) rfl X.fm, φ⟩
 · rcases h with h | h
   · exact ch.gens g x (fun q => q) (r.gens g x (.inl h))
   · exact h.1.elim
 · rcases h with h | h
   · exact ch.heap a o (fun hw => X.wr a hw o h) (r.base a o (.inl h))
   · exact h.2
 · rcases h with h | h
   · obtain ⟨o, ho⟩ := X.old a h; exact ⟨o, .inl ho⟩
   · obtain ⟨o, ho⟩ := W.ex φ h; exact ⟨o, .inr ⟨h, ho⟩⟩
 · rcases ho with ho | ho
   · exact (r.mine a h).2 o (.inl ho)
   · exact (r.mine a h).1 (.inr ho.1)
theorem XJ.chg {ξ' : W.X} (X : XC G W c) (J : XJ G W c μ σ ξ s) (ch : Chg W.Wr noG s s') (φ : W.Φ ξ' s'.heap) : XJ G W c μ σ ξ' s' := .after X J.r ch φ
theorem XJ.kp (X : XC G W c) (J : XJ G W c μ σ ξ s) (kp : Kp s s') : XJ G W c μ σ ξ s' := .after X J.r (Chg.of_kp kp) (W.keep J.φ fun b o _ e => kp.heap b o e)
theorem XJ.go {μ' : List Addr} {σ' : St} (X : XC G W c) (J : XJ G W c μ σ ξ s) (r : R G (W.cx c s) μ' σ' s') : XJ G W c μ' σ' ξ s' := by
 refine .after X r (Chg.refl _ _ _) (W.keep J.φ fun b o hb e => ?_)
 rcases hb with hb | hb
 · exact r.base b o (.inr ⟨hb, e⟩)
 · obtain ⟨o', ho'⟩ := X.fx b hb
   have e1 := J.r.base b o' (.inl ho')
   rw [e] at e1; cases e1
   exact r.base b o (.inl ho')
noncomputable def XPost (G : Gl) (W : Wd) (c : Cx) (Q : Fl -> W.X -> St -> Prop) (f : Flow) (s' : Shared) : Prop := ∃ fl ξ' σ' μ', Q fl ξ' σ' ∧ XJ G W c μ' σ' ξ' s' ∧ FlowIs ((W.cx c s').all μ') μ' s'.heap fl f
noncomputable def xEx (G : Gl) (W : Wd) (sc : Scope) (k : Nat) (ξ : W.X) (σ : St) (st : Stmt) (Q : Fl -> W.X -> St -> Prop) : Prop :=
 ∀ c μ A s, c.env.scope = sc -> XC G W c -> Aok k A -> XJ G W c μ σ ξ s -> wpAny (model G.prog G.w) A (exec st c.env) (XPost G W c Q) (fun _ _ => False) s
noncomputable def xExs (G : Gl) (W : Wd) (sc : Scope) (k : Nat) (ξ : W.X) (σ : St) (ss : List Stmt) (Q : Fl -> W.X -> St -> Prop) : Prop :=
 ∀ c μ A s, c.env.scope = sc -> XC G W c -> Aok k A -> XJ G W c μ σ ξ s -> wpAny (model G.prog G.w) A (execs ss c.env) (XPost G W c Q) (fun _ _ => False) s
noncomputable def xTr (G : Gl) (W : Wd) (sc : Scope) (k : Nat) (ξ : W.X) (σ : St) (e : Expr) (b : Bool) : Prop :=
 ∀ c μ A s, c.env.scope = sc -> XC G W c -> Aok k A -> XJ G W c μ σ ξ s -> wpAny (model G.prog G.w) A (isTrue e c.env (eval e c.env)) (fun v s' => Kp s s' ∧ v = b) (fun _ _ => False) s
noncomputable def xEv (G : Gl) (W : Wd) (sc : Scope) (k : Nat) (ξ : W.X) (σ : St) (e : Expr) (d : D) (ξ' : W.X) : Prop :=
 ∀ c μ A s, c.env.scope = sc -> XC G W c -> Aok k A -> XJ G W c μ σ ξ s -> wpAny (model G.prog G.w) A (eval e c.env) (fun v s' => Chg W.Wr noG s s' ∧ W.Φ ξ' s'.heap ∧ Holds ((W.cx c s').all μ) μ s'.heap d v) (fun _ _ => False) s
theorem x_of {st : Stmt} {Q : Fl -> St -> Prop} (h : Ex G sc k σ st Q) : xEx G W sc k ξ σ st fun fl ξ' σ' => ξ' = ξ ∧ Q fl σ' := fun c μ A s hc X hA J =>
 wpAny_mono (h (W.cx c s) μ A s hc X.fm hA J.r) (fun f s1 hp => by obtain ⟨fl, σ1, μ1, q, r1, hf⟩ := hp; exact ⟨fl, ξ, σ1, μ1, ⟨rfl, q⟩, J.go X r1, hf⟩) fun _ _ f => f
theorem xTr_of {e : Expr} {b : Bool} (h : Tr G sc k σ e b) : xTr G W sc k ξ σ e b := fun c μ A s hc X hA J => h (W.cx c s) μ A s hc hA J.r
theorem xs_nil {Q : Fl -> W.X -> St -> Prop} (h : Q .next ξ σ) : xExs G W sc k ξ σ [] Q := fun _ μ _ _ _ _ _ J => wpAny_execs_nil ⟨.next, ξ, σ, μ, h, J, rfl⟩
theorem xs_cons {st : Stmt} {ss : List Stmt} {Q Q1 : Fl -> W.X -> St -> Prop} (h : xEx G W sc k ξ σ st Q1) (hn : ∀ ξ1 σ1, Q1 .next ξ1 σ1 -> xExs G W sc k ξ1 σ1 ss Q) (ho : ∀ fl ξ1 σ1, fl ≠ .next -> Q1 fl ξ1 σ1 -> Q fl ξ1 σ1) : xExs G W sc k ξ σ (st :: ss) Q := by
 intro c μ A s hc X hA J
 refine wpAny_execs_cons (wpAny_mono (h c μ A s hc X hA J) (fun f s1 hq => ?_) fun _ _ f => f)
 obtain ⟨fl, ξ1, σ1, μ1, q, J1, hf⟩ := hq
 cases fl with
 | next => cases hf; exact hn ξ1 σ1 q c μ1 A s1 hc X hA J1
 | brk => cases hf; exact ⟨.brk, ξ1, σ1, μ1, ho _ _ _ (by nofun) q, J1, rfl⟩
 | cont => cases hf; exact ⟨.cont, ξ1, σ1, μ1, ho _ _ _ (by nofun) q, J1, rfl⟩
 | ret d => obtain ⟨hd, v, rfl, hv⟩ := hf; exact ⟨.ret d, ξ1, σ1, μ1, ho _ _ _ (by nofun) q, J1, hd, v, rfl, hv⟩
theorem xs_one {st : Stmt} {ss : List Stmt} {Q : Fl -> W.X -> St -> Prop} {ξ1 : W.X} {σ1 : St} (h : xEx G W sc k ξ σ st fun fl ξ' σ' => fl = .next ∧ ξ' = ξ1 ∧ σ' = σ1) (hn : xExs G W sc k ξ1 σ1 ss Q) : xExs G W sc k ξ σ (st :: ss) Q :=
 xs_cons h (fun _ _ e => by rw [e.2.1, e.2.2]; exact hn) fun _ _ _ q e => absurd e.1 q
theorem xs_plain {st : Stmt} {ss : List Stmt} {Q : Fl -> W.X -> St -> Prop} {σ1 : St} (h : Ex1 G sc k σ st σ1) (hn : xExs G W sc k ξ σ1 ss Q) : xExs G W sc k ξ σ (st :: ss) Q :=
 xs_cons (x_of h) (fun _ _ e => by rw [e.1, e.2.2]; exact hn) fun _ _ _ q e => absurd e.2.1 q
theorem xs_ret {e : Expr} {p : Pos} {d : D} {ss : List Stmt} {Q : Fl -> W.X -> St -> Prop} (h : Ev G sc k σ e d) (hq : Q (.ret d) ξ σ) (hd : autoParam (d.firm = true) ir) : xExs G W sc k ξ σ (.Return (some e) p :: ss) Q :=
 xs_cons (x_of (Q := fun fl σ1 => fl = .ret d ∧ σ1 = σ) (ex_ret h ⟨rfl, rfl⟩ hd)) (fun _ _ x => nomatch x.2.1) fun _ _ _ _ x => by rw [x.1, x.2.1, x.2.2]; exact hq
theorem xs_cont {p : Pos} {ss : List Stmt} {Q : Fl -> W.X -> St -> Prop} (hq : Q .cont ξ σ) : xExs G W sc k ξ σ (.Continue p :: ss) Q :=
 xs_cons (x_of (Q := fun fl σ1 => fl = .cont ∧ σ1 = σ) (ex_cont ⟨rfl, rfl⟩)) (fun _ _ x => nomatch x.2.1) fun _ _ _ _ x => by rw [x.1, x.2.1, x.2.2]; exact hq
theorem x_if {t : Expr} {b : Bool} {ss es : List Stmt} {p : Pos} {Q : Fl -> W.X -> St -> Prop} (ht : xTr G W sc k ξ σ t b) (h1 : b = true -> xExs G W sc k ξ σ ss Q) (h0 : b = false -> xExs G W sc k ξ σ es Q) : xEx G W sc k ξ σ (.If t ss es p) Q := by
 intro c μ A s hc X hA J
 refine wpAny_If (wpAny_mono (ht c μ A s hc X hA J) (fun v s1 hq => ?_) fun _ _ f => f)
 obtain ⟨k1, x1⟩ := hq
 subst x1
 cases v with
 | true => exact h1 rfl c μ A s1 hc X hA (J.kp X k1)
 | false => exact h0 rfl c μ A s1 hc X hA (J.kp X k1)
theorem x_asg {t e : Expr} {x : Str} {p p' : Pos} {d : D} {σ' : St} {ξ' : W.X} (ht : t = .Name x p') (he : xEv G W sc k ξ σ e d ξ') (ha : As G sc k t d σ σ') (hs : autoParam (∀ env, swapsWith e (some t) p.line env = pure false) ir) :
 xEx G W sc k ξ σ (.Assign [t] e p) fun fl ξ1 σ1 => fl = .next ∧ ξ1 = ξ' ∧ σ1 = σ' := by
 subst ht
 intro c μ A s hc X hA J
 have hx : exec (.Assign [.Name x p'] e p) c.env = (do
  standAt p
  let v ← eval e c.env
  assign (.Name x p') c.env v
  pure .next) := exec_Assign_Name c.env x p' e p (hs c.env)
 rw [hx]
 refine wpAny_bind (wpAny_standAt (wpAny_bind (wpAny_mono (he c μ A s hc X hA J) (fun v s1 hq => ?_) fun _ _ f => f)))
 obtain ⟨ch, φ, x1⟩ := hq
 have J1 : XJ G W c μ σ ξ' s1 := J.chg X ch φ
 exact wpAny_bind (wpAny_mono (ha (W.cx c s1) μ A s1 v hc X.fm hA J1.r x1) (fun _ s2 hp => by obtain ⟨r2, _⟩ := hp; exact wpAny_pure ⟨.next, ξ', σ', μ, ⟨rfl, rfl, rfl⟩, J1.go X r2, rfl⟩) fun _ _ f => f)
noncomputable def XNext (G : Gl) (W : Wd) (k : Nat) (it : Value) (ξ : W.X) (d : Option D) (ξ' : W.X) : Prop :=
 ∀ c μ σ A s, XC G W c -> Aok k A -> XJ G W c μ σ ξ s -> wpAny (model G.prog G.w) A (pyNext it) (fun r s' => Chg W.Wr noG s s' ∧ W.Φ ξ' s'.heap ∧ match d, r with
  | none, none => True
  | some d, some v => Holds ((W.cx c s').all μ) μ s'.heap d v ∧ noOwn it v s'
  | _, _ => False) (fun _ _ => False) s
set_option tactic.hygienic true in
theorem x_for {tgt iter : Expr} {body : List Stmt} {p : Pos} {it : Value} {Q : Fl -> W.X -> St -> Prop} (hit : Ev G sc k σ iter (.val it)) (Inv : Nat -> W.X -> St -> Prop) {n0 : Nat} (h0 : Inv n0 ξ σ)
 (hself : ∀ c μ A σ ξ s (Q' : Value -> Shared -> Prop), XC G W c -> Aok k A -> XJ G W c μ σ ξ s -> Q' it s -> wpAny (model G.prog G.w) A (pyIter it) Q' (fun _ _ => False) s)
 (turn : ∀ n ξ1 σ1, Inv n ξ1 σ1 -> (∃ ξ2, XNext G W k it ξ1 none ξ2 ∧ Q .next ξ2 σ1) ∨
  ∃ d ξ2 σ2, XNext G W k it ξ1 (some d) ξ2 ∧ As G sc k tgt d σ1 σ2 ∧ xExs G W sc k ξ2 σ2 body (fun fl ξ3 σ3 => match fl with | .next => ∃ m, m < n ∧ Inv m ξ3 σ3 | .cont => ∃ m, m < n ∧ Inv m ξ3 σ3 | .brk => Q .next ξ3 σ3 | .ret d => Q (.ret d) ξ3 σ3))
 (hs : autoParam (∀ env x, foldedSetIterable iter env x = pure x) ir) : xEx G W sc k ξ σ (.For tgt iter body [] p) Q := by
 intro c μ A s hc X hA J
 refine wpAny_For (wpAny_mono (hit (W.cx c s) μ A s hc hA J.r) (fun x s2 h2 => ?_) fun _ _ f => f) (hs _)
 obtain ⟨k2, hx⟩ := h2
 have hx' : x = it := hx
 subst hx'
 have J2 := J.kp X k2
 refine hself c μ A σ ξ s2 _ X hA J2 ?_
 let I : Nat -> Shared -> Prop := fun n s' => ∃ ξ1 σ1 μ1, Inv n ξ1 σ1 ∧ XJ G W c μ1 σ1 ξ1 s'
 refine codeAny_forLoop_any I (fun n s' hq => ?_) n0 ⟨ξ, σ, μ, h0, J2⟩
 obtain ⟨ξ1, σ1, μ1, hI, J1⟩ := hq
 rcases turn n ξ1 σ1 hI with ⟨ξ2, hN, hQ⟩ | ⟨d, ξ2, σ2, hN, hAs, hEx⟩
 · refine wpAny_mono (hN c μ1 σ1 A s' X hA J1) (fun rr s'' hq => ?_) fun _ _ f => f.elim
   obtain ⟨ch, φ, hr⟩ := hq
   cases rr with
   | some v => exact hr.elim
   | none => exact wpAny_execs_nil ⟨.next, ξ2, σ1, μ1, hQ, J1.chg X ch φ, rfl⟩
 · refine wpAny_mono (hN c μ1 σ1 A s' X hA J1) (fun rr s'' hq => ?_) fun _ _ f => f.elim
   obtain ⟨ch, φ, hr⟩ := hq
   cases rr with
   | none => exact hr.elim
   | some v =>
    obtain ⟨hv, hown⟩ := hr
    have J3 : XJ G W c μ1 σ1 ξ2 s'' := J1.chg X ch φ
    have rest3 : wpAny (model G.prog G.w) A (assign tgt c.env v) (fun _ s₂ => wpAny (model G.prog G.w) A (execs body c.env) (fun f s₃ => match f with
     | .next | .cont => ∃ m, m < n ∧ I m s₃
     | .brk => XPost G W c Q .next s₃
     | .ret v => XPost G W c Q (.ret v) s₃) (fun _ _ => False) s₂) (fun _ _ => False) s'' := by
     refine wpAny_mono (hAs (W.cx c s'') μ1 A s'' v hc X.fm hA J3.r hv) (fun _ s3 hq => ?_) fun _ _ f => f
     obtain ⟨r3, p3⟩ := hq
     refine wpAny_mono (hEx c μ1 A s3 hc X hA (J3.go X r3)) (fun f s4 hq => ?_) fun _ _ f => f
     obtain ⟨fl, ξ4, σ4, μ4, hQ, J4, hf⟩ := hq
     cases fl with
     | next => cases hf; obtain ⟨m, hm, hi⟩ := hQ; exact ⟨m, hm, ξ4, σ4, μ4, hi, J4⟩
     | cont => cases hf; obtain ⟨m, hm, hi⟩ := hQ; exact ⟨m, hm, ξ4, σ4, μ4, hi, J4⟩
     | brk => cases hf; exact ⟨.next, ξ4, σ4, μ4, hQ, J4, rfl⟩
     | ret dd => obtain ⟨hd, u, rfl, hu⟩ := hf; exact ⟨.ret dd, ξ4, σ4, μ4, hQ, J4, hd, u, rfl, hu⟩
    have fin3 := wpAny_mono rest3 (fun _ _ x => wpAny_mono x (fun _ _ y => y) (fun e s' f => (f.elim : notedBy (model G.prog G.w) A c.env (fun e s' => cameBackBy (model G.prog G.w) A c.env (fun _ _ => False) e s') e s'))) (fun e s' f => (f.elim : notedBy (model G.prog G.w) A c.env (fun e s' => cameBackBy (model G.prog G.w) A c.env (fun _ _ => False) e s') e s'))
    exact hown tgt fin3
end
end
section
noncomputable def D.flat : D -> Bool
 | .none => true
 | .bool _ => true
 | .int _ => true
 | .str _ => true
 | .val _ => true
 | _ => false
theorem Holds.flat {O O' : Addr -> Prop} {μ μ' : List Addr} {h h' : Heap} {d : D} {v : Value} (hd : d.flat = true) (x : Holds O μ h d v) : Holds O' μ' h' d v := by
 cases d <;> first | exact x | cases hd
theorem flat_clean {d : D} (hd : d.flat = true) : d.clean = true := by cases d <;> first | rfl | cases hd
noncomputable def HV (d : D) (v : Value) : Prop := Holds (fun _ => False) [] { objs := #[] } d v
theorem HV.holds {O : Addr -> Prop} {μ : List Addr} {h : Heap} {d : D} {v : Value} (hd : d.flat = true) (x : HV d v) : Holds O μ h d v := Holds.flat hd x
theorem HoldsL.flat {O O' : Addr -> Prop} {μ μ' : List Addr} {h h' : Heap} : ∀ {ds : List D} {vs : List Value}, (∀ d ∈ ds, d.flat = true) -> HoldsL O μ h ds vs -> HoldsL O' μ' h' ds vs
 | [], [], _, _ => trivial
 | _ :: _, _ :: _, hf, ⟨x, y⟩ => ⟨Holds.flat (hf _ (.head _)) x, HoldsL.flat (fun d hd => hf d (.tail _ hd)) y⟩
 | [], _ :: _, _, e => e
 | _ :: _, [], _, e => e
section
variable {G : Gl} {W : Wd} {k : Nat}
noncomputable def xCal (G : Gl) (W : Wd) (k : Nat) (f : Value) (vs : List Value) (ξ : W.X) (d : D) (ξ' : W.X) : Prop :=
 ∀ A s, Aok k A -> 0 < s.toks -> AllBare s.gens -> (∀ h : Heap, (∀ b o, ¬ W.Wr b -> s.heap.get? b = some o -> h.get? b = some o) -> TopG G h) -> W.Φ ξ s.heap ->
  wpAny (model G.prog G.w) A (call f vs) (fun v s' => Chg W.Wr noG s s' ∧ W.Φ ξ' s'.heap ∧ HV d v) (fun _ _ => False) s
theorem wp_chg {α : Type} {M : Model} {A : Around} {t : Sem α} {P : α -> Shared -> Prop} {E : Value -> Shared -> Prop} {s : Shared} {wr : Addr -> Prop} {gp : Nat -> Prop}
 (h : wpAny M A t (fun v s' => ((∀ b o, ¬ wr b -> s.heap.get? b = some o -> s'.heap.get? b = some o) ∧ s'.os = s.os ∧ (AllBare s.gens -> AllBare s'.gens) ∧ ∀ g x, ¬ gp g -> s.gens[g]? = some x -> s'.gens[g]? = some x) ∧ P v s') E s) : wpAny M A t (fun v s' => Chg wr gp s s' ∧ P v s') E s :=
 wpAny_mono (wpAny_toks_of (Nat.le_refl s.toks) h) (fun _ _ x => ⟨⟨x.2.1.1, x.2.1.2.1, x.2.1.2.2.1, x.2.1.2.2.2, x.1⟩, x.2.2⟩) fun _ _ x => x.2
noncomputable def xCode (G : Gl) (W : Wd) (k : Nat) (f : Value) (vs : List Value) (ξ : W.X) (d : D) (ξ' : W.X) : Prop :=
 ∀ A s, Aok k A -> 0 < s.toks -> AllBare s.gens -> (∀ h : Heap, (∀ b o, ¬ W.Wr b -> s.heap.get? b = some o -> h.get? b = some o) -> TopG G h) -> W.Φ ξ s.heap ->
  codeAny (model G.prog G.w) A (.call f ⟨vs, []⟩) (fun r s' => match r with | .ok (.ret v) => Chg W.Wr noG s s' ∧ W.Φ ξ' s'.heap ∧ HV d v | .ok _ => False | .error _ => False) s
theorem xCode.cal {f : Value} {vs : List Value} {ξ ξ' : W.X} {d : D} (h : xCode G W k f vs ξ d ξ') : xCal G W k f vs ξ d ξ' := fun A s hA h1 h2 h3 h4 => wpAny_call (h A s hA h1 h2 h3 h4)
theorem xcode_fn {a : Addr} {fd : FuncData} {body : List Stmt} {xs : List Str} {ds : List D} {d : D} {ξ ξ' : W.X} {vs : List Value} (F : Fn G a fd body xs) (hk : k < 40) (hlen : ds.length = xs.length) (hflat : ∀ d ∈ ds, d.flat = true)
 (hv0 : HoldsL (fun _ => False) [] { objs := #[] } ds vs)
 (hex : xExs G W fd.scope (k + 1) ξ ⟨xs.zip ds, []⟩ body (fun fl ξ1 σ' => ξ1 = ξ' ∧ RetIs fl d)) (hd : d.flat = true) : xCode G W k (.ref a) vs ξ d ξ' := by
 intro A s hA htok hbare htop hφ
 have htopg : TopG G s.heap := htop _ fun _ _ _ e => e
 obtain ⟨o, ho, hdata⟩ := F.at_
 have hok := F.ok
 simp only [fnOk, Bool.and_eq_true, decide_eq_true_eq] at hok
 obtain ⟨⟨hnf, hpar⟩, hnd⟩ := hok
 have hvl : vs.length = xs.length := by rw [← hv0.length, hlen]
 have hclean : D.cleanL ds = true := cleanL_iff.mpr fun d h => flat_clean (hflat d h)
 refine codeAny_call_function hA.room (htopg.k _ _ ho) hdata F.co F.gen F.body (codeRec_of htopg.k F.code) ?_
 rw [F.bind vs hvl, F.clo]
 have zipk : ∀ (l : List Value), ∀ x ∈ xs.zip l, x.1 ∈ xs := fun l x hx => (List.of_mem_zip hx).1
 refine wpAny_pure (wpAny_mono (wpAny_toks_of (Nat.le_refl s.toks) (wpAny_newFunctionEnv_cells (Q := fun env s' => env = newEnv fd.scope s.heap.objs.size fd.globals (cellsFrom (s.heap.objs.size + 1) fd.scope.names []) (fd.qualname ++ ".<locals>.") (some a) fd.code none fd.builtins ∧
  InCallC s env.locals (bindL env.kindOf (xs.zip vs) fun _ => none) env.cells (bindC env.kindOf (xs.zip vs) fun _ => none) s') (E := fun _ _ => False) F.kind (fun x hx => ?_) fun env he s' X => ⟨he, X⟩)) (fun env s1 ⟨htk, he, X⟩ => ?_) fun _ _ f => f.2.elim)
 · have := List.all_eq_true.mp hpar _ (zipk vs x hx)
   rcases Bool.or_eq_true_iff.mp this with q | q
   · exact .inl (by simpa using q)
   · have q' : fd.scope.names.lookup x.1 = some .cell := by simpa using q
     exact .inr ⟨q', Mine.cellsFrom_some _ _ _ _ (.inl (mem_of_lookup q'))⟩
 have hloc : env.locals = s.heap.objs.size := by rw [he]; rfl
 have hsc : env.scope = fd.scope := by rw [he]; rfl
 refine ⟨htopg.nolimit.keeps X.toInCall.keep, codeAny_func ?_⟩
 let c' : Cx := { env := env, O := fun _ => False, base := fun b o => ¬ W.Wr b ∧ s.heap.get? b = some o, gb := fun g x => s.gens[g]? = some x, os := s.os, mutc := env.cells.filterMap fun y => env.cells.lookup y.1, fm := true }
 have mutge : ∀ b, c'.mut [] b -> s.heap.objs.size ≤ b := fun b hb => by
  rcases hb with hb | hb | hb
  · cases hb
  · rw [hb, ← hloc]; exact Nat.le_refl _
  · obtain ⟨y, _, hy⟩ := List.mem_filterMap.mp hb
    exact Nat.le_of_lt (hloc ▸ X.above _ _ (mem_of_lookup hy))
 have new : ∀ b, c'.mut [] b -> s.heap.get? b = none := fun b hb => by
  cases e : s.heap.get? b with
  | none => rfl
  | some o => exact absurd (Heap.lt_size e) (Nat.not_lt.mpr (mutge b hb))
 obtain ⟨h1, tk1, hs1⟩ := X.toInCall.same
 have sos : s1.os = s.os := by rw [hs1]
 have sgens : s1.gens = s.gens := by rw [hs1]
 have hv1 : HoldsL ((W.cx c' s1).all []) [] s1.heap ds vs := hv0.flat hflat
 have hcl1 : ∀ d' ∈ ds, d'.firm = true := fun d' h => D.clean_firm (cleanL_iff.mp hclean d' h)
 have φ1 : W.Φ ξ s1.heap := W.keep hφ fun b o _ e => X.toInCall.keep b o e
 have XX : XC G W c' := ⟨fun h hb => htop h fun b o n e => hb b o ⟨n, e⟩, fun a h => h.elim, fun b hb o ho => ho.1 hb, fun b hb => (by obtain ⟨n, o, e⟩ := W.fx hφ hb; exact ⟨o, n, e⟩), rfl⟩
 have r1 : R G (W.cx c' s1) [] ⟨xs.zip ds, []⟩ s1 := by
  refine ⟨sos, Nat.lt_of_lt_of_le htok htk, by rw [sgens]; exact hbare, fun g x e => by
   rcases e with e | e
   · rw [sgens]; exact e
   · exact e.2, fun b o e => by
   rcases e with e | e
   · exact X.toInCall.keep b o e.2
   · exact e.2, fun h hh => XX.top h fun a o e => hh a o (.inl e), fun b hb => by
   rcases hb with hb | hb
   · exact hb.elim
   · obtain ⟨o, e⟩ := W.ex φ1 hb; exact ⟨o, .inr ⟨hb, e⟩⟩, rfl, List.nodup_nil, fun b hb => ⟨fun q => ?_, fun o q => ?_⟩, ?_, ?_, (fun n items e => by cases e), ?_, ?_, ?_, fun _ => X.apart, ?_, fun _ => ⟨fun x d' e => ?_, fun n l e => by cases e⟩, fun _ x hx => ?_, fun _ x hx => ?_⟩
  · rcases q with q | q
    · exact q.elim
    · obtain ⟨o, ho⟩ := W.ex hφ q
      rw [new b hb] at ho; cases ho
  · rcases q with q | q
    · have q2 : s.heap.get? b = some o := (show ¬ W.Wr b ∧ s.heap.get? b = some o from q).2
      rw [new b hb] at q2; cases q2
    · obtain ⟨o, ho⟩ := W.ex hφ q.1
      rw [new b hb] at ho; cases ho
  · refine ⟨_, X.toInCall.ns, fun x d' e hkx => ?_⟩
    obtain ⟨_, _, v, q1, q2, _⟩ := bind_args (kd := env.kindOf) xs ds vs (fun _ => none) (fun _ => none) hnd hv1 hlen.symm e
    exact ⟨v, q2 hkx, q1⟩
  · intro x d' e hkx
    obtain ⟨_, _, v, q1, _, q3⟩ := bind_args (kd := env.kindOf) xs ds vs (fun _ => none) (fun _ => none) hnd hv1 hlen.symm e
    have hkc : env.kindOf x = some .cell := by
     rcases hkx with h | h
     · exact h
     · have : env.scope.names.lookup x = some .free := h
       rw [hsc] at this
       exact absurd this (lookup_notfree hnf)
    have hmem : (x, NameKind.cell) ∈ fd.scope.names := by
     have : env.scope.names.lookup x = some .cell := hkc
     rw [hsc] at this
     exact mem_of_lookup this
    have := Mine.cellsFrom_some fd.scope.names (s.heap.objs.size + 1) [] x (.inl hmem)
    obtain ⟨ca, hca⟩ := Option.isSome_iff_exists.mp this
    have hca' : env.cells.lookup x = some ca := by rw [he]; exact hca
    refine ⟨ca, v, hca', ?_, q1⟩
    have := X.cell x ca hca'
    rwa [q3 (by rw [hkc]; simp)] at this
  · show env.scope.kind = _; rw [hsc]; exact F.kind
  · show env.globals = _; rw [he]; exact F.glob
  · show env.builtins = _; rw [he]; exact F.blt
  · intro b hb
    obtain ⟨y, _, hy⟩ := List.mem_filterMap.mp hb
    exact ⟨_, X.cell _ _ hy⟩
  · obtain ⟨_, q2, _⟩ := bind_args (kd := env.kindOf) xs ds vs (fun _ => none) (fun _ => none) hnd hv1 hlen.symm e
    exact hcl1 d' q2
  · have hmem : (x, NameKind.cell) ∈ fd.scope.names := by
     have : env.scope.names.lookup x = some .cell := hx
     rw [hsc] at this
     exact mem_of_lookup this
    have := Mine.cellsFrom_some fd.scope.names (s.heap.objs.size + 1) [] x (.inl hmem)
    obtain ⟨ca, hca⟩ := Option.isSome_iff_exists.mp this
    have hca' : env.cells.lookup x = some ca := by rw [he]; exact hca
    exact ⟨ca, hca', List.mem_filterMap.mpr ⟨_, mem_of_lookup hca', hca'⟩⟩
  · have : env.scope.names.lookup x = some .free := hx
    rw [hsc] at this
    exact lookup_notfree hnf this
 have hA' : Aok (k + 1) (A.deeper env) := hA.deep hk
 refine wpAny_mono (wpAny_toks_of htk (hex c' [] _ s1 hsc XX hA' ⟨r1, φ1⟩)) (fun f s2 hq => ?_) fun _ _ f => f.2.elim
 obtain ⟨htk2, fl, ξ2, σ', μ', ⟨hξ, hr⟩, J2, hf⟩ := hq
 subst hξ
 have kp : Chg W.Wr noG s s2 := ⟨fun b o n e => J2.r.base b o (.inl ⟨n, e⟩), J2.r.os, fun _ => J2.r.bare, fun g x _ e => J2.r.gens g x (.inl e), htk2⟩
 cases hr with
 | ret d' =>
  obtain ⟨_, v, rfl, hv'⟩ := hf
  exact ⟨kp, J2.φ, Holds.flat hd hv'⟩
 | next =>
  cases hf
  exact ⟨kp, J2.φ, rfl⟩
end
end
section
noncomputable def InstD (h : Heap) (x dx C : Addr) (mA : Str -> Option Value) : Prop := ∃ o, h.get? x = some o ∧ o.cls = .ref C ∧ (∀ c, o.data ≠ .cls c) ∧ o.dict = some dx ∧ dx ≠ x ∧ h.Ns1 dx mA
theorem InstD.inst {h : Heap} {x dx C : Addr} {mA : Str -> Option Value} (I : InstD h x dx C mA) : h.Inst x C mA :=
 (by obtain ⟨o, e, c, n, d, ne, ns⟩ := I; exact ⟨o, e, c, n, .inr ⟨dx, d, ne, ns⟩⟩)
theorem InstD.keep {h h' : Heap} {x dx C : Addr} {mA : Str -> Option Value} (I : InstD h x dx C mA) (k1 : ∀ o, h.get? x = some o -> h'.get? x = some o) (k2 : ∀ o, h.get? dx = some o -> h'.get? dx = some o) : InstD h' x dx C mA :=
 (by obtain ⟨o, e, c, n, d, ne, ns⟩ := I; exact ⟨o, k1 o e, c, n, d, ne, ns.at k2⟩)
theorem InstD.at_ {h : Heap} {x dx C : Addr} {mA : Str -> Option Value} (I : InstD h x dx C mA) : (∃ o, h.get? x = some o) ∧ ∃ o, h.get? dx = some o :=
 (by obtain ⟨o, e, c, n, d, ne, ⟨o', _, _, e', _⟩⟩ := I; exact ⟨⟨o, e⟩, o', e'⟩)
theorem InstD.congr {h : Heap} {x dx C : Addr} {mA mB : Str -> Option Value} (I : InstD h x dx C mA) (e : ∀ y, mA y = mB y) : InstD h x dx C mB := by
 have : mA = mB := funext e
 rw [← this]; exact I
theorem lookIn_of_ns {o : Obj} {es : Array DictEntry} {ep : Nat} {name : Str} (hd : o.data = .dict es ep) (hs : StrKeys es) (hn : nsFind es name = none) : lookIn name o = some none := by
 unfold lookIn
 rw [hd]
 have h1 : es.toList.find? (fun e => e.key.isStr name) = none := by
  unfold nsFind findBy at hn
  rw [Option.map_eq_none_iff] at hn
  rw [Array.find?_toList]; exact hn
 have h2 : es.toList.any (·.refKey) = false := by
  rw [List.any_eq_false]
  intro e he
  obtain ⟨n, t, hk⟩ := hs e (Array.mem_toList_iff.mp he)
  unfold DictEntry.refKey
  rw [hk]; simp
 dsimp only
 rw [h1, h2]; rfl
section
variable {prog : Program} {w : World} {A : Around} {E : Value -> Shared -> Prop} {s : Shared}
theorem wp_Call_meth {o : Expr} {name : Str} {apos pos : Pos} {args : List Expr} {env : Env} {Q : Value -> Shared -> Prop}
 (h : wpAny (model prog w) A (eval o env) (fun ov s₁ => ∀ pl, wpAny (model prog w) A (getMethod ov name pl) (fun p s₂ => wpAny (model prog w) A (callWith pos p.1 p.2 (backTo pos (starEach args env)) []) Q E s₂) E s₁) E s)
 (hbase : attributeBase o name env (eval o env) = eval o env)
 (hfew : ((backTo pos (starEach args env)).all (fun x => !x.1) && (backToKw pos (keywordEach [] env)).all (fun x => x.1.isSome)
  && decide (args.length + ([] : List Keyword).length + (if ([] : List Keyword).isEmpty then 0 else 1) < 30)) = true)
 (hline : (apos.endLine == pos.line) = true) :
 wpAny (model prog w) A (eval (.Call (.Attribute o name apos) args [] pos) env) Q E s := by
 rw [arm_eval_Call, hbase]
 refine wpAny_bind (wpAny_mono h (fun ov s₁ h₁ => ?_) fun _ _ e => e)
 refine wpAny_bind (wpAny_standAt ?_)
 have hform : methodCallForm (args.length + ([] : List Keyword).length) (backTo pos (starEach args env)) (backToKw pos (keywordEach [] env)) = true := hfew
 have hpos : methodCallPos true o env apos pos = pure pos := by unfold methodCallPos; simp [hline]
 unfold methodCall
 rw [hform]
 refine wpAny_bind (wpAny_holding (wpAny_mono (h₁ _) (fun p s₂ h₂ => ?_) fun _ _ e => e))
 exact wpAny_bind (wpAny_of_eq hpos h₂)
end
section
variable {prog : Program} {w : World} {A : Around} {E : Value -> Shared -> Prop} {h : Heap} {g : Array GenState} {d : Drawn} {t : Nat} {os : OsState} {C N x dx : Addr} {mN mA : Str -> Option Value} {name : Str}
theorem meth_own {pl : Sem Bool} {v : Value} {Q : Value × List Value -> Shared -> Prop} (X : ClsAt h C N mN) (hng : mN "__getattribute__" = none) (hnh : mN "__getattr__" = none)
 (hf : mN name = none) (hB : typeLookup (.type "object") name = pure none) (I : InstD h x dx C mA) (hsh : mA name = some v) (hh : handedOut v = pure v) (hq : Q (v, []) ⟨h, g, d, t + 1, os⟩) :
 wpAny (model prog w) A (getMethod (.ref x) name pl) Q E ⟨h, g, d, t, os⟩ := by
 obtain ⟨nm, q, bs, sn, sub, col, dd, k0, k1, k2, k3, k5, hC⟩ := X.obj
 have hn := X.ns
 obtain ⟨o, hx, hc, hnc, hd, hne, hns⟩ := id I
 have hcan := F.canon_object_ga
 unfold getMethod specialOf
 repeat (first | (with_reducible refine wpAny_loadPart_at hx ?_; rw [hc]) | (with_reducible refine wpAny_typeLookup_exc hC hn F.mro_object F.lk_object_ga ?_; rw [hng]) | (with_reducible refine wpAny_typeLookup_exc hC hn F.mro_object F.lk_object_getattr ?_; rw [hnh]) | (with_reducible refine wpAny_typeLookup_exc hC hn F.mro_object hB ?_; rw [hf]) | simp only [hcan, Bool.false_eq_true, if_false] | (with_reducible refine load_attr hC hn hng hf hB I.inst hsh hh ?_) | wp_step)
 exact hq
theorem meth_cls {pl : Sem Bool} {f : Addr} {of : Obj} {y : Option Value} {Q : Value × List Value -> Shared -> Prop} (X : ClsAt h C N mN) (hng : mN "__getattribute__" = none) (hnh : mN "__getattr__" = none)
 (hf : mN name = some (.ref f)) (hfo : h.get? f = some of) (hfc : of.cls = .type "function") (hB : typeLookup (.type "object") name = pure y) (I : InstD h x dx C mA) (hsh : mA name = none) (hq : Q (.ref f, [.ref x]) ⟨h, g, d, t, os⟩) :
 wpAny (model prog w) A (getMethod (.ref x) name pl) Q E ⟨h, g, d, t, os⟩ := by
 obtain ⟨nm, q, bs, sn, sub, col, dd, k0, k1, k2, k3, k5, hC⟩ := X.obj
 exact method_of hC X.ns hng hnh hf hfo hfc hB I.inst hsh hq
theorem attr_own {v : Value} {expr : Bool} {Q : Value -> Shared -> Prop} (X : ClsAt h C N mN) (hng : mN "__getattribute__" = none) (hf : mN name = none) (hB : typeLookup (.type "object") name = pure none) (I : InstD h x dx C mA) (hsh : mA name = some v) (hh : handedOut v = pure v) (hq : Q v ⟨h, g, d, t + 1, os⟩) :
 wpAny (model prog w) A (getAttr (.ref x) name expr) Q E ⟨h, g, d, t, os⟩ := by
 obtain ⟨nm, q, bs, sn, sub, col, dd, k0, k1, k2, k3, k5, hC⟩ := X.obj
 exact load_attr hC X.ns hng hf hB I.inst hsh hh hq
theorem attr_set {v : Value} {Q : Unit -> Shared -> Prop} {ns : List Str} (X : ClsAt h C N mN) (hns : mN "__setattr__" = none) (hf : mN name = none) (hB : typeLookup (.type "object") name = pure none) (I : InstD h x dx C mA) (hw : Within mA ns) (hsz : ns.length ≤ sizeLine)
 (hq : ∀ h' tk', InstD h' x dx C (fun y => if y = name then some v else mA y) -> (∀ b o, b ≠ x -> b ≠ dx -> h.get? b = some o -> h'.get? b = some o) -> Q () ⟨h', g, d, tk', os⟩) :
 wpAny (model prog w) A (setAttr (.ref x) name v) Q E ⟨h, g, d, t, os⟩ := by
 obtain ⟨nm, q, bs, sn, sub, col, dd, k0, k1, k2, k3, k5, hC⟩ := X.obj
 obtain ⟨o, hx, hc, hnc, hd, hne, hnsx⟩ := id I
 have hxC : x ≠ C := by
  rintro rfl
  rw [hx] at hC; cases hC; cases hc
 refine store_attr PySem.F.store_object hC X.ns hns hf hB hxC I.inst (fun h' tk' I' hk hs => hq h' tk' ?_ fun b ob h1 h2 e => hk b ob h1 (fun o₀ d' e₀ ed => ?_) e) hw hsz
 · obtain ⟨o1, e1, c1, d1, s1, dk⟩ := hs o hx
   obtain ⟨o2, e2, c2, n2, hd2⟩ := I'
   rw [e1] at e2; cases e2
   have := dk dx hd
   rcases hd2 with ⟨q, _⟩ | ⟨d2, q, ne2, ns2⟩
   · rw [this] at q; cases q
   · rw [this] at q; cases q
     exact ⟨o1, e1, c2, n2, this, ne2, ns2⟩
 · rw [hx] at e₀; cases e₀
   rw [hd] at ed; cases ed
   exact h2
end
end
section
theorem erase0 (x : Value) (r : List Value) : ((x :: r).toArray).eraseIdxIfInBounds 0 = r.toArray := by
 unfold Array.eraseIdxIfInBounds
 rw [dif_pos (by simp)]
 apply Array.toList_inj.mp
 rw [Array.toList_eraseIdx]; rfl
section
variable {prog : Program} {w : World} {A : Around} {E : Value -> Shared -> Prop} {s : Shared}
theorem list_pop0 {a : Addr} {x : Value} {r : List Value} {u : Tok} {Q : Value -> Shared -> Prop} (hl : s.heap.PlainList a (x :: r).toArray) (hz : r.length < 16777216)
 (hq : ∀ h', h'.PlainList a r.toArray -> Heap.SameBut a s.heap h' -> Q x { s with heap := h' }) : wpAny (model prog w) A (call (.builtin "list.pop") [.ref a, .int 0 u]) Q E s := by
 obtain ⟨n, hl⟩ := hl
 refine call_meets PySem.F.slot_list_pop ⟨_, hl, rfl⟩ PySem.F.entry_list_pop (PySem.F.args_list_pop_2 _ _) (PySem.MeetsSeq.list_pop_at a _ n 0 u 0 x rfl ?_ (by simp) (by rw [sizeLine_eq]; simp; exact dl1 0 16777215 1 16777216 hz rfl)) ⟨hl, hq _ ?_ (Heap.SameBut.update ..)⟩
 · simp [seqIndex?]
 · have q := IsL.update (show IsL s.heap a (x :: r).toArray n from hl) fun xs => xs.eraseIdxIfInBounds 0
   rw [erase0] at q
   exact ⟨_, q⟩
theorem pop_or {env : Env} {nm : Str} {p1 p2 p3 p4 p5 p6 ap : Pos} {n1 n2 : Nat} {ca a : Addr} {vs : List Value} {Q : Value -> Shared -> Prop} (hk : env.scope.kind = .function) (hn : env.kindOf nm = some .free) (hc : env.cells.lookup nm = some ca)
 (cell : s.heap.IsCell ca (some (.ref a))) (hl : s.heap.PlainList a vs.toArray) (hz : vs.length ≤ 16777216) (hline : (ap.endLine == p4.line) = true) (hcd : (nm == ("__classdict__" : Str)) = false) (hdb : (nm == ("__debug__" : Str)) = false)
 (h0 : vs = [] -> ∀ tk u, s.toks ≤ tk -> Q (.str "" u) { s with toks := tk }) (h1 : ∀ x r, vs = x :: r -> ∀ h' tk, h'.PlainList a r.toArray -> Heap.SameBut a s.heap h' -> s.toks ≤ tk -> Q x { s with heap := h', toks := tk }) :
 wpAny (model prog w) A (eval (.IfExp (.Name nm p1) (.Call (.Attribute (.Name nm p2) "pop" ap) [.Constant (.int 0) n1 p3] [] p4) (.Constant (.str "") n2 p5) p6) env) Q E s := by
 have nam : ∀ (s' : Shared) (p : Pos) (Q' : Value -> Shared -> Prop) (E' : Value -> Shared -> Prop), s'.heap = s.heap -> Q' (.ref a) s' -> wpAny (model prog w) A (eval (.Name nm p) env) Q' E' s' := fun s' p Q' E' e q =>
  wpAny_Name (wpAny_loadName_free hk hn hc (by rw [e]; exact cell) q hcd) hdb
 rw [eval_IfExp]
 refine wpAny_bind ?_
 have hT : ∀ whole, isTrue (.Name nm p1) env whole = (do let v ← whole; standAt (Expr.Name nm p1).pos; holding [v] (truthy v)) := by intros; rfl
 rw [hT]
 refine wpAny_bind (nam s p1 _ _ rfl (wpAny_bind (wpAny_standAt (wpAny_holding ?_))))
 refine wpAny_truthy_list hl.isList (by simp; omega) ?_
 cases vs with
 | nil =>
  show wpAny _ _ (eval (.Constant (.str "") n2 p5) env) _ _ _
  exact fun _ _ _ => h0 rfl _ _ (by show s.toks ≤ s.toks + 1 + 1 + 1; exact dl0 0 3 rfl)
 | cons x r =>
  show wpAny _ _ (eval (.Call (.Attribute (.Name nm p2) "pop" ap) [.Constant (.int 0) n1 p3] [] p4) env) _ _ _
  refine wpAny_Call_method_lateS (by rfl) (by rfl) hline (nam _ p2 _ _ rfl ?_)
  obtain ⟨n, ho⟩ := id hl
  refine ⟨"list", "list.pop", PySem.F.plainAttrs_list, PySem.F.slot_list_pop, PySem.F.type_list_pop, ⟨_, ho, rfl⟩, fun b e => by cases e; exact ⟨_, ho, rfl⟩, ?_⟩
  refine Calls.callWith_builtin rfl (Calls.evalArgs_plain (Calls.spliced_cons ?_))
  refine (show ∀ (s' : Shared) (Q' : Value -> Shared -> Prop), Q' (.int 0 s'.toks) { s' with toks := s'.toks + 1 } -> wpAny (model prog w) A (backTo p4 [(false, eval (.Constant (.int 0) n1 p3) env)]).head!.2 Q' E s' from ?_) _ _ ?_
  · intro s' Q' q
    exact fun _ _ _ => q
  · refine Calls.spliced_nil ?_
    refine list_pop0 (s := { s with toks := s.toks + 1 + 1 + 1 }) hl (by simp at hz; exact dl1 1 16777216 0 16777215 hz rfl) fun h' hp hs => ?_
    exact h1 x r rfl h' _ hp hs (by show s.toks ≤ s.toks + 1 + 1 + 1; exact dl0 0 3 rfl)
end
end
section
theorem slot_cit_next : Slot "callable_iterator" "__next__" "callable_iterator.__next__" :=
 Slot.of (T := "callable_iterator") (name := "__next__") (owner := "callable_iterator") (n := "__next__") (by rw [typeLookup_type, builtinLookup_eq_fast]; kernel_rfl) (by decide +kernel) (by decide +kernel) (by decide +kernel)
  (.inl (by decide +kernel)) (by rw [isSubtype_type]; kernel_rfl)
theorem slot_cit_iter : Slot "callable_iterator" "__iter__" "callable_iterator.__iter__" :=
 Slot.of (T := "callable_iterator") (name := "__iter__") (owner := "callable_iterator") (n := "__iter__") (by rw [typeLookup_type, builtinLookup_eq_fast]; kernel_rfl) (by decide +kernel) (by decide +kernel) (by decide +kernel)
  (.inl (by decide +kernel)) (by rw [isSubtype_type]; kernel_rfl)
theorem entry_cit_next : entryFor table "callable_iterator.__next__" = some Builtin.«callable_iterator.__next__» := entryFor_of_tree (by kernel_rfl)
theorem args_cit_next (a : Value) : argsOk "callable_iterator.__next__" ⟨[a], []⟩ := by unfold argsOk; kernel_rfl
theorem args_cit_iter (a : Value) : argsOk "callable_iterator.__iter__" ⟨[a], []⟩ := by unfold argsOk; kernel_rfl
theorem entry_cit_iter : entryFor table "callable_iterator.__iter__" = some Builtin.«dict_keyiterator.__iter__» :=
 entryFor_alias (id' := "dict_keyiterator.__iter__") (by kernel_rfl) rfl (by decide +kernel) (by kernel_rfl)
noncomputable def citOn (bm : Addr) (t : Tok) : Obj := { cls := .type "callable_iterator", data := .fields #[.ref bm, .str "" t, .bool false] }
noncomputable def citOff : Obj := { cls := .type "callable_iterator", data := .fields #[.none, .none, .bool true] }
section
variable {prog : Program} {w : World} {A : Around} {E : Value -> Shared -> Prop} {s : Shared}
theorem wp_borrow {f : Value} {pos : List Value} {Q : Value -> Shared -> Prop} (h : wpAny (model prog w) A (call f pos) Q E s) : wpAny (model prog w) A (callBorrowed f pos) Q E s := by
 refine fun Γ p hΓ => ?_
 have h1 := h Γ p hΓ
 rw [Sem.wp_cmd_call] at h1
 unfold callBorrowed
 refine cast ?_ h1
 simp only [Sem.wp]
 congr 1
 funext r s'
 rcases r with e | f
 · rfl
 · cases f <;> rfl
theorem wp_borrows {bm f : Addr} {self : Value} {fd : FuncData} {of : Obj} {Q : Bool -> Shared -> Prop} (hb : s.heap.get? bm = some (methodObj (.ref f) self)) (hf : s.heap.get? f = some of) (hd : of.data = .func fd) (h : Q true s) :
 wpAny (model prog w) A (borrowsExactly (.ref bm)) Q E s := by
 unfold borrowsExactly
 refine wpAny_bind (wpAny_load hb ?_)
 show wpAny _ _ (load f >>= _) _ _ _
 refine wpAny_bind (wpAny_load hf ?_)
 rw [hd]
 exact wpAny_pure h
theorem wp_stop {α : Type} {Q : α -> Shared -> Prop} (hh : A.handled = none) (h : ∀ e h', (∀ b o, s.heap.get? b = some o -> h'.get? b = some o) -> (∃ o, h'.get? e = some o ∧ o.cls = .type "StopIteration") -> E (.ref e) { s with heap := h' }) :
 wpAny (model prog w) A (Builtin.SmallTypes.stopIteration : Sem α) Q E s := by
 unfold Builtin.SmallTypes.stopIteration
 refine wpAny_bind ?_
 simp only [newExc, newTuple]
 refine wpAny_bind (wpAny_newObj_type ?_ (by size_fits))
 refine wpAny_bind (m := firstArgMember _ _) (wpAny_of_eq (a := Value.none) (by first | rfl | (simp only [firstArgMember]; rfl)) ?_)
 refine wpAny_newObj_type ?_ (by size_fits)
 simp only [raiseNew]
 refine wpAny_bind (wpAny_bind (wpAny_handled ?_))
 rw [hh]
 refine wpAny_pure ?_
 refine wpAny_throw ?_
 exact h _ _ (fun b o hb => Heap.get?_push_of_some _ (Heap.get?_push_of_some _ hb)) ⟨_, Heap.get?_push_size _ rfl, rfl⟩
noncomputable def CitPost (it bm f : Addr) (self : Value) (t0 : Tok) (Q : Option Value -> Shared -> Prop) (v : Value) (s1 : Shared) : Prop :=
 s1.heap.get? it = some (citOn bm t0) ∧ s1.heap.get? bm = some (methodObj (.ref f) self) ∧ (∃ o fd, s1.heap.get? f = some o ∧ o.data = .func fd) ∧ ∃ x tx, v = .str x tx ∧ (x ≠ "" -> Q (some v) s1) ∧
  (x = "" -> ∀ h', h'.get? it = some citOff -> (∀ b o, b ≠ it -> s1.heap.get? b = some o -> h'.get? b = some o) -> Q none { s1 with heap := h' })
theorem cit_next {it bm f : Addr} {self : Value} {t0 : Tok} {Q : Option Value -> Shared -> Prop} (hh : A.handled = none) (hit : s.heap.get? it = some (citOn bm t0)) (hb : s.heap.get? bm = some (methodObj (.ref f) self)) (hf : ∃ o fd, s.heap.get? f = some o ∧ o.data = .func fd)
 (hc : codeAny (model prog w) A.in1 (.call (.ref f) ⟨[self], []⟩) (fun r s1 => match r with | .ok (.ret v) => CitPost it bm f self t0 Q v s1 | .ok _ => False | .error _ => False) s) : wpAny (model prog w) A (pyNext (.ref it)) Q E s := by
 unfold pyNext
 refine wpAny_bind (wpAny_attempt (wpAny_callSpecial?_slot (name := Str.ofString "__next__") ⟨_, hit, rfl⟩ slot_cit_next (wpAny_call_entry slot_cit_next ⟨_, hit, rfl⟩ entry_cit_next ?_ (args_cit_next _))))
 unfold Builtin.«callable_iterator.__next__»
 refine wpAny_bind (m := slotArgs _ _ _) (wpAny_of_eq (a := (.ref it, [])) rfl ?_)
 refine wpAny_bind (wpAny_field hit rfl rfl ?_)
 show wpAny _ _ (if (Value.bool false == .bool true) = true then _ else _) _ _ _
 rw [if_neg (by decide)]
 obtain ⟨o1, fd1, hf1, hd1⟩ := hf
 refine wpAny_bind (wpAny_field hit rfl rfl ?_)
 refine wpAny_bind (wpAny_attempt ?_)
 unfold callOutOfASlot
 refine wpAny_bind (wp_borrows hb hf1 hd1 ?_)
 rw [if_pos rfl]
 refine wp_borrow (wpAny_call (method_call hb (codeAny_mono hc fun r s1 hr => ?_)))
 rcases r with e | fl
 · exact hr.elim
 cases fl with
 | ret v =>
  obtain ⟨i1, b1, ⟨o2, fd2, hf2, hd2⟩, x, tx, rfl, q1, q0⟩ := hr
  show wpAny _ _ (field (.ref it) 2 >>= _) _ _ _
  refine wpAny_bind (wpAny_field i1 rfl rfl ?_)
  show wpAny _ _ (if (Value.bool false == .bool true) = true then _ else _) _ _ _
  rw [if_neg (by decide)]
  refine wpAny_bind (wpAny_field i1 rfl rfl (wpAny_bind (wpAny_holding (eqBool_str ?_))))
  by_cases hx : x = ""
  · have hb1 : (("" : Str) == x) = true := by rw [hx]; rfl
    rw [hb1]
    rw [if_neg (by decide)]
    refine wpAny_bind (wpAny_rule ?_)
    refine wpAny_bind ?_
    refine wpAny_bind (wpAny_field i1 rfl rfl ?_)
    refine wpAny_bind ?_
    · unfold slotLetsGo
      refine wpAny_bind (wp_borrows b1 hf2 hd2 ?_)
      rw [if_pos rfl]
      refine wpAny_pure ?_
      refine wpAny_bind (wpAny_setField_rec i1 (Nat.lt_of_sub_eq_succ rfl) fun h1 g1 s1' => ?_)
      refine wpAny_bind (wpAny_setField_rec g1 (Nat.lt_of_sub_eq_succ rfl) fun h2 g2 s2' => ?_)
      refine wpAny_setField_rec g2 (Nat.lt_of_sub_eq_succ rfl) fun h3 g3 s3' => ?_
      refine wp_stop hh fun e h4 k4 hq => ?_
      obtain ⟨oe, he, hce⟩ := hq
      refine wpAny_bind (wpAny_isInstance (T := "StopIteration") (b := true) ⟨oe, he, hce⟩ isSubtype_stop ?_)
      exact wpAny_pure (q0 hx h4 (k4 _ _ g3) fun b o hbi e => k4 _ _ ((s3'.2 b hbi).trans ((s2'.2 b hbi).trans ((s1'.2 b hbi).trans e))))
  · have hb1 : (("" : Str) == x) = false := by rw [beq_eq_false_iff_ne]; exact fun e => hx e.symm
    rw [hb1]
    rw [if_pos (by decide)]
    exact wpAny_pure ⟨_, rfl, wpAny_pure (q1 hx)⟩
 | _ => exact hr.elim
theorem cit_off {it : Addr} {Q : Option Value -> Shared -> Prop} (hh : A.handled = none) (hit : s.heap.get? it = some citOff) (hq : ∀ h', (∀ b o, s.heap.get? b = some o -> h'.get? b = some o) -> Q none { s with heap := h' }) : wpAny (model prog w) A (pyNext (.ref it)) Q E s := by
 unfold pyNext
 refine wpAny_bind (wpAny_attempt (wpAny_callSpecial?_slot (name := Str.ofString "__next__") ⟨_, hit, rfl⟩ slot_cit_next (wpAny_call_entry slot_cit_next ⟨_, hit, rfl⟩ entry_cit_next ?_ (args_cit_next _))))
 unfold Builtin.«callable_iterator.__next__»
 refine wpAny_bind (m := slotArgs _ _ _) (wpAny_of_eq (a := (.ref it, [])) rfl ?_)
 refine wpAny_bind (wpAny_field hit rfl rfl ?_)
 show wpAny _ _ (if (Value.bool true == .bool true) = true then _ else _) _ _ _
 rw [if_pos (by decide)]
 refine wpAny_bind (wpAny_rule (wpAny_bind (wp_stop hh fun e h4 k4 hq => ?_)))
 obtain ⟨oe, he, hce⟩ := hq
 refine wpAny_bind (wpAny_isInstance (T := "StopIteration") (b := true) ⟨oe, he, hce⟩ isSubtype_stop ?_)
 exact wpAny_pure (hq h4 k4)
theorem cit_iter {it : Addr} {o : Obj} {Q : Value -> Shared -> Prop} (hit : s.heap.get? it = some o) (hc : o.cls = .type "callable_iterator") (h : Q (.ref it) s) : wpAny (model prog w) A (pyIter (.ref it)) Q E s := by
 refine wpAny_pyIter_slot ⟨_, hit, hc⟩ slot_cit_iter (wpAny_call_entry slot_cit_iter ⟨_, hit, hc⟩ entry_cit_iter ?_ (args_cit_iter _))
 show wpAny _ _ (ret (.ref it)) _ _ s
 exact wpAny_pure ⟨_, rfl, "callable_iterator", _, ⟨_, hit, hc⟩, slot_cit_next.lookup, h⟩
theorem kind_iter : builtinKind "iter" = none := by decide +kernel
theorem plain_iter : plainId "iter" = true := by decide +kernel
theorem entry_iter : entryFor table "iter" = some Builtin.«iter» := entryFor_of_tree (by kernel_rfl)
theorem args_iter2 (a b : Value) : argsOk "iter" ⟨[a, b], []⟩ := by unfold argsOk; kernel_rfl
theorem callable_method : typeLookup (.type "method") "__call__" = pure (some (.builtin "method.__call__")) := by rw [typeLookup_type, builtinLookup_eq_fast]; kernel_rfl
theorem iter_call {bm : Addr} {t : Tok} {f : Addr} {self : Value} {Q : Value -> Shared -> Prop} (hb : s.heap.get? bm = some (methodObj (.ref f) self)) (h : Q (.ref s.heap.objs.size) { s with heap := s.heap.push (citOn bm t) }) : wpAny (model prog w) A (call (.builtin "iter") [.ref bm, .str "" t]) Q E s := by
 refine Calls.call_function_entry kind_iter plain_iter entry_iter (args_iter2 _ _) ?_
 unfold Builtin.«iter»
 refine wpAny_bind (wpAny_of_eq (a := [.ref bm, .str "" t]) (by first | rfl | kernel_rfl) ?_)
 dsimp only
 refine wpAny_bind (wpAny_specialOf ⟨_, hb, rfl⟩ callable_method ?_)
 rw [if_neg (by decide)]
 refine wpAny_bind (wpAny_rule ?_)
 refine wpAny_bind ?_
 unfold newFields
 exact wpAny_newObj_type (wpAny_pure ⟨_, rfl, h⟩) (by size_fits)
end
end
section
structure Out (c : Cx) (s' : Shared) : Prop where
 base : ∀ b o, c.base b o -> s'.heap.get? b = some o
 os : s'.os = c.os
 bare : AllBare s'.gens
 gens : ∀ g x, c.gb g x -> s'.gens[g]? = some x
theorem XJ.out {G : Gl} {W : Wd} {c : Cx} {μ : List Addr} {σ : St} {ξ : W.X} {s : Shared} (J : XJ G W c μ σ ξ s) : Out c s :=
 ⟨fun b o h => J.r.base b o (.inl h), J.r.os, J.r.bare, fun g x h => J.r.gens g x (.inl h)⟩
theorem XJ.grow {G : Gl} {W W' : Wd} {c : Cx} {μ : List Addr} {σ : St} {ξ : W.X} {ξ' : W'.X} {s s' : Shared} (X : XC G W c) (J : XJ G W c μ σ ξ s) (hf : ∀ b, W'.Wr b -> W.Wr b ∨ s.heap.get? b = none) (hs : ∀ b, W.Wr b -> W'.Wr b) (hfx : ∀ b, W'.Fx b -> ∃ o, c.base b o) (ch : Chg W.Wr noG s s') (φ : W'.Φ ξ' s'.heap) :
 XC G W' c ∧ XJ G W' c μ σ ξ' s' := by
 have hwr : ∀ b, W'.Wr b -> ∀ o, ¬ c.base b o := fun b hb o ho => by
  rcases hf b hb with h | h
  · exact X.wr b h o ho
  · have e := J.r.base b o (.inl ho)
    rw [h] at e; cases e
 have X' : XC G W' c := ⟨X.top, X.old, hwr, hfx, X.fm⟩
 refine ⟨X', ⟨J.r.move (J.r.firm X.fm) rfl rfl (fun a o n e m => ?_) (fun b o h e => ch.heap b o (fun w => h (.inr w)) e) (ch.os.trans J.r.os) ch.toks (ch.bare J.r.bare) (fun g x h => ?_) (fun a o h => ?_) (fun h hb => X.top h fun a o e => hb a o (.inl e)) (fun a h => ?_) (fun a h => ?_) rfl X.fm, φ⟩⟩
 · rcases m with (m | m) | m
   · exact n (.inl (.inl m))
   · rcases hf a m with q | q
     · exact n (.inl (.inr q))
     · rw [q] at e; cases e
   · exact n (.inr m)
 · rcases h with h | h
   · exact ch.gens g x (fun q => q) (J.r.gens g x (.inl h))
   · exact h.1.elim
 · rcases h with h | h
   · exact ch.heap a o (fun hw => X.wr a hw o h) (J.r.base a o (.inl h))
   · exact h.2
 · rcases h with h | h
   · obtain ⟨o, ho⟩ := X.old a h; exact ⟨o, .inl ho⟩
   · obtain ⟨o, ho⟩ := W'.ex φ h; exact ⟨o, .inr ⟨h, ho⟩⟩
 · obtain ⟨om, hm⟩ := J.r.mutAt (a := a) h
   have e1 := (J.r.mine a h).1
   have e2 := (J.r.mine a h).2
   have no : ¬ W'.Wr a := fun q => by
    rcases hf a q with q | q
    · exact e1 (.inr q)
    · rw [q] at hm; cases hm
   refine ⟨fun q => ?_, fun o q => ?_⟩
   · rcases q with q | q
     · exact e1 (.inl q)
     · exact no q
   · rcases q with q | q
     · exact e2 o (.inl q)
     · exact no q.1
section
variable {G : Gl} {W : Wd} {k : Nat}
theorem xcode_raw {a : Addr} {fd : FuncData} {body : List Stmt} {xs : List Str} {ds : List D} {ξ : W.X} {vs : List Value} {P : Value -> Shared -> Prop} (F : Fn G a fd body xs) (hk : k < 40) (hlen : ds.length = xs.length) (hflat : ∀ d ∈ ds, d.flat = true)
 (hv0 : HoldsL (fun _ => False) [] { objs := #[] } ds vs)
 {A : Around} {s : Shared} (hA : Aok k A) (htok : 0 < s.toks) (hbare : AllBare s.gens) (htop : ∀ h : Heap, (∀ b o, ¬ W.Wr b -> s.heap.get? b = some o -> h.get? b = some o) -> TopG G h) (hφ : W.Φ ξ s.heap)
 (hex : ∀ c A s1, c.env.scope = fd.scope -> XC G W c -> Aok (k + 1) A -> XJ G W c [] ⟨xs.zip ds, []⟩ ξ s1 -> Kp s s1 -> c.env.cells = cellsFrom (s.heap.objs.size + 1) fd.scope.names [] -> c.env.code = fd.code -> c.env.qual = fd.qualname ++ ".<locals>." -> (∀ b, c.mut [] b -> s.heap.get? b = none) ->
  (∀ b o, c.base b o ↔ ¬ W.Wr b ∧ s.heap.get? b = some o) ->
  wpAny (model G.prog G.w) A (execs body c.env) (fun f s' => Out c s' ∧ match f with | .next => P .none s' | .ret v => P v s' | _ => False) (fun _ _ => False) s1) :
 codeAny (model G.prog G.w) A (.call (.ref a) ⟨vs, []⟩) (fun r s' => match r with | .ok (.ret v) => Chg W.Wr noG s s' ∧ P v s' | .ok _ => False | .error _ => False) s := by
 have htopg : TopG G s.heap := htop _ fun _ _ _ e => e
 obtain ⟨o, ho, hdata⟩ := F.at_
 have hok := F.ok
 simp only [fnOk, Bool.and_eq_true, decide_eq_true_eq] at hok
 obtain ⟨⟨hnf, hpar⟩, hnd⟩ := hok
 have hvl : vs.length = xs.length := by rw [← hv0.length, hlen]
 have hclean : D.cleanL ds = true := cleanL_iff.mpr fun d h => flat_clean (hflat d h)
 refine codeAny_call_function hA.room (htopg.k _ _ ho) hdata F.co F.gen F.body (codeRec_of htopg.k F.code) ?_
 rw [F.bind vs hvl, F.clo]
 have zipk : ∀ (l : List Value), ∀ x ∈ xs.zip l, x.1 ∈ xs := fun l x hx => (List.of_mem_zip hx).1
 refine wpAny_pure (wpAny_mono (wpAny_toks_of (Nat.le_refl s.toks) (wpAny_newFunctionEnv_cells (Q := fun env s' => env = newEnv fd.scope s.heap.objs.size fd.globals (cellsFrom (s.heap.objs.size + 1) fd.scope.names []) (fd.qualname ++ ".<locals>.") (some a) fd.code none fd.builtins ∧
  InCallC s env.locals (bindL env.kindOf (xs.zip vs) fun _ => none) env.cells (bindC env.kindOf (xs.zip vs) fun _ => none) s') (E := fun _ _ => False) F.kind (fun x hx => ?_) fun env he s' X => ⟨he, X⟩)) (fun env s1 ⟨htk, he, X⟩ => ?_) fun _ _ f => f.2.elim)
 · have := List.all_eq_true.mp hpar _ (zipk vs x hx)
   rcases Bool.or_eq_true_iff.mp this with q | q
   · exact .inl (by simpa using q)
   · have q' : fd.scope.names.lookup x.1 = some .cell := by simpa using q
     exact .inr ⟨q', Mine.cellsFrom_some _ _ _ _ (.inl (mem_of_lookup q'))⟩
 have hloc : env.locals = s.heap.objs.size := by rw [he]; rfl
 have hsc : env.scope = fd.scope := by rw [he]; rfl
 refine ⟨htopg.nolimit.keeps X.toInCall.keep, codeAny_func ?_⟩
 let c' : Cx := { env := env, O := fun _ => False, base := fun b o => ¬ W.Wr b ∧ s.heap.get? b = some o, gb := fun g x => s.gens[g]? = some x, os := s.os, mutc := env.cells.filterMap fun y => env.cells.lookup y.1, fm := true }
 have mutge : ∀ b, c'.mut [] b -> s.heap.objs.size ≤ b := fun b hb => by
  rcases hb with hb | hb | hb
  · cases hb
  · rw [hb, ← hloc]; exact Nat.le_refl _
  · obtain ⟨y, _, hy⟩ := List.mem_filterMap.mp hb
    exact Nat.le_of_lt (hloc ▸ X.above _ _ (mem_of_lookup hy))
 have new : ∀ b, c'.mut [] b -> s.heap.get? b = none := fun b hb => by
  cases e : s.heap.get? b with
  | none => rfl
  | some o => exact absurd (Heap.lt_size e) (Nat.not_lt.mpr (mutge b hb))
 obtain ⟨h1, tk1, hs1⟩ := X.toInCall.same
 have sos : s1.os = s.os := by rw [hs1]
 have sgens : s1.gens = s.gens := by rw [hs1]
 have hv1 : HoldsL ((W.cx c' s1).all []) [] s1.heap ds vs := hv0.flat hflat
 have hcl1 : ∀ d' ∈ ds, d'.firm = true := fun d' h => D.clean_firm (cleanL_iff.mp hclean d' h)
 have φ1 : W.Φ ξ s1.heap := W.keep hφ fun b o _ e => X.toInCall.keep b o e
 have XX : XC G W c' := ⟨fun h hb => htop h fun b o n e => hb b o ⟨n, e⟩, fun a h => h.elim, fun b hb o ho => ho.1 hb, fun b hb => (by obtain ⟨n, o, e⟩ := W.fx hφ hb; exact ⟨o, n, e⟩), rfl⟩
 have r1 : R G (W.cx c' s1) [] ⟨xs.zip ds, []⟩ s1 := by
  refine ⟨sos, Nat.lt_of_lt_of_le htok htk, by rw [sgens]; exact hbare, fun g x e => by
   rcases e with e | e
   · rw [sgens]; exact e
   · exact e.2, fun b o e => by
   rcases e with e | e
   · exact X.toInCall.keep b o e.2
   · exact e.2, fun h hh => XX.top h fun a o e => hh a o (.inl e), fun b hb => by
   rcases hb with hb | hb
   · exact hb.elim
   · obtain ⟨o, e⟩ := W.ex φ1 hb; exact ⟨o, .inr ⟨hb, e⟩⟩, rfl, List.nodup_nil, fun b hb => ⟨fun q => ?_, fun o q => ?_⟩, ?_, ?_, (fun n items e => by cases e), ?_, ?_, ?_, fun _ => X.apart, ?_, fun _ => ⟨fun x d' e => ?_, fun n l e => by cases e⟩, fun _ x hx => ?_, fun _ x hx => ?_⟩
  · rcases q with q | q
    · exact q.elim
    · obtain ⟨o, ho⟩ := W.ex hφ q
      rw [new b hb] at ho; cases ho
  · rcases q with q | q
    · have q2 : s.heap.get? b = some o := (show ¬ W.Wr b ∧ s.heap.get? b = some o from q).2
      rw [new b hb] at q2; cases q2
    · obtain ⟨o, ho⟩ := W.ex hφ q.1
      rw [new b hb] at ho; cases ho
  · refine ⟨_, X.toInCall.ns, fun x d' e hkx => ?_⟩
    obtain ⟨_, _, v, q1, q2, _⟩ := bind_args (kd := env.kindOf) xs ds vs (fun _ => none) (fun _ => none) hnd hv1 hlen.symm e
    exact ⟨v, q2 hkx, q1⟩
  · intro x d' e hkx
    obtain ⟨_, _, v, q1, _, q3⟩ := bind_args (kd := env.kindOf) xs ds vs (fun _ => none) (fun _ => none) hnd hv1 hlen.symm e
    have hkc : env.kindOf x = some .cell := by
     rcases hkx with h | h
     · exact h
     · have : env.scope.names.lookup x = some .free := h
       rw [hsc] at this
       exact absurd this (lookup_notfree hnf)
    have hmem : (x, NameKind.cell) ∈ fd.scope.names := by
     have : env.scope.names.lookup x = some .cell := hkc
     rw [hsc] at this
     exact mem_of_lookup this
    have := Mine.cellsFrom_some fd.scope.names (s.heap.objs.size + 1) [] x (.inl hmem)
    obtain ⟨ca, hca⟩ := Option.isSome_iff_exists.mp this
    have hca' : env.cells.lookup x = some ca := by rw [he]; exact hca
    refine ⟨ca, v, hca', ?_, q1⟩
    have := X.cell x ca hca'
    rwa [q3 (by rw [hkc]; simp)] at this
  · show env.scope.kind = _; rw [hsc]; exact F.kind
  · show env.globals = _; rw [he]; exact F.glob
  · show env.builtins = _; rw [he]; exact F.blt
  · intro b hb
    obtain ⟨y, _, hy⟩ := List.mem_filterMap.mp hb
    exact ⟨_, X.cell _ _ hy⟩
  · obtain ⟨_, q2, _⟩ := bind_args (kd := env.kindOf) xs ds vs (fun _ => none) (fun _ => none) hnd hv1 hlen.symm e
    exact hcl1 d' q2
  · have hmem : (x, NameKind.cell) ∈ fd.scope.names := by
     have : env.scope.names.lookup x = some .cell := hx
     rw [hsc] at this
     exact mem_of_lookup this
    have := Mine.cellsFrom_some fd.scope.names (s.heap.objs.size + 1) [] x (.inl hmem)
    obtain ⟨ca, hca⟩ := Option.isSome_iff_exists.mp this
    have hca' : env.cells.lookup x = some ca := by rw [he]; exact hca
    exact ⟨ca, hca', List.mem_filterMap.mpr ⟨_, mem_of_lookup hca', hca'⟩⟩
  · have : env.scope.names.lookup x = some .free := hx
    rw [hsc] at this
    exact lookup_notfree hnf this
 have hA' : Aok (k + 1) (A.deeper env) := hA.deep hk
 refine wpAny_mono (wpAny_toks_of htk (hex c' _ s1 hsc XX hA' ⟨r1, φ1⟩ ⟨⟨X.toInCall.keep, sos, (by rw [sgens]; exact id), fun g x e => by rw [sgens]; exact e⟩, htk⟩ (by show env.cells = _; rw [he]; rfl) (by show env.code = _; rw [he]; rfl) (by show env.qual = _; rw [he]; rfl) new fun b o => Iff.rfl)) (fun f s2 hq => ?_) fun _ _ f => f.2.elim
 obtain ⟨htk2, out, hf⟩ := hq
 have kp : Chg W.Wr noG s s2 := ⟨fun b o n e => out.base b o ⟨n, e⟩, out.os, fun _ => out.bare, fun g x _ e => out.gens g x e, htk2⟩
 cases f with
 | next => exact ⟨kp, hf⟩
 | ret v => exact ⟨kp, hf⟩
 | _ => exact hf.elim
end
end
section
end
section
section
variable {prog : Program} {w : World} {A : Around} {E : Value -> Shared -> Prop} {s : Shared}
theorem range_over {I : Addr} {x left step : Int} {Q : Option Value -> Shared -> Prop} (hh : A.handled = none) (hi : IsRangeIter s.heap I x left step) (hl : left ≤ 0)
 (hq : ∀ h', (∀ b o, s.heap.get? b = some o -> h'.get? b = some o) -> Q none { s with heap := h' }) : wpAny (model prog w) A (pyNext (.ref I)) Q E s := by
 have T : s.TypeIs (.ref I) "range_iterator" := ⟨_, hi, rfl⟩
 unfold pyNext
 refine wpAny_bind (wpAny_attempt (wpAny_callSpecial?_slot (name := Str.ofString "__next__") T F.slot_range_iterator_next (wpAny_call_entry F.slot_range_iterator_next T F.entry_range_iterator_next ?_ (F.args_range_iterator_next_1 _))))
 refine wpAny_bind (m := field (.ref I) 0) (wpAny_field hi rfl (x := rawInt x) rfl ?_)
 refine wpAny_bind (m := field (.ref I) 1) (wpAny_field hi rfl (x := rawInt left) rfl ?_)
 refine wpAny_bind (m := field (.ref I) 2) (wpAny_field hi rfl (x := rawInt step) rfl ?_)
 show wpAny _ _ (if left ≤ 0 then _ else _) _ _ s
 rw [if_pos hl]
 refine wpAny_bind (wpAny_rule (wpAny_bind (m := Builtin.SmallTypes.stopIteration) (wp_stop hh fun e h k hq => ?_)))
 obtain ⟨oe, he, hc⟩ := hq
 refine wpAny_bind (wpAny_isInstance (T := "StopIteration") (b := true) ⟨oe, he, hc⟩ isSubtype_stop ?_)
 exact wpAny_pure (hq h k)
end
end
section
section
variable {G : Gl} {sc : Scope} {k : Nat} {σ : St}
theorem cmp_ne_bool {a b : Bool} : Two G sc k σ (compareOp .NotEq) (.bool a) (.bool b) (.bool (a != b)) := by
 have h := cmp_ne_pd (G := G) (sc := sc) (k := k) (σ := σ) (d := .bool a) (e := .bool b) (p := .bool a) (q := .bool b) (b := a == b) rfl rfl rfl rfl (by cases a <;> cases b <;> rfl)
 exact h
theorem x_asgT {W : Wd} {ξ ξ' : W.X} {es : List Expr} {n : Nat} {e : Expr} {p p' : Pos} {d : D} {σ' : St} (he : xEv G W sc k ξ σ e d ξ') (ha : As G sc k (.Tuple es n p') d σ σ') (hs : autoParam (∀ env, swapsWithSole [.Tuple es n p'] e p.line env = pure false) ir)
 (hw : autoParam (∀ env, swappedStores [.Tuple es n p'] e env = pure none) ir) : xEx G W sc k ξ σ (.Assign [.Tuple es n p'] e p) fun fl ξ1 σ1 => fl = .next ∧ ξ1 = ξ' ∧ σ1 = σ' := by
 intro c μ A s hc X hA J
 refine Assign_Tuple (wpAny_mono (he c μ A s hc X hA J) (fun v s1 hq => ?_) fun _ _ f => f) (hs _) (hw _)
 obtain ⟨ch, φ, x1⟩ := hq
 have J1 : XJ G W c μ σ ξ' s1 := J.chg X ch φ
 exact wpAny_mono (ha (W.cx c s1) μ A s1 v hc X.fm hA J1.r x1) (fun _ s2 hp => by obtain ⟨r2, _⟩ := hp; exact ⟨.next, ξ', σ', μ, ⟨rfl, rfl, rfl⟩, J1.go X r2, rfl⟩) fun _ _ f => f
theorem xs_gen {W : Wd} {ξ : W.X} {ss : List Stmt} {Q : Fl -> W.X -> St -> Prop} (P : St -> Prop) (h : P σ) (hn : ∀ σ1, P σ1 -> xExs G W sc k ξ σ1 ss Q) : xExs G W sc k ξ σ ss Q := hn σ h
end
end
section
noncomputable def es79 (P : Params) : Array DictEntry := match (hd.heap_1 P).lookup 79 with
 | some ⟨_, _, .dict es _, _⟩ => es
 | _ => #[]
noncomputable def mN (P : Params) : Str -> Option Value := nsFind (es79 P)
section
variable {G : Gl} (g : IsG G)
include g
set_option tactic.hygienic true in
theorem cls80 {h : Heap} (T : TopG G h) : ClsAt h 80 79 (mN G.w.params) := by
 have X := T.k
 rw [g.K] at X
 refine ⟨?_, ?_⟩
 · exact ⟨_, _, _, _, _, _, _, _, _, _, _, _, X 80 _ rfl⟩
 · have e : ∃ c d n sl, (hd.heap_1 G.w.params).lookup 79 = some ⟨c, d, .dict (es79 G.w.params) n, sl⟩ := ⟨_, _, _, _, rfl⟩
   obtain ⟨c, d, n, sl, e⟩ := e
   refine ⟨_, _, _, X 79 _ e, rfl, ?_, fun _ => rfl⟩
   have hk : nsOkIn (hd.heap_1 G.w.params) 79 = true := by kernel_rfl
   unfold nsOkIn at hk
   rw [e] at hk
   dsimp only at hk
   intro en hen
   have := Array.all_eq_true_iff_forall_mem.mp hk en hen
   split at this
   · rename_i n t q; exact ⟨_, _, q⟩
   · cases this
end
variable (P : Params)
theorem mN_init : mN P "__init__" = some (.ref 56) := rfl
theorem mN_read : mN P "_read_char" = some (.ref 63) := rfl
theorem mN_tok : mN P "get_token" = some (.ref 70) := rfl
theorem mN_ga : mN P "__getattribute__" = none := rfl
theorem mN_gh : mN P "__getattr__" = none := rfl
theorem mN_sa : mN P "__setattr__" = none := rfl
theorem mN_line : mN P "lineno" = none := rfl
theorem mN_ins : mN P "instream" = none := rfl
theorem mN_ws : mN P "whitespace" = none := rfl
theorem mN_pb : mN P "pushback" = none := rfl
theorem mN_rd : mN P "read" = none := rfl
theorem oB_read : typeLookup (.type "object") "_read_char" = pure none := by rw [typeLookup_type, builtinLookup_eq_fast]; kernel_rfl
theorem oB_tok : typeLookup (.type "object") "get_token" = pure none := by rw [typeLookup_type, builtinLookup_eq_fast]; kernel_rfl
theorem oB_line : typeLookup (.type "object") "lineno" = pure none := by rw [typeLookup_type, builtinLookup_eq_fast]; kernel_rfl
theorem oB_ins : typeLookup (.type "object") "instream" = pure none := by rw [typeLookup_type, builtinLookup_eq_fast]; kernel_rfl
theorem oB_ws : typeLookup (.type "object") "whitespace" = pure none := by rw [typeLookup_type, builtinLookup_eq_fast]; kernel_rfl
theorem oB_pb : typeLookup (.type "object") "pushback" = pure none := by rw [typeLookup_type, builtinLookup_eq_fast]; kernel_rfl
theorem oB_rd : typeLookup (.type "object") "read" = pure none := by rw [typeLookup_type, builtinLookup_eq_fast]; kernel_rfl
section
variable {G : Gl} (g : IsG G)
include g
theorem fn_init : Fn G 56 (fdAt G.w.params 56) (bodyAt G.w.params 56) ["self", "fp"] :=
 fn_of g ⟨_, _, _, _, rfl⟩ ⟨_, rfl⟩ rfl rfl rfl rfl rfl rfl rfl (bnd2 fun v u => by kernel_rfl) rfl
theorem fn_read_char : Fn G 63 (fdAt G.w.params 63) (bodyAt G.w.params 63) ["self"] :=
 fn_of g ⟨_, _, _, _, rfl⟩ ⟨_, rfl⟩ rfl rfl rfl rfl rfl rfl rfl (bnd1 fun v => by kernel_rfl) rfl
theorem fn_get_token : Fn G 70 (fdAt G.w.params 70) (bodyAt G.w.params 70) ["self"] :=
 fn_of g ⟨_, _, _, _, rfl⟩ ⟨_, rfl⟩ rfl rfl rfl rfl rfl rfl rfl (bnd1 fun v => by kernel_rfl) rfl
theorem fnc (a : Addr) (ha : ((hd.heap_1 G.w.params).lookup a).map (·.cls) = some (.type "function")) {h : Heap} (T : TopG G h) : ∃ o, h.get? a = some o ∧ o.cls = .type "function" := by
 have X := T.k
 rw [g.K] at X
 obtain ⟨o, e, c⟩ := Option.map_eq_some_iff.mp ha
 exact ⟨o, X _ _ e, c⟩
set_option tactic.hygienic true in
theorem attr_bound {w : World} {prog : Program} {A : Around} {E : Value -> Shared -> Prop} {h : Heap} {gg : Array GenState} {d : Drawn} {t : Nat} {os : OsState} {x dx : Addr} {mA : Str -> Option Value} {expr : Bool} {Q : Value -> Shared -> Prop}
 (T : TopG G h) (I : InstD h x dx 80 mA) (hsh : mA "_read_char" = none) (hq : Q (.ref h.objs.size) ⟨h.push (methodObj (.ref 63) (.ref x)), gg, d, t + 1, os⟩) :
 wpAny (model prog w) A (getAttr (.ref x) "_read_char" expr) Q E ⟨h, gg, d, t, os⟩ := by
 have X := T.k
 rw [g.K] at X
 obtain ⟨o, hx, hc, hnc, hd', hne, ⟨od, es, ep, e1, e2, e3, e4, e5⟩⟩ := id I
 have I' : InstAt h x o 80 (some od) := ⟨hx, hc, by unfold notCls; split; rename_i c q; exact absurd q (hnc c); rfl, by rw [hd']; exact e1⟩
 refine get_bind X I' (plainGet_of (name := "_read_char") rfl).1 (findObj_fn (f := 63) rfl rfl rfl rfl rfl (lookIn_of_ns e2 e3 (by rw [e5]; exact hsh))) (plainGet_of (name := "_read_char") rfl).2 ?_
 refine wpAny_call (fn_get (s := ⟨h, gg, d, t + 1, os⟩) X rfl ?_)
 show wpAny _ _ (handedOut (.ref h.objs.size)) _ _ _
 exact wpAny_pure hq
end
end
section
noncomputable def lamOf (P : Params) : Arguments × Expr × Scope × Pos := match bodyAt P 183 with
 | _ :: _ :: .Assign _ (.Lambda ps b sc p) _ :: _ => (ps, b, sc, p)
 | _ => default
noncomputable def wsL : List Nat := [10, 9, 13, 32]
noncomputable def nm4 : List Str := ["lineno", "instream", "whitespace", "pushback"]
structure Ly where
 sA : Addr
 lx : Addr
 dlx : Addr
 st : Addr
 dst : Addr
 fL : Addr
 lc : Addr
 cS : Addr
 pb : Addr
noncomputable def Ly.Wr (y : Ly) (b : Addr) : Prop := b = y.sA ∨ b = y.lx ∨ b = y.dlx
noncomputable def Ly.Fx (y : Ly) (b : Addr) : Prop := b = y.st ∨ b = y.dst ∨ b = y.fL ∨ b = y.lc ∨ b = y.cS ∨ b = y.pb
structure LexM (y : Ly) (line : Int) (mA : Str -> Option Value) : Prop where
 within : Within mA nm4
 line : ∃ t, mA "lineno" = some (.int line t)
 ins : mA "instream" = some (.ref y.st)
 ws : ∃ t, mA "whitespace" = some (.str (toS wsL) t)
 pb : mA "pushback" = some (.ref y.pb)
noncomputable def LamAt (P : Params) (h : Heap) (fL lc cS : Addr) : Prop :=
 ∃ pm ct q, h.get? fL = some (kla_obj "<lambda>" q (lamOf P).1 (lamOf P).2.1 (lamOf P).2.2.1 [("signs", cS)] pm lc ct) ∧ h.CodeRec (.ref lc) q
noncomputable def Chars (rest : List Nat) (vs : List Value) : Prop := HoldsL (fun _ => False) [] { objs := #[] } (charsD rest) vs
structure LexAt (P : Params) (y : Ly) (rest : List Nat) (line : Int) (h : Heap) : Prop where
 ne1 : y.sA ≠ y.lx
 ne2 : y.sA ≠ y.dlx
 dis : ∀ b, y.Fx b -> ¬ y.Wr b
 signs : ∃ vs : List Value, h.PlainList y.sA vs.toArray ∧ Chars rest vs
 room : rest.length ≤ 16777216
 lexer : ∃ mA, InstD h y.lx y.dlx 80 mA ∧ LexM y line mA
 stream : ∃ mS, InstD h y.st y.dst 80 mS ∧ mS "read" = some (.ref y.fL)
 lam : LamAt P h y.fL y.lc y.cS
 cell : h.IsCell y.cS (some (.ref y.sA))
 pbl : h.PlainList y.pb #[]
theorem LamAt.keep {P : Params} {h h' : Heap} {fL lc cS : Addr} (x : LamAt P h fL lc cS) (k1 : ∀ o, h.get? fL = some o -> h'.get? fL = some o) (k2 : ∀ o, h.get? lc = some o -> h'.get? lc = some o) : LamAt P h' fL lc cS := by
 obtain ⟨pm, ct, q, e, c, o, vs, t, e1, e2, r⟩ := x
 cases e1
 exact ⟨pm, ct, q, k1 _ e, lc, o, vs, t, rfl, k2 _ e2, r⟩
theorem LexAt.keep {P : Params} {y : Ly} {rest : List Nat} {line : Int} {h h' : Heap} (x : LexAt P y rest line h) (k : ∀ b o, y.Wr b ∨ y.Fx b -> h.get? b = some o -> h'.get? b = some o) : LexAt P y rest line h' where
 ne1 := x.ne1
 ne2 := x.ne2
 dis := x.dis
 signs := (by obtain ⟨vs, e, c⟩ := x.signs; exact ⟨vs, e.at fun o => k _ o (.inl (.inl rfl)), c⟩)
 room := x.room
 lexer := (by obtain ⟨m, e, c⟩ := x.lexer; exact ⟨m, e.keep (fun o => k _ o (.inl (.inr (.inl rfl)))) (fun o => k _ o (.inl (.inr (.inr rfl)))), c⟩)
 stream := (by obtain ⟨m, e, c⟩ := x.stream; exact ⟨m, e.keep (fun o => k _ o (.inr (.inl rfl))) (fun o => k _ o (.inr (.inr (.inl rfl)))), c⟩)
 lam := x.lam.keep (fun o => k _ o (.inr (.inr (.inr (.inl rfl))))) (fun o => k _ o (.inr (.inr (.inr (.inr (.inl rfl))))))
 cell := (by obtain ⟨o, e, c⟩ := x.cell; exact ⟨o, k _ o (.inr (.inr (.inr (.inr (.inr (.inl rfl)))))) e, c⟩)
 pbl := x.pbl.at fun o => k _ o (.inr (.inr (.inr (.inr (.inr (.inr rfl))))))
theorem LexAt.ex {P : Params} {y : Ly} {rest : List Nat} {line : Int} {h : Heap} (x : LexAt P y rest line h) {b : Addr} (hb : y.Wr b) : ∃ o, h.get? b = some o := by
 rcases hb with rfl | rfl | rfl
 · obtain ⟨vs, ⟨n, e⟩, _⟩ := x.signs; exact ⟨_, e⟩
 · obtain ⟨m, e, _⟩ := x.lexer; exact e.at_.1
 · obtain ⟨m, e, _⟩ := x.lexer; exact e.at_.2
theorem LexAt.fx {P : Params} {y : Ly} {rest : List Nat} {line : Int} {h : Heap} (x : LexAt P y rest line h) {b : Addr} (hb : y.Fx b) : ¬ y.Wr b ∧ ∃ o, h.get? b = some o := by
 refine ⟨x.dis b hb, ?_⟩
 rcases hb with rfl | rfl | rfl | rfl | rfl | rfl
 · obtain ⟨m, e, _⟩ := x.stream; exact e.at_.1
 · obtain ⟨m, e, _⟩ := x.stream; exact e.at_.2
 · obtain ⟨pm, ct, q, e, _⟩ := x.lam; exact ⟨_, e⟩
 · obtain ⟨pm, ct, q, _, c, o, vs, t, e1, e2, _⟩ := x.lam; cases e1; exact ⟨_, e2⟩
 · obtain ⟨o, e, _⟩ := x.cell; exact ⟨_, e⟩
 · obtain ⟨n, e⟩ := x.pbl; exact ⟨_, e⟩
noncomputable def lexW (P : Params) (y : Ly) : Wd where
 X := List Nat × Int
 Wr := y.Wr
 Fx := y.Fx
 Φ := fun ξ h => LexAt P y ξ.1 ξ.2 h
 ex := fun x hb => x.ex hb
 fx := fun x hb => x.fx hb
 keep := fun x k => x.keep k
theorem Chars.cons {c : Nat} {r : List Nat} {vs : List Value} (h : Chars (c :: r) vs) : ∃ t us, vs = .str (toS [c]) t :: us ∧ Chars r us := by
 obtain ⟨v, us, rfl, ⟨t, rfl⟩, h2⟩ := HoldsL.cons (show HoldsL _ _ _ (.str [c] :: charsD r) vs from h)
 exact ⟨t, us, rfl, h2⟩
theorem Chars.length {r : List Nat} {vs : List Value} (h : Chars r vs) : vs.length = r.length := by
 have := HoldsL.length h
 simpa [charsD] using this.symm
theorem LexAt.pop {P : Params} {y : Ly} {c : Nat} {rest : List Nat} {line : Int} {h h' : Heap} {us : List Value} (x : LexAt P y (c :: rest) line h) (hc : Chars rest us) (hp : h'.PlainList y.sA us.toArray) (hs : Heap.SameBut y.sA h h') : LexAt P y rest line h' where
 ne1 := x.ne1
 ne2 := x.ne2
 dis := x.dis
 signs := ⟨us, hp, hc⟩
 room := by have := x.room; simp at this; exact dl1 0 16777216 0 16777215 this rfl
 lexer := (by obtain ⟨m, e, c⟩ := x.lexer; exact ⟨m, e.keep (fun o e => (hs.2 _ (Ne.symm x.ne1)).trans e) (fun o e => (hs.2 _ (Ne.symm x.ne2)).trans e), c⟩)
 stream := (by obtain ⟨m, e, c⟩ := x.stream; exact ⟨m, e.keep (fun o e => (hs.2 _ fun q => x.dis _ (.inl rfl) (.inl q)).trans e) (fun o e => (hs.2 _ fun q => x.dis _ (.inr (.inl rfl)) (.inl q)).trans e), c⟩)
 lam := x.lam.keep (fun o e => (hs.2 _ fun q => x.dis _ (.inr (.inr (.inl rfl))) (.inl q)).trans e) (fun o e => (hs.2 _ fun q => x.dis _ (.inr (.inr (.inr (.inl rfl)))) (.inl q)).trans e)
 cell := (by obtain ⟨o, e, c⟩ := x.cell; exact ⟨o, (hs.2 _ fun q => x.dis _ (.inr (.inr (.inr (.inr (.inl rfl))))) (.inl q)).trans e, c⟩)
 pbl := x.pbl.at fun o e => (hs.2 _ fun q => x.dis _ (.inr (.inr (.inr (.inr (.inr rfl))))) (.inl q)).trans e
section
variable {G : Gl} (g : IsG G)
theorem lam_cal {y : Ly} {k : Nat} {rest : List Nat} {line : Int} {v : Value} (hk : k < 40) : xCal G (lexW G.w.params y) k (.ref y.fL) [v] (rest, line) (.str (rest.take 1)) (rest.drop 1, line) := by
 intro A s hA htok hbare htop φ
 have φ' : LexAt G.w.params y rest line s.heap := φ
 have T : TopG G s.heap := htop _ fun _ _ _ e => e
 obtain ⟨pm, ct, q, ho, hcd⟩ := φ'.lam
 obtain ⟨vs, hl, hch⟩ := φ'.signs
 refine wp_chg (wpAny_call (kla_callFunE hA.room ho rfl rfl rfl rfl hcd ?_))
 rw [show bindArgs _ ⟨[v], []⟩ = pure [(("size" : Str), v)] from by kernel_rfl]
 refine wpAny_pure (wpAny_newFunctionEnv (fun x hx => by have hall : ((lamOf G.w.params).2.2.1.names.all fun y => y.2 != .cell) = true := rfl; simpa using List.all_eq_true.mp hall x hx) (fun x hx => by rw [List.mem_singleton.mp hx]; rfl) (fun h' hns hsb => ?_) rfl)
 have k1 : ∀ b o, s.heap.get? b = some o -> h'.get? b = some o := fun b o e => hsb.extBut b o (Nat.ne_of_lt (Heap.lt_size e)) (Heap.get?_push_of_some _ e)
 refine ⟨T.nolimit.keeps k1, kla_codeExpr ?_⟩
 refine pop_or (nm := "signs") (ca := y.cS) (a := y.sA) (vs := vs) rfl rfl rfl ?_ ?_ ?_ rfl rfl rfl ?_ ?_
 · obtain ⟨o, e, d⟩ := φ'.cell; exact ⟨o, k1 _ _ e, d⟩
 · exact hl.at fun o => k1 _ o
 · rw [hch.length]; exact φ'.room
 · rintro rfl tk u _
   cases rest with
   | cons c r => obtain ⟨_, _, e, _⟩ := hch.cons; cases e
   | nil => exact ⟨⟨fun b o _ e => k1 b o e, rfl, fun h => h, fun _ _ _ e => e⟩, φ'.keep fun b o _ e => k1 b o e, u, rfl⟩
 · rintro x r rfl h2 tk hp hs _
   cases rest with
   | nil => have := hch.length; cases this
   | cons c rr =>
    obtain ⟨t, us, e, hc2⟩ := hch.cons
    cases e
    exact ⟨⟨fun b o hb e => (hs.2 b fun q => hb (.inl q)).trans (k1 b o e), rfl, fun h => h, fun _ _ _ e => e⟩, (φ'.keep fun b o _ e => k1 b o e).pop hc2 hp hs, t, rfl⟩
end
end
section
theorem XJ.top' {G : Gl} {W : Wd} {c : Cx} {μ : List Addr} {σ : St} {ξ : W.X} {s : Shared} (X : XC G W c) (J : XJ G W c μ σ ξ s) : ∀ h : Heap, (∀ b o, ¬ W.Wr b -> s.heap.get? b = some o -> h.get? b = some o) -> TopG G h :=
 fun h hh => X.top h fun a o e => hh a o (fun q => X.wr a q o e) (J.r.base a o (.inl e))
theorem wp_tk {α : Type} {M : Model} {A : Around} {t : Sem α} {Q : α -> Shared -> Prop} {E : Value -> Shared -> Prop} {s : Shared} (h : wpAny M A t (fun v s' => s.toks ≤ s'.toks -> Q v s') E s) : wpAny M A t Q E s :=
 wpAny_mono (wpAny_toks_of (Nat.le_refl s.toks) h) (fun _ _ x => x.2 x.1) fun _ _ x => x.2
noncomputable def nxt (ξ : List Nat × Int) : List Nat × Int := (ξ.1.drop 1, if ξ.1.take 1 = [10] then ξ.2 + 1 else ξ.2)
theorem LexM.set {y : Ly} {line : Int} {mA : Str -> Option Value} (M : LexM y line mA) (l2 : Int) (t : Tok) : LexM y l2 (fun z => if z = "lineno" then some (.int l2 t) else mA z) where
 within := fun z hz => by
  by_cases e : z = "lineno"
  · rw [e]; exact .head _
  · have hz' : (if z = ("lineno" : Str) then some (Value.int l2 t) else mA z) ≠ none := hz
    rw [if_neg e] at hz'; exact M.within z hz'
 line := ⟨t, if_pos rfl⟩
 ins := by rw [if_neg (by decide)]; exact M.ins
 ws := by rw [if_neg (by decide)]; exact M.ws
 pb := by rw [if_neg (by decide)]; exact M.pb
theorem LexAt.setLine {P : Params} {y : Ly} {rest : List Nat} {line l2 : Int} {h h' : Heap} {mA : Str -> Option Value} (x : LexAt P y rest line h) (I : InstD h' y.lx y.dlx 80 mA) (M : LexM y l2 mA) (hk : ∀ b o, b ≠ y.lx -> b ≠ y.dlx -> h.get? b = some o -> h'.get? b = some o) : LexAt P y rest l2 h' where
 ne1 := x.ne1
 ne2 := x.ne2
 dis := x.dis
 signs := (by obtain ⟨vs, e, c⟩ := x.signs; exact ⟨vs, e.at fun o => hk _ o x.ne1 x.ne2, c⟩)
 room := x.room
 lexer := ⟨mA, I, M⟩
 stream := (by obtain ⟨m, e, c⟩ := x.stream; exact ⟨m, e.keep (fun o => hk _ o (fun q => x.dis _ (.inl rfl) (.inr (.inl q))) (fun q => x.dis _ (.inl rfl) (.inr (.inr q)))) (fun o => hk _ o (fun q => x.dis _ (.inr (.inl rfl)) (.inr (.inl q))) (fun q => x.dis _ (.inr (.inl rfl)) (.inr (.inr q)))), c⟩)
 lam := x.lam.keep (fun o => hk _ o (fun q => x.dis _ (.inr (.inr (.inl rfl))) (.inr (.inl q))) (fun q => x.dis _ (.inr (.inr (.inl rfl))) (.inr (.inr q)))) (fun o => hk _ o (fun q => x.dis _ (.inr (.inr (.inr (.inl rfl)))) (.inr (.inl q))) (fun q => x.dis _ (.inr (.inr (.inr (.inl rfl)))) (.inr (.inr q))))
 cell := (by obtain ⟨o, e, c⟩ := x.cell; exact ⟨o, hk _ o (fun q => x.dis _ (.inr (.inr (.inr (.inr (.inl rfl))))) (.inr (.inl q))) (fun q => x.dis _ (.inr (.inr (.inr (.inr (.inl rfl))))) (.inr (.inr q))) e, c⟩)
 pbl := x.pbl.at fun o => hk _ o (fun q => x.dis _ (.inr (.inr (.inr (.inr (.inr rfl))))) (.inr (.inl q))) (fun q => x.dis _ (.inr (.inr (.inr (.inr (.inr rfl))))) (.inr (.inr q)))
section
variable {G : Gl} (g : IsG G)
include g
theorem xev_read {sc : Scope} {k : Nat} {σ : St} {y : Ly} {rest : List Nat} {line : Int} {p1 p2 p3 p4 ap : Pos} {n : Nat} (hk : k < 40) (hn : sc.names.lookup ("self" : Str) = some .local) (hv : σ.vars.lookup ("self" : Str) = some (.val (.ref y.lx))) (hline : (ap.endLine == p4.line) = true) :
 xEv G (lexW G.w.params y) sc k (rest, line) σ (.Call (.Attribute (.Attribute (.Name "self" p1) "instream" p2) "read" ap) [.Constant (.int 1) n p3] [] p4) (.str (rest.take 1)) (rest.drop 1, line) := by
 intro c μ A s hc X hA J
 refine wp_Call_meth (Attribute_any_ (wpAny_mono ((show Ev G sc k σ (.Name "self" p1) (.val (.ref y.lx)) from ev_loc hn hv) ((lexW G.w.params y).cx c s) μ A s hc hA J.r) (fun v s1 hq => ?_) fun _ _ f => f)) rfl rfl hline
 obtain ⟨k1, hv1⟩ := hq
 have hv1' : v = .ref y.lx := hv1
 subst hv1'
 have J1 := J.kp X k1
 have φ1 : LexAt G.w.params y rest line s1.heap := J1.φ
 obtain ⟨mA, I, M⟩ := φ1.lexer
 have C1 := cls80 g J1.r.topG
 refine attr_own C1 (mN_ga _) (mN_ins _) oB_ins I M.ins rfl ?_
 intro pl
 obtain ⟨mS, IS, hS⟩ := φ1.stream
 refine meth_own C1 (mN_ga _) (mN_gh _) (mN_rd _) oB_rd IS hS rfl ?_
 obtain ⟨pm, ct, q, ho, hcd⟩ := φ1.lam
 obtain ⟨o0, fd0, ho0, hd0⟩ : ∃ o fd, s1.heap.get? y.fL = some o ∧ o.data = .func fd := ⟨_, _, ho, rfl⟩
 refine Calls.callWith_function (o := o0) (fd := fd0) (Calls.evalArgs_plain (Calls.spliced_cons (fun _ _ _ => ?_)))
 refine Calls.spliced_nil ⟨⟨ho0, hd0⟩, ?_⟩
 have k2 : Kp s1 { s1 with toks := s1.toks + 1 + 1 + 1 } := Kp.tok _ _ (by exact dl0 0 3 rfl)
 have J2 := J1.kp X k2
 refine wpAny_mono (lam_cal hk A _ hA J2.r.tok J2.r.bare (J2.top' X) J2.φ) (fun v s3 hq => ?_) fun _ _ f => f
 obtain ⟨ch, φ3, hv3⟩ := hq
 exact ⟨(Chg.of_kp (k1.trans k2)).trans ch, φ3, Holds.flat rfl hv3⟩
theorem x_line {sc : Scope} {k : Nat} {σ : St} {y : Ly} {rest : List Nat} {line : Int} {p1 p2 p3 p : Pos} {n : Nat} (hn : sc.names.lookup ("self" : Str) = some .local) (hv : σ.vars.lookup ("self" : Str) = some (.val (.ref y.lx))) :
 xEx G (lexW G.w.params y) sc k (rest, line) σ (.AugAssign (.Attribute (.Name "self" p1) "lineno" p2) .Add (.Constant (.int 1) n p3) p) fun fl ξ1 σ1 => fl = .next ∧ ξ1 = (rest, line + 1) ∧ σ1 = σ := by
 intro c μ A s hc X hA J
 refine wp_tk (wpAny_AugAssign_AttributeAny (wpAny_mono ((show Ev G sc k σ (.Name "self" p1) (.val (.ref y.lx)) from ev_loc hn hv) ((lexW G.w.params y).cx c s) μ A s hc hA J.r) (fun v s1 hq => ?_) fun _ _ f => f))
 obtain ⟨k1, hv1⟩ := hq
 have hv1' : v = .ref y.lx := hv1
 subst hv1'
 have J1 := J.kp X k1
 have φ1 : LexAt G.w.params y rest line s1.heap := J1.φ
 obtain ⟨mA, I, M⟩ := φ1.lexer
 obtain ⟨t, ht⟩ := M.line
 have C1 := cls80 g J1.r.topG
 refine attr_own C1 (mN_ga _) (mN_line _) oB_line I ht rfl ?_
 refine fun _ _ _ => ?_
 refine iadd_int ?_
 refine attr_set C1 (mN_sa _) (mN_line _) oB_line I M.within (by size_fits) fun h' tk I' hk' htk => ?_
 have φ4 : LexAt G.w.params y rest (line + 1) h' := φ1.setLine I' (M.set (line + 1) _) hk'
 have ch : Chg y.Wr noG s { s1 with heap := h', toks := tk } := ⟨fun b o hb e => hk' b o (fun q => hb (.inr (.inl q))) (fun q => hb (.inr (.inr q))) (k1.heap b o e), k1.os, k1.bare, fun g x _ e => k1.gens g x e, htk⟩
 exact ⟨.next, _, σ, μ, ⟨rfl, rfl, rfl⟩, J.chg X ch φ4, rfl⟩
theorem read_code {y : Ly} {k : Nat} {rest : List Nat} {line : Int} (hk : k < 39) : xCode G (lexW G.w.params y) k (.ref 63) [.ref y.lx] (rest, line) (.str (rest.take 1)) (nxt (rest, line)) := by
 refine xcode_fn (fn_read_char g) (by exact dl1 1 40 1 39 hk rfl) (ds := [.val (.ref y.lx)]) rfl (fun d hd => by rw [List.mem_singleton.mp hd]; rfl) ⟨rfl, trivial⟩ ?_ rfl
 refine xs_one (x_asg rfl (xev_read g (by exact dl1 2 40 1 39 hk rfl) rfl rfl rfl) (as_loc rfl rfl)) ?_
 refine xs_cons (Q1 := fun fl ξ σ => fl = .next ∧ ξ = nxt (rest, line) ∧ σ = ({ vars := List.zip ["self"] [D.val (Value.ref y.lx)], own := [] } : St).set "ch" (.str (rest.take 1))) (x_if (b := rest.take 1 == [10]) (xTr_of (tr_cmp (ev_loc rfl rfl) ev_str cmp_eq_str)) (fun hb => ?_) (fun hb => ?_)) ?_ ?_
 · refine xs_one (x_line g rfl rfl) (xs_nil ⟨rfl, ?_, rfl⟩)
   have : rest.take 1 = [10] := by simpa using hb
   unfold nxt; rw [if_pos this]
 · refine xs_nil ⟨rfl, ?_, rfl⟩
   have : ¬ rest.take 1 = [10] := by simpa using hb
   unfold nxt; rw [if_neg this]
 · rintro ξ σ ⟨_, rfl, rfl⟩
   exact xs_ret (ev_loc rfl rfl) ⟨rfl, .ret _⟩
 · rintro fl ξ σ h ⟨e, _⟩
   exact absurd e h
end
end
section
structure ItAt (P : Params) (y : Ly) (it bm : Addr) (t0 : Tok) (rest : List Nat) (line : Int) (on : Bool) (h : Heap) : Prop where
 lex : LexAt P y rest line h
 n1 : ¬ y.Wr it
 n2 : ¬ y.Wr bm
 n3 : ¬ y.Fx it
 n4 : ¬ y.Fx bm
 ne : it ≠ bm
 itr : h.get? it = some (if on then citOn bm t0 else citOff)
 bnd : h.get? bm = some (methodObj (.ref 63) (.ref y.lx))
noncomputable def itW (P : Params) (y : Ly) (it bm : Addr) (t0 : Tok) : Wd where
 X := List Nat × Int × Bool
 Wr := fun b => y.Wr b ∨ b = it ∨ b = bm
 Fx := y.Fx
 Φ := fun ξ h => ItAt P y it bm t0 ξ.1 ξ.2.1 ξ.2.2 h
 ex := fun x hb => by
  rcases hb with hb | rfl | rfl
  · exact x.lex.ex hb
  · exact ⟨_, x.itr⟩
  · exact ⟨_, x.bnd⟩
 fx := fun x hb => ⟨fun q => by
  rcases q with q | rfl | rfl
  · exact x.lex.dis _ hb q
  · exact x.n3 hb
  · exact x.n4 hb, (x.lex.fx hb).2⟩
 keep := fun x k => ⟨x.lex.keep fun b o hb => k b o (hb.imp .inl id), x.n1, x.n2, x.n3, x.n4, x.ne, k _ _ (.inl (.inr (.inl rfl))) x.itr, k _ _ (.inl (.inr (.inr rfl))) x.bnd⟩
set_option tactic.hygienic true in
theorem noOwn_str {it : Value} {x : Str} {t : Tok} {s : Shared} : noOwn it (.str x t) s := fun {M A E Q} target h => by
 unfold letOwnedTupleGo
 split
 · split
   · rename_i q; cases q
   · exact wpAny_pure h
 · split
   · rename_i q; cases q
   · exact wpAny_pure h
 · exact wpAny_pure h
section
variable {G : Gl} (g : IsG G)
include g
theorem fn63 {h : Heap} (T : TopG G h) : ∃ o fd, h.get? 63 = some o ∧ o.data = .func fd := by
 have X := T.k
 rw [g.K] at X
 exact ⟨_, _, X 63 _ rfl, rfl⟩
theorem it_next {y : Ly} {it bm : Addr} {t0 : Tok} {k : Nat} {rest : List Nat} {line : Int} (hk : k < 38) :
 XNext G (itW G.w.params y it bm t0) k (.ref it) (rest, line, true) (match rest with | [] => none | c :: _ => some (.str [c])) (rest.drop 1, (nxt (rest, line)).2, !rest.isEmpty) := by
 intro c μ σ A s X hA J
 have φ : ItAt G.w.params y it bm t0 rest line true s.heap := J.φ
 refine wp_tk (cit_next hA.1 (by simpa using φ.itr) φ.bnd (fn63 g J.r.topG) ?_)
 have hc := read_code g (y := y) (rest := rest) (line := line) (k := k + 1) (by exact dl1 2 39 1 38 hk rfl) A.in1 s (hA.in1 (by exact dl1 1 40 1 38 hk rfl)) J.r.tok J.r.bare (fun h hh => J.top' X h fun b o n e => hh b o (fun q => n (.inl q)) e) φ.lex
 refine codeAny_mono hc fun r s1 hr => ?_
 rcases r with e | fl
 · exact hr.elim
 cases fl with
 | ret v =>
  obtain ⟨ch, φ1, hv⟩ := hr
  have φ1' : LexAt G.w.params y (rest.drop 1) (nxt (rest, line)).2 s1.heap := φ1
  have ch' : Chg (fun b => y.Wr b ∨ b = it ∨ b = bm) noG s s1 := ch.wider (fun b h => .inl h) fun _ h => h
  have i1 : s1.heap.get? it = some (citOn bm t0) := ch.heap _ _ φ.n1 (by simpa using φ.itr)
  have b1 : s1.heap.get? bm = some (methodObj (.ref 63) (.ref y.lx)) := ch.heap _ _ φ.n2 φ.bnd
  have T1 : TopG G s1.heap := J.top' X _ fun b o n e => ch.heap b o (fun q => n (.inl q)) e
  obtain ⟨tx, rfl⟩ := hv
  refine ⟨i1, b1, fn63 g T1, _, tx, rfl, fun hx _ => ?_, fun hx h' hi hk' htk => ?_⟩
  · cases rest with
    | nil => exact absurd rfl hx
    | cons c r => exact ⟨ch', ⟨φ1', φ.n1, φ.n2, φ.n3, φ.n4, φ.ne, i1, b1⟩, ⟨tx, rfl⟩, noOwn_str⟩
  · cases rest with
    | cons c r => exact absurd (congrArg (fun z : Str => z.cps.size) hx) (by simp [toS]; decide)
    | nil =>
     refine ⟨⟨fun b o hb e => hk' b o (fun q => hb (.inr (.inl q))) (ch'.heap b o hb e), ch.os, ch.bare, ch.gens, htk⟩, ⟨φ1'.keep fun b o hb e => hk' b o (fun q => ?_) e, φ.n1, φ.n2, φ.n3, φ.n4, φ.ne, hi, hk' _ _ φ.ne.symm b1⟩, trivial⟩
     rcases hb with hb | hb
     · exact φ.n1 (q ▸ hb)
     · exact φ.n3 (q ▸ hb)
 | _ => exact hr.elim
theorem it_off {y : Ly} {it bm : Addr} {t0 : Tok} {k : Nat} {rest : List Nat} {line : Int} :
 XNext G (itW G.w.params y it bm t0) k (.ref it) (rest, line, false) none (rest, line, false) := by
 intro c μ σ A s X hA J
 have φ : ItAt G.w.params y it bm t0 rest line false s.heap := J.φ
 refine wp_tk (cit_off hA.1 (by simpa using φ.itr) fun h' hk' htk => ?_)
 exact ⟨⟨fun b o _ e => hk' b o e, rfl, fun h => h, fun _ _ _ e => e, htk⟩, (itW G.w.params y it bm t0).keep φ fun b o _ e => hk' b o e, trivial⟩
end
end
section
theorem in_add_str {G : Gl} {sc : Scope} {k : Nat} {σ : St} {x y : List Nat} (h : x.length + y.length ≤ 16777216) : Two G sc k σ (inplaceOp .Add) (.str x) (.str y) (.str (x ++ y)) := by
 rintro c μ A s v1 v2 hc hA r ⟨t, rfl⟩ ⟨u, rfl⟩
 exact wp_kp (iadd_str (fun t' tk => ⟨Kp0.tok s _, t', by rw [toS_append]⟩) (by rw [toS_length, toS_length, sizeLine_eq]; exact h))
theorem xpost_back {G : Gl} {P : Params} {y : Ly} {it bm : Addr} {t0 : Tok} {c : Cx} {Q : Fl -> (List Nat × Int) -> St -> Prop} {f : Flow} {s : Shared} (X : XC G (lexW P y) c)
 (h : XPost G (itW P y it bm t0) c (fun fl ξ σ => Q fl (ξ.1, ξ.2.1) σ) f s) : XPost G (lexW P y) c Q f s := by
 obtain ⟨fl, ξ, σ, μ, hq, J, hf⟩ := h
 have sub : ∀ a, ((lexW P y).cx c s).all μ a -> ((itW P y it bm t0).cx c s).all μ a := fun a h => by
  rcases h with (h | h) | h
  · exact .inl (.inl h)
  · exact .inl (.inr (.inl h))
  · exact .inr h
 have φ : ItAt P y it bm t0 ξ.1 ξ.2.1 ξ.2.2 s.heap := J.φ
 refine ⟨fl, (ξ.1, ξ.2.1), σ, μ, hq, ⟨?_, φ.lex⟩, ?_⟩
 · refine J.r.move (J.r.firm X.fm) rfl rfl (fun a o n _ m => n (sub a m)) (fun b o _ e => e) J.r.os (Nat.le_refl _) J.r.bare (fun g x h => ?_) (fun a o h => ?_) (fun h hb => X.top h fun a o e => hb a o (.inl e)) (fun a h => ?_) (fun a h => ⟨fun q => ?_, fun o q => ?_⟩) rfl X.fm
   · rcases h with h | h
     · exact J.r.gens g x (.inl h)
     · exact h.1.elim
   · rcases h with h | h
     · exact J.r.base a o (.inl h)
     · exact h.2
   · rcases h with h | h
     · obtain ⟨o, ho⟩ := X.old a h; exact ⟨o, .inl ho⟩
     · obtain ⟨o, ho⟩ := φ.lex.ex h; exact ⟨o, .inr ⟨h, ho⟩⟩
   · exact (J.r.mine a h).1 (q.imp id .inl)
   · exact (J.r.mine a h).2 o (q.imp id fun q => ⟨.inl q.1, q.2⟩)
 · cases fl with
   | ret d =>
    obtain ⟨hd, v, e, hv⟩ := hf
    exact ⟨hd, v, e, hv.firm (fun a o n _ m => n (sub a m)) (fun _ _ _ e => e) hd⟩
   | _ => exact hf
section
variable {G : Gl} (g : IsG G)
include g
theorem no_iter : G.mg "iter" = none := g.mg _ _ rfl
theorem mb_iter : G.mb "iter" = some (.builtin "iter") := (g.mb _ (by decide)).trans (by decide +kernel)
theorem xs_fiter {sc : Scope} {k : Nat} {σ : St} {y : Ly} {rest : List Nat} {line : Int} {ss : List Stmt} {Q : Fl -> (List Nat × Int) -> St -> Prop} {p1 p2 p3 p4 p5 p6 p7 : Pos} {n : Nat}
 (hn : sc.names.lookup ("self" : Str) = some .local) (hf : sc.names.lookup ("fiter" : Str) = some .local) (hi : sc.names.lookup ("iter" : Str) = some .globalImplicit) (hv : σ.vars.lookup ("self" : Str) = some (.val (.ref y.lx)))
 (h : ∀ it bm t0, xExs G (itW G.w.params y it bm t0) sc k (rest, line, true) (σ.set "fiter" (.val (.ref it))) ss (fun fl ξ' σ' => Q fl (ξ'.1, ξ'.2.1) σ'))
 (hs : ∀ env, swapsWith (.Call (.Name "iter" p2) [.Attribute (.Name "self" p3) "_read_char" p4, .Constant (.str "") n p5] [] p6) (some (.Name "fiter" p1)) p7.line env = pure false) :
 xExs G (lexW G.w.params y) sc k (rest, line) σ (.Assign [.Name "fiter" p1] (.Call (.Name "iter" p2) [.Attribute (.Name "self" p3) "_read_char" p4, .Constant (.str "") n p5] [] p6) p7 :: ss) Q := by
 intro c μ A s hc X hA J
 have hx : exec (.Assign [.Name "fiter" p1] (.Call (.Name "iter" p2) [.Attribute (.Name "self" p3) "_read_char" p4, .Constant (.str "") n p5] [] p6) p7) c.env = (do
  standAt p7
  let v ← eval (.Call (.Name "iter" p2) [.Attribute (.Name "self" p3) "_read_char" p4, .Constant (.str "") n p5] [] p6) c.env
  assign (.Name "fiter" p1) c.env v
  pure .next) := exec_Assign_Name c.env "fiter" p1 _ p7 (hs c.env)
 refine wpAny_execs_cons ?_
 rw [hx]
 refine wpAny_bind (wpAny_standAt (wpAny_bind ?_))
 have he : eval (.Call (.Name "iter" p2) [.Attribute (.Name "self" p3) "_read_char" p4, .Constant (.str "") n p5] [] p6) c.env = (do callWith p6 (← eval (.Name "iter" p2) c.env) [] (backTo p6 (starEach [.Attribute (.Name "self" p3) "_read_char" p4, .Constant (.str "") n p5] c.env)) []) := rfl
 rw [he]
 refine wpAny_bind (wpAny_mono ((show Ev G sc k σ (.Name "iter" p2) (.val (.builtin "iter")) from ev_blt hi (no_iter g) (mb_iter g)) ((lexW G.w.params y).cx c s) μ A s hc hA J.r) (fun v0 s0 hq => ?_) fun _ _ f => f)
 obtain ⟨k0, hv0⟩ := hq
 have hv0' : v0 = .builtin "iter" := hv0
 subst hv0'
 have J0 := J.kp X k0
 refine Calls.callWith_builtin rfl (Calls.evalArgs_plain (Calls.spliced_cons ?_))
 refine Attribute_any_ (wpAny_mono ((show Ev G sc k σ (.Name "self" p3) (.val (.ref y.lx)) from ev_loc hn hv) ((lexW G.w.params y).cx c s0) μ A s0 hc hA J0.r) (fun v1 s1 hq => ?_) fun _ _ f => f)
 obtain ⟨k1, hv1⟩ := hq
 have hv1' : v1 = .ref y.lx := hv1
 subst hv1'
 have J1 := J0.kp X k1
 have φ1 : LexAt G.w.params y rest line s1.heap := J1.φ
 obtain ⟨mA, I, M⟩ := φ1.lexer
 have hrd : mA "_read_char" = none := by
  cases e : mA "_read_char" with
  | none => rfl
  | some v => exact absurd (M.within "_read_char" (by rw [e]; simp)) (by decide)
 refine attr_bound g J1.r.topG I hrd ?_
 refine Calls.spliced_cons (fun _ _ _ => ?_)
 refine Calls.spliced_nil ?_
 have hb : (s1.heap.push (methodObj (.ref 63) (.ref y.lx))).get? s1.heap.objs.size = some (methodObj (.ref 63) (.ref y.lx)) := Heap.get?_push_size _ rfl
 refine iter_call (f := 63) (self := .ref y.lx) hb ?_
 generalize hs3 : ({ heap := (s1.heap.push (methodObj (.ref 63) (.ref y.lx))).push (citOn s1.heap.objs.size (s1.toks + 1)), gens := s1.gens, drawn := s1.drawn, toks := s1.toks + 1 + 1, os := s1.os } : Shared) = s3
 have k3 : Kp s1 s3 := by
  subst hs3
  exact ⟨Kp0.htok fun b o e => Heap.get?_push_of_some _ (Heap.get?_push_of_some _ e), by show s1.toks ≤ s1.toks + 1 + 1; exact dl0 0 2 rfl⟩
 generalize hit : (s1.heap.push (methodObj (.ref 63) (.ref y.lx))).objs.size = it
 generalize hbm : s1.heap.objs.size = bm at *
 have f1 : s1.heap.get? it = none := by rw [← hit, Heap.size_push]; exact Heap.get?_none_of_le (Nat.le_succ _)
 have f2 : s1.heap.get? bm = none := by rw [← hbm]; exact fresh_size _
 have J3 := J1.kp X k3
 have φ3 : ItAt G.w.params y it bm (s1.toks + 1) rest line true s3.heap := by
  refine ⟨J3.φ, fun q => ?_, fun q => ?_, fun q => ?_, fun q => ?_, ?_, ?_, ?_⟩
  · obtain ⟨o, ho⟩ := φ1.ex q; rw [f1] at ho; cases ho
  · obtain ⟨o, ho⟩ := φ1.ex q; rw [f2] at ho; cases ho
  · obtain ⟨_, o, ho⟩ := φ1.fx q; rw [f1] at ho; cases ho
  · obtain ⟨_, o, ho⟩ := φ1.fx q; rw [f2] at ho; cases ho
  · rw [← hit, ← hbm, Heap.size_push]; exact Nat.succ_ne_self _
  · subst hs3; rw [← hit]; exact Heap.get?_push_size _ rfl
  · subst hs3; exact Heap.get?_push_of_some _ hb
 have hwr : ∀ b, (itW G.w.params y it bm (s1.toks + 1)).Wr b -> ∀ o, ¬ c.base b o := fun b hb' o ho => by
  have e := J1.r.base b o (.inl ho)
  rcases hb' with hb' | rfl | rfl
  · exact X.wr b hb' o ho
  · rw [f1] at e; cases e
  · rw [f2] at e; cases e
 have X' : XC G (itW G.w.params y it bm (s1.toks + 1)) c := ⟨X.top, X.old, hwr, X.fx, X.fm⟩
 have J3' : XJ G (itW G.w.params y it bm (s1.toks + 1)) c μ σ (rest, line, true) s3 := by
  refine ⟨J1.r.move (J1.r.firm X.fm) rfl rfl (fun a o n e m => ?_) (fun b o _ e => k3.heap b o e) (k3.os.trans J1.r.os) k3.toks (k3.bare J1.r.bare) (fun g x h => ?_) (fun a o h => ?_) (fun h hb => X.top h fun a o e => hb a o (.inl e)) (fun a h => ?_) (fun a h => ?_) rfl X.fm, φ3⟩
  · rcases m with (m | m | rfl | rfl) | m
    · exact n (.inl (.inl m))
    · exact n (.inl (.inr m))
    · rw [f1] at e; cases e
    · rw [f2] at e; cases e
    · exact n (.inr m)
  · rcases h with h | h
    · exact k3.gens g x (J1.r.gens g x (.inl h))
    · exact h.1.elim
  · rcases h with h | h
    · exact k3.heap a o (J1.r.base a o (.inl h))
    · exact h.2
  · rcases h with h | h
    · obtain ⟨o, ho⟩ := X.old a h; exact ⟨o, .inl ho⟩
    · obtain ⟨o, ho⟩ := (itW G.w.params y it bm (s1.toks + 1)).ex (ξ := (rest, line, true)) φ3 h; exact ⟨o, .inr ⟨h, ho⟩⟩
  · obtain ⟨om, hm⟩ := J1.r.mutAt (a := a) h
    have e1 := (J1.r.mine a h).1
    have e2 := (J1.r.mine a h).2
    have no : ¬ (itW G.w.params y it bm (s1.toks + 1)).Wr a := fun q => by
     rcases q with q | rfl | rfl
     · exact e1 (.inr q)
     · rw [f1] at hm; cases hm
     · rw [f2] at hm; cases hm
    refine ⟨fun q => ?_, fun o q => ?_⟩
    · rcases q with q | q
      · exact e1 (.inl q)
      · exact no q
    · rcases q with q | q
      · exact e2 o (.inl q)
      · exact no q.1
 refine wpAny_bind (wpAny_mono ((show As G sc k (.Name "fiter" p1) (.val (.ref it)) σ (σ.set "fiter" (.val (.ref it))) from as_loc hf rfl) ((itW G.w.params y it bm (s1.toks + 1)).cx c s3) μ A s3 _ hc X.fm hA J3'.r rfl) (fun _ s4 ⟨r4, _⟩ => wpAny_pure ?_) fun _ _ f => f)
 exact wpAny_mono (h it bm (s1.toks + 1) c μ A s4 hc X' hA (J3'.go X' r4)) (fun f s5 q => xpost_back X q) fun _ _ f => f
end
end
section
noncomputable def lineOf (c : Nat) (l : Int) : Int := if c = 10 then l + 1 else l
noncomputable def sGo (stop : Nat -> Bool) : List Nat -> Int -> List Nat -> List Nat × List Nat × Int
 | [], l, tok => (tok, [], l)
 | [c], l, tok => if stop c then (tok, [], lineOf c l) else if c = 92 then (tok, [], lineOf c l) else (tok ++ [c], [], lineOf c l)
 | c :: d :: r, l, tok => if stop c then (tok, d :: r, lineOf c l) else if c = 92 then sGo stop r (lineOf d (lineOf c l)) (tok ++ [d]) else sGo stop (d :: r) (lineOf c l) (tok ++ [c])
noncomputable def isWs (c : Nat) : Bool := wsL.contains c
noncomputable def tGo : List Nat -> Int -> List Nat × List Nat × Int
 | [], l => ([], [], l)
 | c :: r, l => if isWs c then tGo r (lineOf c l) else if c = 34 then sGo (· == 34) r (lineOf c l) [] else if c = 92 then sGo isWs (r.drop 1) (nxt (r, lineOf c l)).2 (r.take 1) else sGo isWs r (lineOf c l) [c]
section
variable {G : Gl} (g : IsG G)
include g
theorem xtr_pushback {sc : Scope} {k : Nat} {σ : St} {y : Ly} {ξ : List Nat × Int} {p1 p2 : Pos} (hn : sc.names.lookup ("self" : Str) = some .local) (hv : σ.vars.lookup ("self" : Str) = some (.val (.ref y.lx))) :
 xTr G (lexW G.w.params y) sc k ξ σ (.Attribute (.Name "self" p1) "pushback" p2) false := by
 intro c μ A s hc X hA J
 have hT : ∀ whole, isTrue (.Attribute (.Name "self" p1) "pushback" p2) c.env whole = (do let v ← whole; standAt (Expr.Attribute (.Name "self" p1) "pushback" p2).pos; holding [v] (truthy v)) := by intros; rfl
 rw [hT]
 refine wp_tk (wpAny_bind (Attribute_any_ (wpAny_mono ((show Ev G sc k σ (.Name "self" p1) (.val (.ref y.lx)) from ev_loc hn hv) ((lexW G.w.params y).cx c s) μ A s hc hA J.r) (fun v s1 hq => ?_) fun _ _ f => f)))
 obtain ⟨k1, hv1⟩ := hq
 have hv1' : v = .ref y.lx := hv1
 subst hv1'
 have J1 := J.kp X k1
 have φ1 : LexAt G.w.params y ξ.1 ξ.2 s1.heap := J1.φ
 obtain ⟨mA, I, M⟩ := φ1.lexer
 refine attr_own (cls80 g J1.r.topG) (mN_ga _) (mN_pb _) oB_pb I M.pb rfl ?_
 refine wpAny_bind (wpAny_standAt (wpAny_holding (wpAny_truthy_list φ1.pbl.isList (by decide) fun htk => ⟨⟨⟨k1.heap, k1.os, k1.bare, k1.gens⟩, htk⟩, rfl⟩)))
theorem xtr_ws {sc : Scope} {k : Nat} {σ : St} {y : Ly} {it bm : Addr} {t0 : Tok} {ξ : List Nat × Int × Bool} {c : Nat} {p0 p1 p2 p3 : Pos} (hn : sc.names.lookup ("self" : Str) = some .local) (hv : σ.vars.lookup ("self" : Str) = some (.val (.ref y.lx)))
 (hn' : sc.names.lookup ("ch" : Str) = some .local) (hv' : σ.vars.lookup ("ch" : Str) = some (.str [c])) :
 xTr G (itW G.w.params y it bm t0) sc k ξ σ (.Compare (.Name "ch" p0) [.In] [.Attribute (.Name "self" p1) "whitespace" p2] p3) (wsL.contains c) := by
 intro cx μ A s hc X hA J
 refine wp_tk (wpAny_isTrue_Compare1 (wpAny_mono ((show Ev G sc k σ (.Name "ch" p0) (.str [c]) from ev_loc hn' hv') ((itW G.w.params y it bm t0).cx cx s) μ A s hc hA J.r) (fun v0 s0 hq => ?_) fun _ _ f => f) (by with_unfolding_all rfl))
 obtain ⟨k0, hv0⟩ := hq
 have J0 := J.kp X k0
 refine Attribute_any_ (wpAny_mono ((show Ev G sc k σ (.Name "self" p1) (.val (.ref y.lx)) from ev_loc hn hv) ((itW G.w.params y it bm t0).cx cx s0) μ A s0 hc hA J0.r) (fun v s1 hq => ?_) fun _ _ f => f)
 obtain ⟨k1, hv1⟩ := hq
 have hv1' : v = .ref y.lx := hv1
 subst hv1'
 have J1 := J0.kp X k1
 have φ1 : ItAt G.w.params y it bm t0 ξ.1 ξ.2.1 ξ.2.2 s1.heap := J1.φ
 obtain ⟨mA, I, M⟩ := φ1.lex.lexer
 obtain ⟨tw, hw⟩ := M.ws
 refine attr_own (cls80 g J1.r.topG) (mN_ga _) (mN_ws _) oB_ws I hw rfl ?_
 have k2 : Kp s1 { s1 with toks := s1.toks + 1 } := Kp.tok _ _
 have J2 := J1.kp X k2
 refine wpAny_mono (cmp_in_str (G := G) (sc := sc) (k := k) (σ := σ) (x := wsL) (y := [c]) ((itW G.w.params y it bm t0).cx cx { s1 with toks := s1.toks + 1 }) μ A { s1 with toks := s1.toks + 1 } v0 _ hc hA J2.r (hv0.flat rfl) ⟨tw, rfl⟩) (fun v s3 hq => ?_) fun _ _ f => f
 obtain ⟨k3, h3⟩ := hq
 have h3' : v = .bool (Txt.contains (toS wsL) (toS [c])) := h3
 subst h3'
 exact wpAny_truthy_bool fun _ => ⟨((k0.trans k1).trans k2).trans k3, by rw [toS_one, contains_one]⟩
theorem xev_readc {sc : Scope} {k : Nat} {σ : St} {y : Ly} {it bm : Addr} {t0 : Tok} {rest : List Nat} {line : Int} {on : Bool} {p1 p4 ap : Pos} (hk : k < 39) (hn : sc.names.lookup ("self" : Str) = some .local) (hv : σ.vars.lookup ("self" : Str) = some (.val (.ref y.lx))) (hline : (ap.endLine == p4.line) = true) :
 xEv G (itW G.w.params y it bm t0) sc k (rest, line, on) σ (.Call (.Attribute (.Name "self" p1) "_read_char" ap) [] [] p4) (.str (rest.take 1)) (rest.drop 1, (nxt (rest, line)).2, on) := by
 intro c μ A s hc X hA J
 refine wp_Call_meth (wpAny_mono ((show Ev G sc k σ (.Name "self" p1) (.val (.ref y.lx)) from ev_loc hn hv) ((itW G.w.params y it bm t0).cx c s) μ A s hc hA J.r) (fun v s1 hq => ?_) fun _ _ f => f) rfl rfl hline
 obtain ⟨k1, hv1⟩ := hq
 have hv1' : v = .ref y.lx := hv1
 subst hv1'
 have J1 := J.kp X k1
 have φ1 : ItAt G.w.params y it bm t0 rest line on s1.heap := J1.φ
 obtain ⟨mA, I, M⟩ := φ1.lex.lexer
 have hrd : mA "_read_char" = none := by
  cases e : mA "_read_char" with
  | none => rfl
  | some v => exact absurd (M.within "_read_char" (by rw [e]; simp)) (by decide)
 obtain ⟨of, hof, hcf⟩ := fnc g 63 rfl J1.r.topG
 obtain ⟨of', fd, hof', hdf⟩ := fn63 g J1.r.topG
 intro pl
 refine meth_cls (cls80 g J1.r.topG) (mN_ga _) (mN_gh _) (mN_read _) hof hcf oB_read I hrd ?_
 refine callWith_meth0 hdf hof' ?_
 refine wpAny_mono ((read_code g (k := k) hk).cal A s1 hA J1.r.tok J1.r.bare (fun h hh => J1.top' X h fun b o n e => hh b o (fun q => n (.inl q)) e) φ1.lex) (fun v s3 hq => ?_) fun _ _ f => f
 obtain ⟨ch, φ3, hv3⟩ := hq
 have ch' : Chg (fun b => y.Wr b ∨ b = it ∨ b = bm) noG s1 s3 := ch.wider (fun b h => .inl h) fun _ h => h
 exact ⟨(Chg.of_kp k1).trans ch', ⟨φ3, φ1.n1, φ1.n2, φ1.n3, φ1.n4, φ1.ne, ch.heap _ _ φ1.n1 φ1.itr, ch.heap _ _ φ1.n2 φ1.bnd⟩, Holds.flat rfl hv3⟩
end
end
section
structure TokSt (y : Ly) (it : Addr) (tok : List Nat) (σ : St) : Prop where
 self : σ.vars.lookup ("self" : Str) = some (.val (.ref y.lx))
 token : σ.vars.lookup ("token" : Str) = some (.str tok)
 fiter : σ.vars.lookup ("fiter" : Str) = some (.val (.ref it))
theorem TokSt.ch {y : Ly} {it : Addr} {tok : List Nat} {σ : St} (h : TokSt y it tok σ) (d : D) : TokSt y it tok (σ.set "ch" d) where
 self := by simp only [St.set, setL_lookup]; rw [if_neg (by decide)]; exact h.self
 token := by simp only [St.set, setL_lookup]; rw [if_neg (by decide)]; exact h.token
 fiter := by simp only [St.set, setL_lookup]; rw [if_neg (by decide)]; exact h.fiter
theorem TokSt.tok {y : Ly} {it : Addr} {tok : List Nat} {σ : St} (h : TokSt y it tok σ) (t2 : List Nat) : TokSt y it t2 (σ.set "token" (.str t2)) where
 self := by simp only [St.set, setL_lookup]; rw [if_neg (by decide)]; exact h.self
 token := by simp [St.set, setL_lookup]
 fiter := by simp only [St.set, setL_lookup]; rw [if_neg (by decide)]; exact h.fiter
theorem set_ch (σ : St) (d : D) : (σ.set "ch" d).vars.lookup ("ch" : Str) = some d := by simp [St.set, setL_lookup]
theorem nxt_cons (c : Nat) (r : List Nat) (l : Int) : (nxt (c :: r, l)).2 = lineOf c l := by
 unfold nxt lineOf; simp
theorem nxt_nil (l : Int) : (nxt ([], l)).2 = l := by unfold nxt; simp
structure TokSc (sc : Scope) : Prop where
 self : sc.names.lookup ("self" : Str) = some .local
 token : sc.names.lookup ("token" : Str) = some .local
 fiter : sc.names.lookup ("fiter" : Str) = some .local
 ch : sc.names.lookup ("ch" : Str) = some .local
 iter : sc.names.lookup ("iter" : Str) = some .globalImplicit
theorem sGo_esc (stop : Nat -> Bool) (r : List Nat) (l : Int) (tok : List Nat) (h : stop 92 = false) : sGo stop (92 :: r) l tok = sGo stop (r.drop 1) (nxt (r, lineOf 92 l)).2 (tok ++ r.take 1) := by
 cases r with
 | nil => simp only [sGo, h, List.drop_nil, List.take_nil, List.append_nil, nxt_nil]; rfl
 | cons d r => rw [nxt_cons]; simp only [sGo, h, Bool.false_eq_true, if_false, if_true, List.drop_succ_cons, List.drop_zero, List.take_succ_cons, List.take_zero]
theorem sGo_one (stop : Nat -> Bool) (c : Nat) (r : List Nat) (l : Int) (tok : List Nat) (h : stop c = false) (h9 : c ≠ 92) : sGo stop (c :: r) l tok = sGo stop r (lineOf c l) (tok ++ [c]) := by
 cases r with
 | nil => simp only [sGo, h, Bool.false_eq_true, if_false, if_neg h9]
 | cons d r => simp only [sGo, h, Bool.false_eq_true, if_false, if_neg h9]
theorem sGo_stop (stop : Nat -> Bool) (c : Nat) (r : List Nat) (l : Int) (tok : List Nat) (h : stop c = true) : sGo stop (c :: r) l tok = (tok, r, lineOf c l) := by
 cases r with
 | nil => simp only [sGo, h, if_true]
 | cons d r => simp only [sGo, h, if_true]
noncomputable def TokQ (y : Ly) (it : Addr) (T : List Nat × List Nat × Int) (fl : Fl) (ξ : List Nat × Int × Bool) (σ : St) : Prop := match fl with
 | .next => ∃ l tok, ξ = ([], l, false) ∧ TokSt y it tok σ ∧ T = (tok, [], l)
 | .ret d => d = .str T.1 ∧ ξ.1 = T.2.1 ∧ ξ.2.1 = T.2.2
 | _ => False
section
variable {G : Gl} (g : IsG G)
include g
theorem tok_loop {sc : Scope} {k : Nat} {σ : St} {y : Ly} {it bm : Addr} {t0 : Tok} {rest : List Nat} {line : Int} {tok : List Nat} {te : Expr} {stop : Nat -> Bool} {q1 q2 q3 q4 q5 q6 q7 q8 q9 q10 q11 q12 q13 q14 q15 q16 p ap : Pos} {n1 : Nat} (S : TokSc sc) (hk : k < 38)
 (hst : TokSt y it tok σ) (hroom : rest.length + tok.length ≤ 16777216) (h92 : stop 92 = false)
 (hte : ∀ ξ σ tok c, TokSt y it tok σ -> σ.vars.lookup ("ch" : Str) = some (.str [c]) -> xTr G (itW G.w.params y it bm t0) sc k ξ σ te (stop c))
 (hline : (ap.endLine == q10.line) = true) (hsw : ∀ env, swapsWith (.Call (.Attribute (.Name "self" q9) "_read_char" ap) [] [] q10) (some (.Name "ch" q8)) q11.line env = pure false) :
 xEx G (itW G.w.params y it bm t0) sc k (rest, line, true) σ (.For (.Name "ch" q1) (.Name "fiter" q2)
  [.If te [.Return (some (.Name "token" q3)) q4] [.If (.Compare (.Name "ch" q5) [.Eq] [.Constant (.str "\\") n1 q6] q7) [.Assign [.Name "ch" q8] (.Call (.Attribute (.Name "self" q9) "_read_char" ap) [] [] q10) q11] [] q12] q13,
   .AugAssign (.Name "token" q14) .Add (.Name "ch" q15) q16] [] p) (TokQ y it (sGo stop rest line tok)) := by
 generalize hT : sGo stop rest line tok = T
 refine x_for (it := .ref it) (ev_loc S.fiter hst.fiter) (fun n ξ σ => ∃ rest line tok, ξ = (rest, line, true) ∧ n = rest.length ∧ TokSt y it tok σ ∧ sGo stop rest line tok = T ∧ rest.length + tok.length ≤ 16777216)
  (n0 := rest.length) ⟨rest, line, tok, rfl, rfl, hst, hT, hroom⟩ (fun c μ A σ ξ s Q' X hA J h => cit_iter (show ItAt G.w.params y it bm t0 ξ.1 ξ.2.1 ξ.2.2 s.heap from J.φ).itr (by split <;> rfl) h) ?_
 rintro n ξ σ1 ⟨rest, line, tok, rfl, rfl, hst, hT, hroom⟩
 cases rest with
 | nil =>
  refine .inl ⟨_, it_next g (rest := []) hk, ?_⟩
  refine ⟨line, tok, ?_, hst, hT.symm⟩
  rw [nxt_nil]; rfl
 | cons c r =>
  refine .inr ⟨.str [c], _, _, it_next g (rest := c :: r) hk, as_loc S.ch rfl, ?_⟩
  rw [nxt_cons]
  have hst2 := hst.ch (.str [c])
  have hch := set_ch σ1 (.str [c])
  generalize σ1.set "ch" (.str [c]) = σ2 at hst2 hch
  have hlen : r.length + 1 + tok.length ≤ 16777216 := by simpa using hroom
  refine xs_cons (Q1 := fun fl ξ' σ' => match fl with
   | .next => ∃ r' l' e, ξ' = (r', l', true) ∧ TokSt y it tok σ' ∧ σ'.vars.lookup ("ch" : Str) = some (.str e) ∧ r'.length ≤ r.length ∧ r'.length + e.length ≤ r.length + 1 ∧ sGo stop r' l' (tok ++ e) = T
   | .ret d => d = .str T.1 ∧ ξ'.1 = T.2.1 ∧ ξ'.2.1 = T.2.2
   | _ => False) (x_if (hte _ _ tok c hst2 hch) (fun hb => ?_) (fun hb => ?_)) ?_ ?_
  · rw [sGo_stop stop c r line tok hb] at hT
    subst hT
    exact xs_ret (ev_loc S.token hst2.token) ⟨rfl, rfl, rfl⟩
  · refine xs_cons (Q1 := fun fl ξ' σ' => fl = .next ∧ ∃ r' l' e, ξ' = (r', l', true) ∧ TokSt y it tok σ' ∧ σ'.vars.lookup ("ch" : Str) = some (.str e) ∧ r'.length ≤ r.length ∧ r'.length + e.length ≤ r.length + 1 ∧ sGo stop r' l' (tok ++ e) = T)
     (x_if (b := [c] == [92]) (xTr_of (tr_cmp (ev_loc S.ch hch) (ev_str (x := "\\")) cmp_eq_str)) (fun h9 => ?_) (fun h9 => ?_)) ?_ ?_
    · have hc : c = 92 := by simpa using h9
      subst hc
      refine xs_one (x_asg rfl (xev_readc g (by exact dl1 1 39 1 38 hk rfl) S.self hst2.self hline) (as_loc S.ch rfl) hsw) (xs_nil ⟨rfl, r.drop 1, _, r.take 1, rfl, hst2.ch _, set_ch _ _, by simp, by rw [List.length_drop, List.length_take]; exact sb8, ?_⟩)
      exact (sGo_esc stop r line tok h92).symm.trans hT
    · have hc : c ≠ 92 := by simpa using h9
      refine xs_nil ⟨rfl, r, _, [c], rfl, hst2, hch, Nat.le_refl _, by simp, ?_⟩
      exact (sGo_one stop c r line tok hb hc).symm.trans hT
    · rintro ξ' σ' ⟨_, r', l', e, h⟩
      exact xs_nil ⟨r', l', e, h⟩
    · rintro fl ξ' σ' hne ⟨e, _⟩
      exact absurd e hne
  · rintro ξ' σ' ⟨r', l', e, rfl, h1, h2, h3, h4, h5⟩
    refine xs_plain (ex_aug S.token h1.token (ev_loc S.ch h2) (in_add_str (by omega)) rfl) (xs_nil ⟨r'.length, by simp; exact dl1 1 1 0 0 h3 rfl, r', l', tok ++ e, rfl, rfl, h1.tok _, h5, by simp; omega⟩)
  · intro fl ξ' σ' hne h
    cases fl with
    | next => exact absurd rfl hne
    | ret d => exact h
    | brk => exact h.elim
    | cont => exact h.elim
end
end
section
theorem tGo_ws (c : Nat) (r : List Nat) (l : Int) (h : isWs c = true) : tGo (c :: r) l = tGo r (lineOf c l) := by simp only [tGo, h, if_true]
theorem tGo_q (r : List Nat) (l : Int) : tGo (34 :: r) l = sGo (· == 34) r (lineOf 34 l) [] := rfl
theorem tGo_esc (r : List Nat) (l : Int) : tGo (92 :: r) l = sGo isWs (r.drop 1) (nxt (r, lineOf 92 l)).2 (r.take 1) := rfl
theorem tGo_one (c : Nat) (r : List Nat) (l : Int) (h : isWs c = false) (h3 : c ≠ 34) (h9 : c ≠ 92) : tGo (c :: r) l = sGo isWs r (lineOf c l) [c] := by
 simp only [tGo, h, Bool.false_eq_true, if_false, if_neg h3, if_neg h9]
section
variable {G : Gl} (g : IsG G)
include g
theorem tok_code {y : Ly} {k : Nat} {rest : List Nat} {line : Int} (hk : k < 37) (hroom : rest.length ≤ 16777216) :
 xCode G (lexW G.w.params y) k (.ref 70) [.ref y.lx] (rest, line) (.str (tGo rest line).1) (tGo rest line).2 := by
 generalize hT : tGo rest line = T
 refine xcode_fn (fn_get_token g) (by exact dl1 1 40 1 37 hk rfl) (ds := [.val (.ref y.lx)]) rfl (fun d hd => by rw [List.mem_singleton.mp hd]; rfl) ⟨rfl, trivial⟩ ?_ rfl
 refine xs_cons (Q1 := fun fl ξ σ => fl = .next ∧ ξ = (rest, line) ∧ σ = ⟨List.zip ["self"] [D.val (Value.ref y.lx)], []⟩) (x_if (b := false) (xtr_pushback g rfl rfl) (fun h => nomatch h) fun _ => xs_nil ⟨rfl, rfl, rfl⟩) ?_ (fun fl ξ σ hne h => absurd h.1 hne)
 rintro ξ σ ⟨_, rfl, rfl⟩
 refine xs_plain (ex_asg rfl ev_str (as_loc rfl rfl)) ?_
 refine xs_fiter g rfl rfl rfl rfl (fun it bm t0 => ?_) (fun _ => rfl)
 have hst : TokSt y it [] (((⟨List.zip ["self"] [D.val (Value.ref y.lx)], []⟩ : St).set "token" (.str (Str.ofString "").cps.toList)).set "fiter" (.val (.ref it))) := ⟨rfl, rfl, rfl⟩
 generalize ((⟨List.zip ["self"] [D.val (Value.ref y.lx)], []⟩ : St).set "token" (.str (Str.ofString "").cps.toList)).set "fiter" (.val (.ref it)) = σ0 at hst
 have S : TokSc (fdAt G.w.params 70).scope := ⟨rfl, rfl, rfl, rfl, rfl⟩
 refine xs_cons (Q1 := TokQ y it T) ?_ ?_ ?_
 · refine x_for (it := .ref it) (ev_loc S.fiter hst.fiter) (fun n ξ σ => (∃ rest line, ξ = (rest, line, true) ∧ n = rest.length + 2 ∧ TokSt y it [] σ ∧ tGo rest line = T ∧ rest.length ≤ 16777216) ∨ (∃ l tok, ξ = ([], l, false) ∧ n = 1 ∧ TokSt y it tok σ ∧ T = (tok, [], l)))
    (n0 := rest.length + 2) (.inl ⟨rest, line, rfl, rfl, hst, hT, hroom⟩) (fun c μ A σ ξ s Q' X hA J h => cit_iter (show ItAt G.w.params y it bm t0 ξ.1 ξ.2.1 ξ.2.2 s.heap from J.φ).itr (by split <;> rfl) h) ?_
   rintro n ξ σ1 (⟨rest, line, rfl, rfl, hst, hT, hroom⟩ | ⟨l, tok, rfl, rfl, hst, hT⟩)
   · cases rest with
     | nil =>
      refine .inl ⟨_, it_next g (rest := []) (by exact dl1 2 38 1 37 hk rfl), ?_⟩
      refine ⟨line, [], ?_, hst, hT.symm⟩
      rw [nxt_nil]; rfl
     | cons c r =>
      refine .inr ⟨.str [c], _, _, it_next g (rest := c :: r) (by exact dl1 2 38 1 37 hk rfl), as_loc S.ch rfl, ?_⟩
      rw [nxt_cons]
      have hst2 := hst.ch (.str [c])
      have hch := set_ch σ1 (.str [c])
      generalize σ1.set "ch" (.str [c]) = σ2 at hst2 hch
      have hlen : r.length + 1 ≤ 16777216 := by simpa using hroom
      have more : ∀ (b : Bool), b = true → TokQ y it T .next = TokQ y it T .next := fun _ _ => rfl
      refine xs_cons (Q1 := fun fl ξ' σ' => (fl = .next ∧ ξ' = (r, lineOf c line, true) ∧ σ' = σ2 ∧ isWs c = false) ∨ (fl = .cont ∧ ξ' = (r, lineOf c line, true) ∧ σ' = σ2 ∧ isWs c = true)) (x_if (b := isWs c) (xtr_ws g S.self hst2.self S.ch hch) (fun hb => xs_cont (.inr ⟨rfl, rfl, rfl, hb⟩)) (fun hb => xs_nil (.inl ⟨rfl, rfl, rfl, hb⟩))) ?_ ?_
      · rintro ξ' σ' (⟨_, rfl, rfl, hw⟩ | ⟨e, _⟩)
        · refine xs_cons (Q1 := TokQ y it T) (x_if (b := [c] == [34]) (xTr_of (tr_cmp (ev_loc S.ch hch) (ev_str (x := "\"")) cmp_eq_str)) (fun h3 => ?_) (fun h3 => ?_)) ?_ ?_
          · have hc : c = 34 := by simpa using h3
            subst hc
            rw [tGo_q] at hT
            refine xs_cons (Q1 := TokQ y it T) (by rw [← hT]; exact tok_loop g S (by exact dl1 2 38 1 37 hk rfl) hst2 (by simp; exact dl1 0 16777216 1 16777216 hlen rfl) rfl (fun ξ σ tok c h1 h2 => by
             have hb : (c == 34) = ([c] == [34]) := by simp
             rw [hb]
             exact xTr_of (tr_cmp (ev_loc S.ch h2) (ev_str (x := "\"")) cmp_eq_str)) rfl fun _ => rfl) (fun ξ' σ' h => xs_nil h) fun fl ξ' σ' hne h => h
          · have hc : c ≠ 34 := by simpa using h3
            refine xs_cons (Q1 := fun fl ξ' σ' => fl = .next ∧ ∃ r' l' e, ξ' = (r', l', true) ∧ TokSt y it [] σ' ∧ σ'.vars.lookup ("ch" : Str) = some (.str e) ∧ r'.length + e.length ≤ r.length + 1 ∧ sGo isWs r' l' e = T)
             (x_if (b := [c] == [92]) (xTr_of (tr_cmp (ev_loc S.ch hch) (ev_str (x := "\\")) cmp_eq_str)) (fun h9 => ?_) (fun h9 => ?_)) ?_ (fun fl ξ' σ' hne h => absurd h.1 hne)
            · have hc9 : c = 92 := by simpa using h9
              subst hc9
              refine xs_one (x_asg rfl (xev_readc g (by exact dl1 2 39 1 37 hk rfl) S.self hst2.self rfl) (as_loc S.ch rfl)) (xs_nil ⟨rfl, r.drop 1, _, r.take 1, rfl, hst2.ch _, set_ch _ _, by rw [List.length_drop, List.length_take]; exact sb8, ?_⟩)
              exact (tGo_esc r line).symm.trans hT
            · have hc9 : c ≠ 92 := by simpa using h9
              refine xs_nil ⟨rfl, r, _, [c], rfl, hst2, hch, by simp, ?_⟩
              exact (tGo_one c r line hw hc hc9).symm.trans hT
            · rintro ξ' σ' ⟨_, r', l', e, rfl, h1, h2, h4, h5⟩
              refine xs_plain (ex_aug S.token h1.token (ev_loc S.ch h2) (in_add_str (x := []) (y := e) (by show 0 + e.length ≤ _; omega)) rfl) ?_
              have h6 := h1.tok ([] ++ e)
              refine xs_cons (Q1 := TokQ y it T) (by rw [← h5]; exact tok_loop g S (by exact dl1 2 38 1 37 hk rfl) h6 (by show _ + (([] : List Nat) ++ e).length ≤ _; rw [List.nil_append]; exact dl2 0 16777216 0 1 1 16777216 h4 hlen rfl) rfl (fun ξ σ tok c h1 h2 => xtr_ws g S.self h1.self S.ch h2) rfl fun _ => rfl) (fun ξ' σ' h => xs_nil h) fun fl ξ' σ' hne h => h
          · rintro ξ' σ' h
            obtain ⟨l, tok, rfl, h2, h3⟩ := h
            exact xs_nil ⟨1, by simp, .inr ⟨l, tok, rfl, rfl, h2, h3⟩⟩
          · intro fl ξ' σ' hne h
            cases fl with
            | next => exact absurd rfl hne
            | ret d => exact h
            | brk => exact h.elim
            | cont => exact h.elim
        · cases e
      · intro fl ξ' σ' hne h
        rcases h with ⟨rfl, _⟩ | ⟨rfl, rfl, rfl, hw⟩
        · exact absurd rfl hne
        · exact ⟨r.length + 2, by simp, .inl ⟨r, _, rfl, rfl, hst2, (tGo_ws c r line hw).symm.trans hT, by exact dl1 0 16777216 1 16777216 hlen rfl⟩⟩
   · exact .inl ⟨_, it_off g, l, tok, rfl, hst, hT⟩
 · rintro ξ σ ⟨l, tok, rfl, h2, h3⟩
   subst h3
   exact xs_ret (ev_loc S.token h2.token) ⟨rfl, .ret _⟩
 · intro fl ξ' σ' hne h
   cases fl with
   | next => exact absurd rfl hne
   | ret d =>
    obtain ⟨rfl, e1, e2⟩ := h
    exact ⟨Prod.ext e1 e2, .ret _⟩
   | brk => exact h.elim
   | cont => exact h.elim
end
end
section
noncomputable def iniW (x dx : Addr) : Wd where
 X := Str → Option Value
 Wr := fun b => b = x ∨ b = dx
 Fx := fun _ => False
 Φ := fun m h => InstD h x dx 80 m ∧ Within m nm4
 ex := fun h hb => by
  rcases hb with rfl | rfl
  · exact h.1.at_.1
  · exact h.1.at_.2
 fx := fun _ h => h.elim
 keep := fun h k => ⟨h.1.keep (fun o => k _ o (.inl (.inl rfl))) (fun o => k _ o (.inl (.inr rfl))), h.2⟩
noncomputable def updN (m : Str → Option Value) (name : Str) (v : Value) : Str → Option Value := fun y => if y = name then some v else m y
theorem within_upd {m : Str → Option Value} {ns : List Str} {name : Str} {v : Value} (h : Within m ns) (hm : name ∈ ns) : Within (updN m name v) ns := fun z hz => by
 by_cases e : z = name
 · rw [e]; exact hm
 · have hz' : (if z = name then some v else m z) ≠ none := hz
   rw [if_neg e] at hz'; exact h z hz'
section
variable {G : Gl} (g : IsG G)
include g
theorem x_setattr {sc : Scope} {k : Nat} {σ : St} {x dx : Addr} {m : Str → Option Value} {name : Str} {e : Expr} {d : D} {p1 p2 p : Pos} (hn : sc.names.lookup ("self" : Str) = some .local) (hv : σ.vars.lookup ("self" : Str) = some (.val (.ref x))) (he : Ev G sc k σ e d) (hd : d.flat = true)
 (hm : name ∈ nm4) (hN : mN G.w.params name = none) (hB : typeLookup (.type "object") name = pure none) (hs : ∀ env, swapsWith e (some (.Attribute (.Name "self" p1) name p2)) p.line env = pure false) :
 xEx G (iniW x dx) sc k m σ (.Assign [.Attribute (.Name "self" p1) name p2] e p) fun fl m' σ' => fl = .next ∧ σ' = σ ∧ ∃ v, HV d v ∧ m' = updN m name v := by
 intro c μ A s hc X hA J
 refine wp_tk (PySem.plainObj_wpAny_Assign_Attribute (wpAny_mono (he ((iniW x dx).cx c s) μ A s hc hA J.r) (fun v s1 hq => ?_) fun _ _ f => f) (hs _))
 obtain ⟨k1, hv1⟩ := hq
 have J1 := J.kp X k1
 refine wpAny_mono ((show Ev G sc k σ (.Name "self" p1) (.val (.ref x)) from ev_loc hn hv) ((iniW x dx).cx c s1) μ A s1 hc hA J1.r) (fun ov s2 hq => ?_) fun _ _ f => f
 obtain ⟨k2, hv2⟩ := hq
 have hv2' : ov = .ref x := hv2
 subst hv2'
 have J2 := J1.kp X k2
 have φ2 : InstD s2.heap x dx 80 m ∧ Within m nm4 := J2.φ
 refine attr_set (cls80 g J2.r.topG) (mN_sa _) hN hB φ2.1 φ2.2 (by size_fits) fun h' tk I' hk' htk => ?_
 have kk := k1.trans k2
 exact ⟨.next, _, σ, μ, ⟨rfl, rfl, v, Holds.flat hd hv1, rfl⟩, J.chg X ⟨fun b o hb e => hk' b o (fun q => hb (.inl q)) (fun q => hb (.inr q)) (kk.heap b o e), kk.os, kk.bare, fun g x _ e => kk.gens g x e, htk⟩ ⟨I', within_upd φ2.2 hm⟩, rfl⟩
structure Made1 (x dx : Addr) (v : Value) (s s' : Shared) (mA : Str → Option Value) (pb : Addr) : Prop where
 inst : InstD s'.heap x dx 80 mA
 within : Within mA nm4
 line : ∃ t, mA "lineno" = some (.int 1 t)
 ins : mA "instream" = some v
 ws : ∃ t, mA "whitespace" = some (.str (toS wsL) t)
 pbm : mA "pushback" = some (.ref pb)
 pbl : s'.heap.PlainList pb #[]
 new : s.heap.get? pb = none
theorem init_code {x dx : Addr} {k : Nat} {v : Value} (hk : k < 40) {A : Around} {s : Shared} (hA : Aok k A) (htok : 0 < s.toks) (hbare : AllBare s.gens) (htop : ∀ h : Heap, (∀ b o, ¬ (iniW x dx).Wr b → s.heap.get? b = some o → h.get? b = some o) → TopG G h)
 (hφ : InstD s.heap x dx 80 fun _ => none) :
 codeAny (model G.prog G.w) A (.call (.ref 56) ⟨[.ref x, v], []⟩) (fun r s' => match r with | .ok (.ret u) => Chg (iniW x dx).Wr noG s s' ∧ u = .none ∧ ∃ mA pb, Made1 x dx v s s' mA pb | .ok _ => False | .error _ => False) s := by
 refine xcode_raw (W := iniW x dx) (ξ := fun _ => none) (ds := [.val (.ref x), .val v]) (P := fun u s' => u = .none ∧ ∃ mA pb, Made1 x dx v s s' mA pb) (fn_init g) hk rfl (fun d hd => by
  rcases List.mem_cons.mp hd with rfl | hd
  · rfl
  · rw [List.mem_singleton.mp hd]; rfl) (vs := [.ref x, v]) ⟨rfl, rfl, trivial⟩ hA htok hbare htop ⟨hφ, fun z hz => absurd rfl hz⟩ (fun c A s1 hc X hA1 J hkp hcells hcode hqual hnew hbase => ?_)
 refine wpAny_execs_cons (wpAny_mono (x_setattr g (m := fun _ => none) rfl rfl ev_int rfl (by decide) (mN_line _) oB_line (fun _ => rfl) c [] A s1 hc X hA1 J) (fun f s2 hq => ?_) fun _ _ f => f.elim)
 obtain ⟨fl, m2, σ2, μ2, ⟨e1, e2, v2, h2, e3⟩, J2, hf⟩ := hq
 subst e1 e2 e3
 cases hf
 refine wpAny_execs_cons (wpAny_mono (x_setattr g rfl rfl (d := .val v) (ev_loc rfl rfl) rfl (by decide) (mN_ins _) oB_ins (fun _ => rfl) c μ2 A s2 hc X hA1 J2) (fun f s3 hq => ?_) fun _ _ f => f.elim)
 obtain ⟨fl, m3, σ3, μ3, ⟨e1, e2, v3, h3, e3⟩, J3, hf⟩ := hq
 subst e1 e2 e3
 cases hf
 refine wpAny_execs_cons (wpAny_mono (x_setattr g rfl rfl (d := .str wsL) ev_str rfl (by decide) (mN_ws _) oB_ws (fun _ => rfl) c μ3 A s3 hc X hA1 J3) (fun f s4 hq => ?_) fun _ _ f => f.elim)
 obtain ⟨fl, m4, σ4, μ4, ⟨e1, e2, v4, h4, e3⟩, J4, hf⟩ := hq
 subst e1 e2 e3
 cases hf
 refine wpAny_execs_cons (PySem.plainObj_wpAny_Assign_Attribute (wpAny_mono (evN_list (G := G) (k := k + 1) evL_nil (by decide) ((iniW x dx).cx c s4) μ4 A s4 hc hA1 J4.r) (fun v5 s5 hq => ?_) fun _ _ f => f.elim) rfl)
 obtain ⟨k5, pb, vs, e5, n5, p5, l5⟩ := hq
 subst e5
 have hvs : vs = #[] := Array.toList_inj.mp l5.nil
 subst hvs
 have J5 := J4.kp X k5
 refine wpAny_mono ((show Ev G (fdAt G.w.params 56).scope (k + 1) _ (.Name "self" _) (.val (.ref x)) from ev_loc rfl rfl) ((iniW x dx).cx c s5) μ4 A s5 hc hA1 J5.r) (fun ov s6 hq => ?_) fun _ _ f => f.elim
 obtain ⟨k6, hv6⟩ := hq
 have hv6' : ov = .ref x := hv6
 subst hv6'
 have J6 := J5.kp X k6
 have φ6 : InstD s6.heap x dx 80 _ ∧ Within _ nm4 := J6.φ
 refine wp_tk (attr_set (cls80 g J6.r.topG) (mN_sa _) (mN_pb _) oB_pb φ6.1 φ6.2 (by size_fits) fun h' tk I' hk' htk => ?_)
 refine wpAny_execs_nil ?_
 have φ4 : InstD s4.heap x dx 80 _ ∧ Within _ nm4 := J4.φ
 have hxy : ∀ b, (iniW x dx).Wr b → ∃ o, s4.heap.get? b = some o := fun b hb => (iniW x dx).ex J4.φ hb
 have npb : s.heap.get? pb = none := by
  cases e : s.heap.get? pb with
  | none => rfl
  | some o =>
   by_cases hb : (iniW x dx).Wr pb
   · obtain ⟨o', e'⟩ := hxy pb hb
     rw [n5] at e'; cases e'
   · have e' := J4.r.base pb o (.inl ((hbase pb o).mpr ⟨hb, e⟩))
     rw [n5] at e'; cases e'
 have nb : ¬ (iniW x dx).Wr pb := fun hb => by
  obtain ⟨o', e'⟩ := hxy pb hb
  rw [n5] at e'; cases e'
 have ch : Chg (iniW x dx).Wr noG s6 { s6 with heap := h', toks := tk } := ⟨fun b o hb e => hk' b o (fun q => hb (.inl q)) (fun q => hb (.inr q)) e, rfl, fun h => h, fun _ _ _ e => e, htk⟩
 have J7 := J6.chg X (ξ' := updN _ "pushback" (.ref pb)) ch ⟨I', within_upd φ6.2 (by decide)⟩
 refine ⟨J7.out, rfl, _, pb, I', within_upd φ6.2 (by decide), ?_, ?_, ?_, if_pos rfl, ?_, npb⟩
 · obtain ⟨t, rfl⟩ := h2
   exact ⟨t, rfl⟩
 · have h3' : v3 = v := h3
   subst h3'
   rfl
 · obtain ⟨t, rfl⟩ := h4
   exact ⟨t, rfl⟩
 · exact p5.at fun o e => hk' pb o (fun q => nb (.inl q)) (fun q => nb (.inr q)) (k6.heap pb o e)
end
end
section
structure NewLx (v u : Value) (s s' : Shared) (x dx pb : Addr) (mA : Str → Option Value) : Prop where
 val : u = .ref x
 kp : Kp s s'
 n1 : s.heap.get? x = none
 n2 : s.heap.get? dx = none
 n3 : s.heap.get? pb = none
 ne1 : pb ≠ x
 ne2 : pb ≠ dx
 inst : InstD s'.heap x dx 80 mA
 within : Within mA nm4
 line : ∃ t, mA "lineno" = some (.int 1 t)
 ins : mA "instream" = some v
 ws : ∃ t, mA "whitespace" = some (.str (toS wsL) t)
 pbm : mA "pushback" = some (.ref pb)
 pbl : s'.heap.PlainList pb #[]
section
variable {G : Gl} (g : IsG G)
include g
theorem new_call {k : Nat} {v : Value} (hk : k < 39) {A : Around} {s : Shared} (hA : Aok k A) (htok : 0 < s.toks) (hbare : AllBare s.gens) (T : TopG G s.heap) :
 wpAny (model G.prog G.w) A (call (.ref 80) [v]) (fun u s' => ∃ x dx pb mA, NewLx v u s s' x dx pb mA) (fun _ _ => False) s := by
 obtain ⟨nm, q, bs, sn, sub, col, dd, k0, k1, k2, k3, k5, hC⟩ := (cls80 g T).obj
 obtain ⟨of, hof, hcf⟩ := fnc g 56 rfl T
 refine wpAny_call_obj_init PySem.F.objNew hC (cls80 g T).ns (mN_init _) hof hcf fun h' x dx Mk => ?_
 obtain ⟨ox, hx, hcx, hncx, hdx⟩ := Mk.inst
 have hdd := Mk.dict ox hx
 have I0 : InstD h' x dx 80 fun _ => none := by
  rcases hdx with ⟨hn0, _⟩ | ⟨d', hd', hne', hns'⟩
  · rw [hn0] at hdd; cases hdd
  · obtain rfl := Option.some.inj (hd'.symm.trans hdd)
    exact ⟨ox, hx, hcx, hncx, hdd, hne', hns'⟩
 have hA1 : Aok (k + 1) (A.under (.builtin "type.__call__" ⟨[.ref 80, v], []⟩)) := hA.step rfl (by show A.depth + 1 ≤ _; exact dl0 1 10 rfl) (by
  have h2 : (Code.builtin "type.__call__" ⟨[.ref 80, v], []⟩).cUnits ≤ 100 := by
   show 1 + 3 * (Code.builtin "type.__call__" ⟨[.ref 80, v], []⟩).frames ≤ 100
   have e : (Code.builtin "type.__call__" ⟨[.ref 80, v], []⟩).frames = 0 ∨ (Code.builtin "type.__call__" ⟨[.ref 80, v], []⟩).frames = 1 := by first | exact .inl (by kernel_rfl) | exact .inr (by kernel_rfl)
   rcases e with e | e <;> rw [e] <;> decide
  show A.units + _ ≤ _
  exact Nat.add_le_add_left h2 _) (by exact dl1 1 40 1 39 hk rfl)
 have hT : ∀ h : Heap, (∀ b o, ¬ (iniW x dx).Wr b → h'.get? b = some o → h.get? b = some o) → TopG G h := fun h hh => T.keeps fun b o e => hh b o (fun qq => by
  rcases qq with rfl | rfl
  · rw [Mk.newX] at e; cases e
  · rw [Mk.newD] at e; cases e) (Mk.keeps b o e)
 refine wpAny_mono (wpAny_call (Q := fun u s' => Chg (iniW x dx).Wr noG { s with heap := h' } s' ∧ u = .none ∧ ∃ mA pb, Made1 x dx v { s with heap := h' } s' mA pb) (E := fun _ _ => False)
  (init_code g (s := { s with heap := h' }) (by exact dl1 2 40 1 39 hk rfl) hA1 htok hbare hT I0)) (fun u s' ⟨ch, hu, mA, pb, M⟩ => ⟨hu, x, dx, pb, mA, ?_⟩) fun _ _ f => f.elim
 have npb : s.heap.get? pb = none := by
  cases e : s.heap.get? pb with
  | none => rfl
  | some o => have := M.new; rw [show ({ s with heap := h' } : Shared).heap.get? pb = some o from Mk.keeps _ _ e] at this; cases this
 obtain ⟨⟨oX, eX⟩, oD, eD⟩ := I0.at_
 have n1 : pb ≠ x := by rintro rfl; have := M.new; rw [show ({ s with heap := h' } : Shared).heap.get? pb = some oX from eX] at this; cases this
 have n2 : pb ≠ dx := by rintro rfl; have := M.new; rw [show ({ s with heap := h' } : Shared).heap.get? pb = some oD from eD] at this; cases this
 refine ⟨rfl, ⟨⟨fun b o e => ch.heap b o (fun qq => ?_) (Mk.keeps b o e), ch.os, ch.bare, fun g' z e => ch.gens g' z (fun qq => qq) e⟩, ch.toks⟩, Mk.newX, Mk.newD, npb, n1, n2, M.inst, M.within, M.line, M.ins, M.ws, M.pbm, M.pbl⟩
 rcases qq with rfl | rfl
 · rw [Mk.newX] at e; cases e
 · rw [Mk.newD] at e; cases e
end
end
section
noncomputable def TabAt (h : Heap) : Prop := ∃ ps, h.get? 180 = some (tabObj ps)
theorem TabAt.ex {h : Heap} (x : TabAt h) : ∃ o, h.get? 180 = some o := (by obtain ⟨ps, e⟩ := x; exact ⟨_, e⟩)
section
variable {G : Gl} (g : IsG G)
include g
theorem lam_make {env : Env} {A : Around} {s : Shared} {ca : Addr} (T : TopG G s.heap) (hB : s.heap.BuiltinsAt G.mg 180) (hge : env.globals = mainGlobals) (hcode : env.code = .ref 182) (hsig : env.cells.lookup ("signs" : Str) = some ca) (hP : s.heap.get? 180 = some (tabObj #[])) :
 wpAny (model G.prog G.w) A (eval (.Lambda (lamOf G.w.params).1 (lamOf G.w.params).2.1 (lamOf G.w.params).2.2.1 (lamOf G.w.params).2.2.2) env) (fun v s' => ∃ fL lc, v = .ref fL ∧ (∀ b o, b ≠ 180 → s.heap.get? b = some o → s'.heap.get? b = some o) ∧ s.heap.get? fL = none ∧ s.heap.get? lc = none ∧ fL ≠ lc ∧
  LamAt G.w.params s'.heap fL lc ca ∧ TabAt s'.heap ∧ s'.os = s.os ∧ s'.gens = s.gens) (fun _ _ => False) s := by
 refine kla_eval (by rfl) ?_
 have X := T.k
 rw [g.K] at X
 have hcl : closureFor (lamOf G.w.params).2.2.1 env = pure [(("signs" : Str), ca)] := by
  have hnm : (lamOf G.w.params).2.2.1.names = [(("size" : Str), NameKind.local), (("signs" : Str), NameKind.free)] := rfl
  rw [closFor_eq]
  · rw [hnm]
    show pure (closL env.cells _ []) = _
    simp only [closL, hsig]
    rfl
  · rw [hnm]
    intro x hx hf
    rcases List.mem_cons.mp hx with rfl | hx
    · cases hf
    · rw [List.mem_singleton.mp hx, hsig]; rfl
 refine kla_makeFunction (mg := G.mg) hcl hge T.g hcode (codeHd_of_K X (c := 182) (P := 180) rfl) hP ?_ rfl ?_ hB fun c' ctv h' tk hx hge' hlt hrec htb => ?_
 · exact trivial
 · decide
 · refine ⟨h'.objs.size, c', rfl, fun b o hb e => Heap.get?_push_of_some _ (hx b o hb e), ?_, Heap.get?_none_of_le hge', Nat.ne_of_gt hlt, ⟨_, _, _, Heap.get?_push_size _ rfl, hrec.push _⟩, ⟨_, Heap.get?_push_of_some _ htb⟩, rfl, rfl⟩
   exact Heap.get?_none_of_le (Nat.le_trans hge' (Nat.le_of_lt hlt))
end
end
section
noncomputable def Ly.Fy (y : Ly) (b : Addr) : Prop := b = y.st ∨ b = y.dst ∨ b = y.fL ∨ b = y.lc ∨ b = y.pb
structure OutAt (P : Params) (y : Ly) (rest : List Nat) (line : Int) (h : Heap) : Prop where
 ne1 : y.sA ≠ y.lx
 ne2 : y.sA ≠ y.dlx
 dis : ∀ b, y.Fx b → ¬ y.Wr b
 n180 : ¬ y.Wr 180
 signs : ∃ vs : List Value, h.PlainList y.sA vs.toArray ∧ Chars rest vs
 room : rest.length ≤ 16777216
 lexer : ∃ mA, InstD h y.lx y.dlx 80 mA ∧ LexM y line mA
 stream : ∃ mS, InstD h y.st y.dst 80 mS ∧ mS "read" = some (.ref y.fL)
 lam : LamAt P h y.fL y.lc y.cS
 pbl : h.PlainList y.pb #[]
 tab : TabAt h
theorem OutAt.lex {P : Params} {y : Ly} {rest : List Nat} {line : Int} {h : Heap} (x : OutAt P y rest line h) (c : h.IsCell y.cS (some (.ref y.sA))) : LexAt P y rest line h :=
 ⟨x.ne1, x.ne2, x.dis, x.signs, x.room, x.lexer, x.stream, x.lam, c, x.pbl⟩
theorem LexAt.out {P : Params} {y : Ly} {rest : List Nat} {line : Int} {h : Heap} (x : LexAt P y rest line h) (n : ¬ y.Wr 180) (t : TabAt h) : OutAt P y rest line h :=
 ⟨x.ne1, x.ne2, x.dis, n, x.signs, x.room, x.lexer, x.stream, x.lam, x.pbl, t⟩
noncomputable def Ly.Wo (y : Ly) (b : Addr) : Prop := b = 180 ∨ y.Wr b ∨ y.Fy b
theorem OutAt.ex {P : Params} {y : Ly} {rest : List Nat} {line : Int} {h : Heap} (x : OutAt P y rest line h) {b : Addr} (hb : y.Wo b) : ∃ o, h.get? b = some o := by
 rcases hb with rfl | (rfl | rfl | rfl) | rfl | rfl | rfl | rfl | rfl
 · exact x.tab.ex
 · obtain ⟨vs, ⟨n, e⟩, _⟩ := x.signs; exact ⟨_, e⟩
 · obtain ⟨m, e, _⟩ := x.lexer; exact e.at_.1
 · obtain ⟨m, e, _⟩ := x.lexer; exact e.at_.2
 · obtain ⟨m, e, _⟩ := x.stream; exact e.at_.1
 · obtain ⟨m, e, _⟩ := x.stream; exact e.at_.2
 · obtain ⟨pm, ct, q, e, _⟩ := x.lam; exact ⟨_, e⟩
 · obtain ⟨pm, ct, q, _, c, o, vs, t, e1, e2, _⟩ := x.lam; cases e1; exact ⟨_, e2⟩
 · obtain ⟨n, e⟩ := x.pbl; exact ⟨_, e⟩
theorem OutAt.keep {P : Params} {y : Ly} {rest : List Nat} {line : Int} {h h' : Heap} (x : OutAt P y rest line h) (k : ∀ b o, y.Wo b → h.get? b = some o → h'.get? b = some o) : OutAt P y rest line h' where
 ne1 := x.ne1
 ne2 := x.ne2
 dis := x.dis
 n180 := x.n180
 signs := (by obtain ⟨vs, e, c⟩ := x.signs; exact ⟨vs, e.at fun o => k _ o (.inr (.inl (.inl rfl))), c⟩)
 room := x.room
 lexer := (by obtain ⟨m, e, c⟩ := x.lexer; exact ⟨m, e.keep (fun o => k _ o (.inr (.inl (.inr (.inl rfl))))) (fun o => k _ o (.inr (.inl (.inr (.inr rfl))))), c⟩)
 stream := (by obtain ⟨m, e, c⟩ := x.stream; exact ⟨m, e.keep (fun o => k _ o (.inr (.inr (.inl rfl)))) (fun o => k _ o (.inr (.inr (.inr (.inl rfl))))), c⟩)
 lam := x.lam.keep (fun o => k _ o (.inr (.inr (.inr (.inr (.inl rfl)))))) (fun o => k _ o (.inr (.inr (.inr (.inr (.inr (.inl rfl)))))))
 pbl := x.pbl.at fun o => k _ o (.inr (.inr (.inr (.inr (.inr (.inr rfl))))))
 tab := (by obtain ⟨o, e⟩ := x.tab; exact ⟨o, k _ _ (.inl rfl) e⟩)
section
variable {G : Gl} (g : IsG G)
include g
theorem tok_raw {y : Ly} {k : Nat} {rest : List Nat} {line : Int} (hk : k < 37) {A : Around} {s : Shared} (hA : Aok k A) (htok : 0 < s.toks) (hbare : AllBare s.gens) (htop : ∀ h : Heap, (∀ b o, ¬ y.Wr b → s.heap.get? b = some o → h.get? b = some o) → TopG G h)
 (φ : OutAt G.w.params y rest line s.heap) (hc : s.heap.IsCell y.cS (some (.ref y.sA))) :
 wpAny (model G.prog G.w) A (call (.ref 70) [.ref y.lx]) (fun v s' => Chg y.Wr noG s s' ∧ OutAt G.w.params y (tGo rest line).2.1 (tGo rest line).2.2 s'.heap ∧ HV (.str (tGo rest line).1) v) (fun _ _ => False) s := by
 refine wpAny_mono ((tok_code g (y := y) hk φ.room).cal A s hA htok hbare htop (φ.lex hc)) (fun v s' ⟨ch, φ1, hv⟩ => ⟨ch, LexAt.out φ1 φ.n180 ?_, hv⟩) fun _ _ f => f
 obtain ⟨o, e⟩ := φ.tab
 exact ⟨o, ch.heap _ _ φ.n180 e⟩
theorem wp_getTok {y : Ly} {k : Nat} {rest : List Nat} {line : Int} {env : Env} {nm : Str} {p1 p4 ap : Pos} {Q : Value → Shared → Prop} (hk : k < 37) {A : Around} {s : Shared} (hA : Aok k A) (htok : 0 < s.toks) (hbare : AllBare s.gens) (htop : ∀ h : Heap, (∀ b o, ¬ y.Wr b → s.heap.get? b = some o → h.get? b = some o) → TopG G h)
 (φ : OutAt G.w.params y rest line s.heap) (hc : s.heap.IsCell y.cS (some (.ref y.sA))) (hn : wpAny (model G.prog G.w) A (eval (.Name nm p1) env) (fun v s' => v = .ref y.lx ∧ s' = s) (fun _ _ => False) s)
 (hline : (ap.endLine == p4.line) = true) (hq : ∀ v s', Chg y.Wr noG s s' → OutAt G.w.params y (tGo rest line).2.1 (tGo rest line).2.2 s'.heap → HV (.str (tGo rest line).1) v → Q v s') :
 wpAny (model G.prog G.w) A (eval (.Call (.Attribute (.Name nm p1) "get_token" ap) [] [] p4) env) Q (fun _ _ => False) s := by
 have T : TopG G s.heap := htop _ fun _ _ _ e => e
 refine wp_Call_meth (wpAny_mono hn (fun v s1 hq => ?_) fun _ _ f => f) rfl rfl hline
 obtain ⟨e1, e2⟩ := hq
 subst e1 e2
 obtain ⟨mA, I, M⟩ := φ.lexer
 have hrd : mA "get_token" = none := by
  cases e : mA "get_token" with
  | none => rfl
  | some v => exact absurd (M.within "get_token" (by rw [e]; simp)) (by decide)
 obtain ⟨of, hof, hcf⟩ := fnc g 70 rfl T
 have X := T.k
 rw [g.K] at X
 obtain ⟨of', fd, hof', hdf⟩ : ∃ o fd, s1.heap.get? 70 = some o ∧ o.data = .func fd := ⟨_, _, X 70 _ rfl, rfl⟩
 intro pl
 refine meth_cls (cls80 g T) (mN_ga _) (mN_gh _) (mN_tok _) hof hcf oB_tok I hrd ?_
 refine callWith_meth0 hdf hof' ?_
 exact wpAny_mono (tok_raw g hk hA htok hbare htop φ hc) (fun v s' hp => by obtain ⟨a, b, c⟩ := hp; exact hq v s' a b c) fun _ _ f => f
end
end
section
noncomputable def Strs (ws : List (List Nat)) (vs : List Value) : Prop := HoldsL (fun _ => False) [] { objs := #[] } (ws.map .str) vs
theorem Strs.snoc {ws : List (List Nat)} {vs : List Value} {w : List Nat} {v : Value} (h : Strs ws vs) (hv : HV (.str w) v) : Strs (ws ++ [w]) (vs ++ [v]) := by
 unfold Strs
 rw [List.map_append]
 exact HoldsL.append h ⟨hv, trivial⟩
theorem Strs.length {ws : List (List Nat)} {vs : List Value} (h : Strs ws vs) : vs.length = ws.length := by
 have := HoldsL.length h
 simpa using this.symm
noncomputable def outW (P : Params) (y : Ly) : Wd where
 X := List Nat × Int
 Wr := y.Wo
 Fx := fun _ => False
 Φ := fun ξ h => OutAt P y ξ.1 ξ.2 h
 ex := fun x hb => x.ex hb
 fx := fun _ h => h.elim
 keep := fun x k => x.keep fun b o hb => k b o (.inl hb)
structure CAt (P : Params) (y : Ly) (Z I L : Addr) (ξ : List Nat × Int) (ws : List (List Nat)) (h : Heap) : Prop where
 out : OutAt P y ξ.1 ξ.2 h
 nZ : ¬ y.Wo Z
 nI : ¬ y.Wo I
 nL : ¬ y.Wo L
 ZI : Z ≠ I
 ZL : Z ≠ L
 IL : I ≠ L
 words : ∃ ys : List Value, h.PlainList Z ys.toArray ∧ Strs ws ys
 it : ∃ o, h.get? I = some o
 ns : ∃ m, h.Ns L m
noncomputable def cW (P : Params) (y : Ly) (Z I L : Addr) : Wd where
 X := (List Nat × Int) × List (List Nat)
 Wr := fun b => y.Wo b ∨ b = Z ∨ b = I ∨ b = L
 Fx := fun _ => False
 Φ := fun ξ h => CAt P y Z I L ξ.1 ξ.2 h
 ex := fun x hb => by
  rcases hb with hb | rfl | rfl | rfl
  · exact x.out.ex hb
  · obtain ⟨ys, ⟨n, e⟩, _⟩ := x.words; exact ⟨_, e⟩
  · exact x.it
  · obtain ⟨m, o, _, _, e, _⟩ := x.ns; exact ⟨_, e⟩
 fx := fun _ h => h.elim
 keep := fun x k => ⟨x.out.keep fun b o hb => k b o (.inl (.inl hb)), x.nZ, x.nI, x.nL, x.ZI, x.ZL, x.IL, (by obtain ⟨ys, e, c⟩ := x.words; exact ⟨ys, e.at fun o => k _ o (.inl (.inr (.inl rfl))), c⟩),
  (by obtain ⟨o, e⟩ := x.it; exact ⟨o, k _ o (.inl (.inr (.inr (.inl rfl)))) e⟩), (by obtain ⟨m, e⟩ := x.ns; exact ⟨m, e.at' fun o => k _ o (.inl (.inr (.inr (.inr rfl))))⟩)⟩
structure DAt (P : Params) (y : Ly) (Z I : Addr) (ξ : List Nat × Int) (ws : List (List Nat)) (h : Heap) : Prop where
 out : OutAt P y ξ.1 ξ.2 h
 nZ : ¬ y.Wo Z
 words : ∃ ys : List Value, h.PlainList Z ys.toArray ∧ Strs ws ys
 it : ∃ o, h.get? I = some o
noncomputable def dW (P : Params) (y : Ly) (Z I : Addr) : Wd where
 X := (List Nat × Int) × List (List Nat)
 Wr := fun b => y.Wo b ∨ b = Z ∨ b = I
 Fx := fun _ => False
 Φ := fun ξ h => DAt P y Z I ξ.1 ξ.2 h
 ex := fun x hb => by
  rcases hb with hb | rfl | rfl
  · exact x.out.ex hb
  · obtain ⟨ys, ⟨n, e⟩, _⟩ := x.words; exact ⟨_, e⟩
  · exact x.it
 fx := fun _ h => h.elim
 keep := fun x k => ⟨x.out.keep fun b o hb => k b o (.inl (.inl hb)), x.nZ, (by obtain ⟨ys, e, c⟩ := x.words; exact ⟨ys, e.at fun o => k _ o (.inl (.inr (.inl rfl))), c⟩),
  (by obtain ⟨o, e⟩ := x.it; exact ⟨o, k _ o (.inl (.inr (.inr rfl))) e⟩)⟩
noncomputable def toks : Nat → List Nat × Int → List (List Nat) × (List Nat × Int)
 | 0, ξ => ([], ξ)
 | n + 1, ξ => ((tGo ξ.1 ξ.2).1 :: (toks n (tGo ξ.1 ξ.2).2).1, (toks n (tGo ξ.1 ξ.2).2).2)
theorem shrinkL {G : Gl} {P : Params} {y : Ly} {Z I L : Addr} {c : Cx} {μ : List Addr} {σ : St} {ξ : (List Nat × Int) × List (List Nat)} {s : Shared} {h' : Heap} (X : XC G (cW P y Z I L) c) (J : XJ G (cW P y Z I L) c μ σ ξ s) (hs : Heap.SameBut L s.heap h') :
 XC G (dW P y Z I) c ∧ XJ G (dW P y Z I) c μ σ ξ { s with heap := h' } := by
 have X' : XC G (dW P y Z I) c := ⟨X.top, X.old, fun b hb => X.wr b (hb.imp id fun h => h.imp id .inl), X.fx, X.fm⟩
 have φ : CAt P y Z I L ξ.1 ξ.2 s.heap := J.φ
 obtain ⟨m, hm⟩ := φ.ns
 obtain ⟨o, ho⟩ : ∃ o, s.heap.get? L = some o := (by obtain ⟨o, _, _, e, _⟩ := hm; exact ⟨o, e⟩)
 have nL : ¬ (dW P y Z I).Wr L := fun q => by
  rcases q with q | q | q
  · exact φ.nL q
  · exact φ.ZL q.symm
  · exact φ.IL q.symm
 have kp : ∀ b o, b ≠ L → s.heap.get? b = some o → h'.get? b = some o := fun b o n e => (hs.2 b n).trans e
 have φ' : DAt P y Z I ξ.1 ξ.2 h' := ⟨φ.out.keep fun b o hb => kp b o fun q => φ.nL (q ▸ hb), φ.nZ, (by obtain ⟨ys, e, c⟩ := φ.words; exact ⟨ys, e.at fun o => kp Z o φ.ZL, c⟩), (by obtain ⟨o, e⟩ := φ.it; exact ⟨o, kp I o φ.IL e⟩)⟩
 have φs : DAt P y Z I ξ.1 ξ.2 s.heap := ⟨φ.out, φ.nZ, φ.words, φ.it⟩
 have hOi : ∀ a, (((dW P y Z I).cx c s).shun L o).O a ↔ ((cW P y Z I L).cx c s).O a := fun a => by
  constructor
  · rintro ((h | h) | h)
    · exact .inl h
    · exact .inr (h.imp id fun h => h.imp id .inl)
    · exact .inr (.inr (.inr (.inr h)))
  · rintro (h | h | h | h | h)
    · exact .inl (.inl h)
    · exact .inl (.inr (.inl h))
    · exact .inl (.inr (.inr (.inl h)))
    · exact .inl (.inr (.inr (.inr h)))
    · exact .inr h
 have hbi : ∀ a o', (((dW P y Z I).cx c s).shun L o).base a o' → ((cW P y Z I L).cx c s).base a o' := fun a o' h => by
  rcases h with (h | h) | ⟨rfl, rfl⟩
  · exact .inl h
  · exact .inr ⟨h.1.imp id fun h => h.imp id .inl, h.2⟩
  · exact .inr ⟨.inr (.inr (.inr rfl)), ho⟩
 have r1 : R G (((dW P y Z I).cx c s).shun L o) μ σ s := by
  refine J.r.move (J.r.firm X.fm) rfl rfl (fun a ob n _ m => n (m.imp (hOi a).mp id)) (fun b ob _ e => e) J.r.os (Nat.le_refl _) J.r.bare (fun g x h => J.r.gens g x h) (fun a ob h => J.r.base a ob (hbi a ob h)) (fun h hb => X.top h fun a ob e => hb a ob (.inl (.inl e))) (fun a h => ?_) (fun a h => ⟨fun q => (J.r.mine a h).1 ((hOi a).mp q), fun ob q => (J.r.mine a h).2 ob (hbi a ob q)⟩) rfl X.fm
  rcases h with (h | h) | rfl
  · obtain ⟨ob, hob⟩ := X.old a h; exact ⟨ob, .inl (.inl hob)⟩
  · obtain ⟨ob, hob⟩ := (dW P y Z I).ex (ξ := ξ) φs h; exact ⟨ob, .inl (.inr ⟨h, hob⟩)⟩
  · exact ⟨o, .inr ⟨rfl, rfl⟩⟩
 have hCb : ∀ ob, ¬ ((dW P y Z I).cx c s).base L ob := fun ob q => by
  rcases q with q | q
  · exact X.wr L (.inr (.inr (.inr rfl))) ob q
  · exact nL q.1
 have r2 := r1.aside hm hCb (fun h hb => X.top h fun a ob e => hb a ob (.inl e)) (fun a h => by
  rcases h with h | h
  · obtain ⟨ob, hob⟩ := X.old a h; exact ⟨ob, .inl hob⟩
  · obtain ⟨ob, hob⟩ := (dW P y Z I).ex (ξ := ξ) φs h; exact ⟨ob, .inr ⟨h, hob⟩⟩) hs
 exact ⟨X', .after X' r2 (Chg.refl _ _ _) φ'⟩
section
variable {G : Gl} (g : IsG G)
include g
theorem x_words {sc : Scope} {k : Nat} {σ : St} {y : Ly} {ξ : List Nat × Int} {n : Nat} {scope : Scope} {p1 p2 p3 p4 p5 p6 p7 p8 p9 ap : Pos} {c : Cx} {μ : List Addr} {A : Around} {s : Shared} (hk : k < 37)
 (hc : c.env.scope = sc) (X : XC G (outW G.w.params y) c) (hA : Aok k A) (J : XJ G (outW G.w.params y) c μ σ ξ s)
 (hkind : sc.kind = .function) (hw : sc.names.lookup ("words" : Str) = some .local) (hl : sc.names.lookup ("lexer" : Str) = some .cell) (hsg : sc.names.lookup ("signs" : Str) = some .cell) (hm : sc.names.lookup ("many" : Str) = some .local) (hr : sc.names.lookup ("range" : Str) = some .globalImplicit)
 (vl : σ.vars.lookup ("lexer" : Str) = some (.val (.ref y.lx))) (vs : σ.vars.lookup ("signs" : Str) = some (.val (.ref y.sA))) (vm : σ.vars.lookup ("many" : Str) = some (.int n)) (hn : n ≤ 16777216)
 (hcs : c.env.cells.lookup ("signs" : Str) = some y.cS) (hnm : scope.names = [((".0" : Str), NameKind.local), (("turn" : Str), NameKind.local), (("lexer" : Str), NameKind.free)]) (hsk : scope.kind = .function)
 (hline : (ap.endLine == p4.line) = true) (hln : (p7.line == p6.line) = true) :
 wpAny (model G.prog G.w) A (exec (.Assign [.Name "words" p7] (.ListComp (.Call (.Attribute (.Name "lexer" p1) "get_token" ap) [] [] p4) [⟨.Name "turn" p2, .Call (.Name "range" p3) [.Name "many" p5] [] p8, [], 0⟩] scope p6) p9) c.env)
  (fun f s' => f = .next ∧ ∃ Z I, s.heap.get? Z = none ∧ XC G (dW G.w.params y Z I) c ∧ XJ G (dW G.w.params y Z I) c μ (σ.set "words" (.val (.ref Z))) ((toks n ξ).2, (toks n ξ).1) s') (fun _ _ => False) s := by
 have hnl : (scope.names.any fun (n, k) => n == ("words" : Str) && (k == .local || k == .cell)) = false := by rw [hnm]; decide
 rw [exec_Assign_Name_used _ _ _ _ (swaps_local hc hkind hw hln hnl)]
 refine wpAny_bind (wpAny_standAt (wpAny_bind ?_))
 show wpAny _ A (do let _ ← comprehension (.ListComp (.Call (.Attribute (.Name "lexer" p1) "get_token" ap) [] [] p4) [⟨.Name "turn" p2, .Call (.Name "range" p3) [.Name "many" p5] [] p8, [], 0⟩] scope p6) scope c.env _ (newList []) false (eval (.Call (.Name "range" p3) [.Name "many" p5] [] p8) c.env) (some (assign (.Name "words" p7) c.env))) _ _ s
 refine wpAny_bind (wpAny_mono (Q := fun _ s' => ∃ Z I, s.heap.get? Z = none ∧ XC G (dW G.w.params y Z I) c ∧ XJ G (dW G.w.params y Z I) c μ (σ.set "words" (.val (.ref Z))) ((toks n ξ).2, (toks n ξ).1) s') (E := fun _ _ => False) ?_ (fun _ s' h => wpAny_pure (wpAny_pure ⟨rfl, h⟩)) fun _ _ f => f)
 obtain ⟨cl, vl', e1, e2, e3⟩ := J.r.cell "lexer" _ vl (.inl (kindOf_of hc hl))
 have e3' : vl' = .ref y.lx := e3
 subst e3'
 have e1' : c.env.cells.lookup ("lexer" : Str) = some cl := e1
 have hclos : closureFor scope c.env = pure [(("lexer" : Str), cl)] := by
  rw [closFor_eq]
  · rw [hnm]
    show pure (closL c.env.cells _ []) = _
    simp only [closL, e1']
    rfl
  · rw [hnm]
    intro x hx hf
    rcases List.mem_cons.mp hx with rfl | hx
    · cases hf
    · rcases List.mem_cons.mp hx with rfl | hx
      · cases hf
      · rw [List.mem_singleton.mp hx, e1']; rfl
 refine wpAny_comprehension_free (g := ⟨.Name "turn" p2, .Call (.Name "range" p3) [.Name "many" p5] [] p8, [], 0⟩) (gs := []) rfl (fun x => rfl) hclos hsk (fun x hx hk => ?_) ?_
 · rw [hnm] at hx ⊢
   rcases List.mem_cons.mp hx with rfl | hx
   · rfl
   · rcases List.mem_cons.mp hx with rfl | hx
     · rfl
     · rw [List.mem_singleton.mp hx] at hk; cases hk
 have hE : Ev G sc k σ (.Call (.Name "range" p3) [.Name "many" p5] [] p8) (.rng 0 n) := ev_call (ev_blt hr (no_range g) (mb_range g)) (.ty _) (evL_cons (ev_loc hm vm) evL_nil) range1
 refine wpAny_mono (hE ((outW G.w.params y).cx c s) μ A s hc hA J.r) (fun xv s1 hq => ?_) fun _ _ f => f.elim
 obtain ⟨k1, ax, e4, _, t, u, w, hrr⟩ := hq
 subst e4
 have hz : Builtin.Range.rangeSize 0 n 1 = (n : Int) := by
  rw [rangeSize_one]; exact rsz.trans (by rw [Int.sub_zero, Int.toNat_natCast])
 have hsm : Builtin.Range.small 0 n 1 = true := small_range ⟨by decide, by decide⟩ (nb9 (Nat.le_trans hn (by decide)))
 refine wpAny_pyIter_range hrr hsm ?_
 refine wpAny_newObj_type ?_ (sizeOk_list (by simp))
 refine wp_compEnv ?_
 rw [relabel_eq hc]
 generalize hH2 : s1.heap.push { cls := .type "range_iterator", data := .fields #[rawInt 0, rawInt (Builtin.Range.rangeSize 0 n 1), rawInt 1] } = H2
 generalize hH3 : H2.push { cls := .type "list", dict := none, data := .seq ([] : List Value).toArray } = H3
 have hpc : ∀ h, pushCells h scope.names = h := fun h => by rw [hnm]; rfl
 have hcf : ∀ n cl, cellsFrom n scope.names cl = cl := fun n cl => by rw [hnm]; rfl
 rw [hpc, hcf]
 generalize hI : s1.heap.objs.size = I
 generalize hZ : H2.objs.size = Z
 show codeAny _ A (.compStart _ 0 (.ref I) (.ref Z) { scope := rel sc scope, locals := H3.objs.size, globals := c.env.globals, cells := [("lexer", cl)], qual := c.env.qual, func := none, code := c.env.code, frame := c.env.frame, builtins := c.env.builtins })
  (compPost _ A (fun _ _ => False) (some (assign (.Name "words" p7) c.env)) _ (.ref Z) H3.objs.size) { s1 with heap := H3.push { cls := .type "dict", data := .dict #[] } }
 generalize hL : H3.objs.size = L
 have hZI : Z = I + 1 := by rw [← hZ, ← hI, ← hH2, Heap.size_push]
 have hLZ : L = Z + 1 := by rw [← hL, ← hZ, ← hH3, Heap.size_push]
 generalize hH4 : H3.push { cls := .type "dict", data := .dict #[] } = H4
 have old2 : ∀ b o, s1.heap.get? b = some o → H2.get? b = some o := fun b o e => by rw [← hH2]; exact Heap.get?_push_of_some _ e
 have old3 : ∀ b o, H2.get? b = some o → H3.get? b = some o := fun b o e => by rw [← hH3]; exact Heap.get?_push_of_some _ e
 have old4 : ∀ b o, H3.get? b = some o → H4.get? b = some o := fun b o e => by rw [← hH4]; exact Heap.get?_push_of_some _ e
 have itI : H4.get? I = some { cls := .type "range_iterator", data := .fields #[rawInt 0, rawInt (Builtin.Range.rangeSize 0 n 1), rawInt 1] } := by
  refine old4 _ _ (old3 _ _ ?_)
  rw [← hH2, ← hI]; exact Heap.get?_push_size _ rfl
 have plZ : H4.PlainList Z #[] := ⟨0, old4 _ _ (by rw [← hH3, ← hZ]; exact Heap.get?_push_size _ rfl)⟩
 have nsL : H4.Ns L (fun _ => none) := by rw [← hH4, ← hL]; exact Heap.Ns.new H3 (.type "dict")
 have fr : ∀ a, I ≤ a → s.heap.get? a = none := fun a ha => none_of_kp k1 (Heap.get?_none_of_le (by rw [hI]; exact ha))
 have φ0 : OutAt G.w.params y ξ.1 ξ.2 s.heap := J.φ
 have nW : ∀ a, I ≤ a → ¬ y.Wo a := fun a ha q => by
  obtain ⟨o, ho⟩ := φ0.ex q
  rw [fr a ha] at ho; cases ho
 have k4 : Kp s { s1 with heap := H4 } := k1.trans ⟨⟨fun b o e => old4 _ _ (old3 _ _ (old2 _ _ e)), rfl, fun h => h, fun _ _ e => e⟩, Nat.le_refl _⟩
 have φ4 : CAt G.w.params y Z I L ξ [] H4 := ⟨φ0.keep fun b o _ e => k4.heap b o e, nW Z (by exact dl1 0 0 1 0 (Nat.le_of_eq hZI.symm) rfl), nW I (Nat.le_refl _), nW L (by exact dl2 0 0 1 0 1 0 (Nat.le_of_eq hZI.symm) (Nat.le_of_eq hLZ.symm) rfl), by rw [hZI]; exact Nat.succ_ne_self I, by rw [hLZ]; exact (Nat.succ_ne_self Z).symm, by rw [hLZ, hZI]; exact Nat.ne_of_lt (Nat.lt_succ_of_lt (Nat.lt_succ_self I)), ⟨[], plZ, trivial⟩, ⟨_, itI⟩, ⟨_, nsL⟩⟩
 obtain ⟨X4, J4⟩ := XJ.grow (W' := cW G.w.params y Z I L) (ξ' := (ξ, [])) X J (fun b hb => by
  rcases hb with hb | rfl | rfl | rfl
  · exact .inl hb
  · exact .inr (fr _ (by exact dl1 0 0 1 0 (Nat.le_of_eq hZI.symm) rfl))
  · exact .inr (fr _ (Nat.le_refl _))
  · exact .inr (fr _ (by exact dl2 0 0 1 0 1 0 (Nat.le_of_eq hZI.symm) (Nat.le_of_eq hLZ.symm) rfl))) (fun b hb => .inl hb) (fun b h => h.elim) (Chg.of_kp k4) φ4
 have WR := Walks.range (prog := G.prog) (w := G.w) (A := A) hA.1 I 0 1 n
 have st0 : IsRangeIter H4 I (0 + ((0 : Nat) : Int) * 1) ((n : Int) - ((0 : Nat) : Int)) 1 := by
  have a1 : (n : Int) - ((0 : Nat) : Int) = n := Int.sub_zero _
  have a2 : (0 : Int) + ((0 : Nat) : Int) * 1 = 0 := rfl
  rw [a1, a2, ← hz]
  exact itI
 generalize henv : ({ scope := rel sc scope, locals := L, globals := c.env.globals, cells := [(("lexer" : Str), cl)], qual := c.env.qual, func := none, code := c.env.code, frame := c.env.frame, builtins := c.env.builtins } : Env) = env'
 have ek : env'.scope.kind = .function := by rw [← henv]; exact hsk
 have eT : env'.kindOf "turn" = some .local := by
  rw [← henv]
  show (scope.names.map _).lookup ("turn" : Str) = _
  rw [rel_map, hnm]
  rfl
 have eL : env'.kindOf "lexer" = some .cell := by
  rw [← henv]
  show (scope.names.map _).lookup ("lexer" : Str) = _
  rw [rel_map, hnm, hkind, hl]
  rfl
 have ecl : env'.cells.lookup ("lexer" : Str) = some cl := by rw [← henv]; rfl
 have elo : env'.locals = L := by rw [← henv]
 let R0 : Nat → Shared → Prop := fun n' s' => ∃ j ξ' ws, j + n' = n ∧ ws.length = j ∧ XJ G (cW G.w.params y Z I L) c μ σ (ξ', ws) s' ∧ IsRangeIter s'.heap I (0 + ((j : Nat) : Int) * 1) ((n : Int) - ((j : Nat) : Int)) 1 ∧ toks n ξ = (ws ++ (toks n' ξ').1, (toks n' ξ').2)
 have loop : codeAny (model G.prog G.w) A (.compLoop (.ListComp (.Call (.Attribute (.Name "lexer" p1) "get_token" ap) [] [] p4) [⟨.Name "turn" p2, .Call (.Name "range" p3) [.Name "many" p5] [] p8, [], 0⟩] scope p6) 0 (.ref I) (.ref Z) env')
  (compPost (model G.prog G.w) A (fun _ _ => False) (some (assign (.Name "words" p7) c.env)) (fun _ s' => ∃ Z I, s.heap.get? Z = none ∧ XC G (dW G.w.params y Z I) c ∧ XJ G (dW G.w.params y Z I) c μ (σ.set "words" (.val (.ref Z))) ((toks n ξ).2, (toks n ξ).1) s') (.ref Z) L) { s1 with heap := H4 } := by
  refine compLoop_own R0 (fun n' s' hI' => ?_) n ⟨0, ξ, [], by omega, rfl, J4, st0, rfl⟩
  obtain ⟨j, ξ', ws, hj, hws, J5, st, htk⟩ := hI'
  cases n' with
  | zero =>
   have hjn : j = n := by exact Nat.le_antisymm (Nat.le_of_eq hj) (Nat.le_of_eq hj.symm)
   subst hjn
   refine wp_tk (range_over hA.1 st (by omega) fun h5 hk5 htk5 => ?_)
   have k5 : Kp s' { s' with heap := h5 } := ⟨⟨hk5, rfl, fun h => h, fun _ _ e => e⟩, htk5⟩
   have J6 := J5.kp X4 k5
   show wpAny _ A (assign (.Name "words" p7) c.env (.ref Z)) _ _ _
   refine wpAny_mono ((show As G sc k (.Name "words" p7) (.val (.ref Z)) σ (σ.set "words" (.val (.ref Z))) from as_loc hw rfl) ((cW G.w.params y Z I L).cx c { s' with heap := h5 }) μ A { s' with heap := h5 } _ hc X.fm hA J6.r rfl) (fun _ s7 hq => ?_) fun _ _ f => f
   obtain ⟨r7, _⟩ := hq
   have J7 := J6.go X4 r7
   have φ7 : CAt G.w.params y Z I L ξ' ws s7.heap := J7.φ
   obtain ⟨m7, hm7⟩ := φ7.ns
   refine ⟨m7, hm7, fun h8 hs8 => ⟨Z, I, fr Z (by exact dl1 0 0 1 0 (Nat.le_of_eq hZI.symm) rfl), ?_⟩⟩
   have e8 : ws = (toks j ξ).1 ∧ ξ' = (toks j ξ).2 := by rw [htk]; simp [toks]
   rw [← e8.1, ← e8.2]
   exact shrinkL X4 J7 hs8
  | succ n' =>
   refine wp_tk (WR.item j s' _ _ (by omega) st fun v h5 tk5 hv st5 hk5 htk5 => ?_)
   have φ5 : CAt G.w.params y Z I L ξ' ws s'.heap := J5.φ
   have hI5 : ∀ b o, b ≠ I → s'.heap.get? b = some o → h5.get? b = some o := fun b o hb e => hk5 b o (fun q => hb (List.mem_singleton.mp q)) e
   have ch5 : Chg (cW G.w.params y Z I L).Wr noG s' { s' with heap := h5, toks := tk5 } := ⟨fun b o hb e => hI5 b o (fun q => hb (.inr (.inr (.inl q)))) e, rfl, fun h => h, fun _ _ _ e => e, htk5⟩
   have φ6 : CAt G.w.params y Z I L ξ' ws h5 := ⟨φ5.out.keep fun b o hb => hI5 b o fun q => φ5.nI (q ▸ hb), φ5.nZ, φ5.nI, φ5.nL, φ5.ZI, φ5.ZL, φ5.IL, (by obtain ⟨ys, e, c⟩ := φ5.words; exact ⟨ys, e.at fun o => hI5 Z o φ5.ZI, c⟩), ⟨_, st5⟩, (by obtain ⟨m, e⟩ := φ5.ns; exact ⟨m, e.at' fun o => hI5 L o (Ne.symm φ5.IL)⟩)⟩
   have J6 := J5.chg X4 ch5 (show (cW G.w.params y Z I L).Φ (ξ', ws) h5 from φ6)
   show wpAny _ A (pure ()) _ _ _
   refine wpAny_pure ?_
   obtain ⟨m6, hm6⟩ := φ6.ns
   rw [← elo] at hm6
   refine wp_tk (wpAny_assign_Name (wpAny_storeName_local eT hm6 (fun h7 hns7 hsb7 htk7 => ?_) (by show (env'.scope.kind == .class || (env'.scope.kind == .module && _)) = false; rw [ek]; rfl)))
   rw [elo] at hns7 hsb7
   have hL7 : ∀ b o, b ≠ L → h5.get? b = some o → h7.get? b = some o := fun b o hb e => (hsb7.2 b hb).trans e
   have φ7 : CAt G.w.params y Z I L ξ' ws h7 := ⟨φ6.out.keep fun b o hb => hL7 b o fun q => φ6.nL (q ▸ hb), φ6.nZ, φ6.nI, φ6.nL, φ6.ZI, φ6.ZL, φ6.IL, (by obtain ⟨ys, e, c⟩ := φ6.words; exact ⟨ys, e.at fun o => hL7 Z o φ6.ZL, c⟩), (by obtain ⟨o, e⟩ := φ6.it; exact ⟨o, hL7 I o φ6.IL e⟩), ⟨_, hns7⟩⟩
   have J7 : XJ G (cW G.w.params y Z I L) c μ σ (ξ', ws) { s' with heap := h7, toks := tk5 + 1 } := J6.chg X4 (show Chg (cW G.w.params y Z I L).Wr noG { s' with heap := h5, toks := tk5 } { s' with heap := h7, toks := tk5 + 1 } from ⟨fun b o hb e => hL7 b o (fun q => hb (.inr (.inr (.inr q)))) e, rfl, fun h => h, fun _ _ _ e => e, htk7⟩) (show (cW G.w.params y Z I L).Φ (ξ', ws) h7 from φ7)
   refine wpAny_tests_nil ?_
   rw [if_pos rfl]
   obtain ⟨cl2, vl2, g1, g2, g3⟩ := J7.r.cell "lexer" _ vl (.inl (kindOf_of hc hl))
   have g1' : c.env.cells.lookup ("lexer" : Str) = some cl2 := g1
   rw [e1'] at g1'
   cases g1'
   have g3' : vl2 = .ref y.lx := g3
   subst g3'
   obtain ⟨cs2, vs2, f1, f2, f3⟩ := J7.r.cell "signs" _ vs (.inl (kindOf_of hc hsg))
   have f1' : c.env.cells.lookup ("signs" : Str) = some cs2 := f1
   rw [hcs] at f1'
   cases f1'
   have f3' : vs2 = .ref y.sA := f3
   subst f3'
   refine wp_getTok g hk (rest := ξ'.1) (line := ξ'.2) hA J7.r.tok J7.r.bare (fun h hh => J7.top' X4 h fun b o nb e => hh b o (fun q => nb (.inl (.inr (.inl q)))) e) φ7.out f2 (wpAny_Name (wpAny_loadName_cell ek eL ecl g2 ⟨rfl, rfl⟩) (by decide)) hline fun v8 s8 ch8 out8 hv8 => ?_
   have nWr : ∀ a, ¬ y.Wo a → ¬ y.Wr a := fun a h q => h (.inr (.inl q))
   have φ8 : CAt G.w.params y Z I L (tGo ξ'.1 ξ'.2).2 ws s8.heap := ⟨out8, φ7.nZ, φ7.nI, φ7.nL, φ7.ZI, φ7.ZL, φ7.IL, (by obtain ⟨ys, e, c⟩ := φ7.words; exact ⟨ys, e.at fun o => ch8.heap Z o (nWr _ φ7.nZ), c⟩), (by obtain ⟨o, e⟩ := φ7.it; exact ⟨o, ch8.heap I o (nWr _ φ7.nI) e⟩), (by obtain ⟨m, e⟩ := φ7.ns; exact ⟨m, e.at' fun o => ch8.heap L o (nWr _ φ7.nL)⟩)⟩
   have J8 := J7.chg X4 (show Chg (cW G.w.params y Z I L).Wr noG _ s8 from ch8.wider (fun b h => .inl (.inr (.inl h))) fun _ h => h) (show (cW G.w.params y Z I L).Φ ((tGo ξ'.1 ξ'.2).2, ws) s8.heap from φ8)
   obtain ⟨ys, hys, hst⟩ := φ8.words
   have hlen : ys.length = ws.length := hst.length
   refine wp_tk (wpAny_list_append_plain (hsz := by rw [sizeLine_eq]; simp; omega) hys fun h9 hpl hsb htk9 => ?_)
   have hZ9 : ∀ b o, b ≠ Z → s8.heap.get? b = some o → h9.get? b = some o := fun b o hb e => (hsb.2 b hb).trans e
   have φ9 : CAt G.w.params y Z I L (tGo ξ'.1 ξ'.2).2 (ws ++ [(tGo ξ'.1 ξ'.2).1]) h9 := ⟨φ8.out.keep fun b o hb => hZ9 b o fun q => φ8.nZ (q ▸ hb), φ8.nZ, φ8.nI, φ8.nL, φ8.ZI, φ8.ZL, φ8.IL, ⟨ys ++ [v8], by simpa using hpl, hst.snoc hv8⟩, (by obtain ⟨o, e⟩ := φ8.it; exact ⟨o, hZ9 I o (Ne.symm φ8.ZI) e⟩), (by obtain ⟨m, e⟩ := φ8.ns; exact ⟨m, e.at' fun o => hZ9 L o (Ne.symm φ8.ZL)⟩)⟩
   have J9 := J8.chg X4 (show Chg (cW G.w.params y Z I L).Wr noG s8 { s8 with heap := h9 } from ⟨fun b o hb e => hZ9 b o (fun q => hb (.inr (.inl q))) e, rfl, fun h => h, fun _ _ _ e => e, htk9⟩) (show (cW G.w.params y Z I L).Φ ((tGo ξ'.1 ξ'.2).2, ws ++ [(tGo ξ'.1 ξ'.2).1]) h9 from φ9)
   refine ⟨n', Nat.lt_succ_self _, j + 1, _, _, by omega, by simp; exact Nat.le_antisymm (Nat.le_of_eq hws) (Nat.le_of_eq hws.symm), J9, ?_, ?_⟩
   · have a1 := ch8.heap I _ (nWr _ φ7.nI) (hL7 I _ φ6.IL st5)
     exact hZ9 I _ (Ne.symm φ8.ZI) a1
   · rw [htk]; simp [toks, List.append_assoc]
 have self := WR.self 0 { s1 with heap := H4 } (fun it' s' => codeAny (model G.prog G.w) A (.compLoop (.ListComp (.Call (.Attribute (.Name "lexer" p1) "get_token" ap) [] [] p4) [⟨.Name "turn" p2, .Call (.Name "range" p3) [.Name "many" p5] [] p8, [], 0⟩] scope p6) 0 it' (.ref Z) env')
  (compPost (model G.prog G.w) A (fun _ _ => False) (some (assign (.Name "words" p7) c.env)) (fun _ s' => ∃ Z I, s.heap.get? Z = none ∧ XC G (dW G.w.params y Z I) c ∧ XJ G (dW G.w.params y Z I) c μ (σ.set "words" (.val (.ref Z))) ((toks n ξ).2, (toks n ξ).1) s') (.ref Z) L) s')
  (notedBy (model G.prog G.w) A env' fun x s' => compPost (model G.prog G.w) A (fun _ _ => False) (some (assign (.Name "words" p7) c.env)) (fun _ s' => ∃ Z I, s.heap.get? Z = none ∧ XC G (dW G.w.params y Z I) c ∧ XJ G (dW G.w.params y Z I) c μ (σ.set "words" (.val (.ref Z))) ((toks n ξ).2, (toks n ξ).1) s') (.ref Z) L (.error x) s') st0 loop
 exact codeAny_compStart_list loop self
end
end
section
noncomputable def Sg (sA : Addr) (rest : List Nat) (h : Heap) : Prop := ∃ vs : List Value, h.PlainList sA vs.toArray ∧ Chars rest vs
theorem Sg.at {sA : Addr} {rest : List Nat} {h h' : Heap} (x : Sg sA rest h) (k : ∀ o, h.get? sA = some o → h'.get? sA = some o) : Sg sA rest h' := (by obtain ⟨vs, e, c⟩ := x; exact ⟨vs, e.at k, c⟩)
theorem Sg.ex {sA : Addr} {rest : List Nat} {h : Heap} (x : Sg sA rest h) : ∃ o, h.get? sA = some o := (by obtain ⟨vs, ⟨n, e⟩, c⟩ := x; exact ⟨_, e⟩)
noncomputable def tabW : Wd where
 X := Bool
 Wr := fun b => b = 180
 Fx := fun _ => False
 Φ := fun ξ h => TabAt h ∧ (ξ = true → h.get? 180 = some (tabObj #[]))
 ex := fun x hb => by cases hb; exact x.1.ex
 fx := fun _ h => h.elim
 keep := fun x k => ⟨(by obtain ⟨o, e⟩ := x.1; exact ⟨o, k _ _ (.inl rfl) e⟩), fun h => k _ _ (.inl rfl) (x.2 h)⟩
noncomputable def sgW (sA : Addr) (rest : List Nat) : Wd where
 X := Unit
 Wr := fun b => b = 180 ∨ b = sA
 Fx := fun _ => False
 Φ := fun _ h => h.get? 180 = some (tabObj #[]) ∧ Sg sA rest h
 ex := fun x hb => by
  rcases hb with rfl | rfl
  · exact ⟨_, x.1⟩
  · exact x.2.ex
 fx := fun _ h => h.elim
 keep := fun x k => ⟨k _ _ (.inl (.inl rfl)) x.1, x.2.at fun o => k _ o (.inl (.inr rfl))⟩
noncomputable def stW (sA st dst : Addr) (rest : List Nat) : Wd where
 X := Bool
 Wr := fun b => b = 180 ∨ b = sA ∨ b = st ∨ b = dst
 Fx := fun _ => False
 Φ := fun ξ h => (TabAt h ∧ (ξ = true → h.get? 180 = some (tabObj #[]))) ∧ Sg sA rest h ∧ ∃ mS, InstD h st dst 80 mS ∧ Within mS nm4
 ex := fun x hb => by
  rcases hb with rfl | rfl | rfl | rfl
  · exact x.1.1.ex
  · exact x.2.1.ex
  · obtain ⟨m, e, _⟩ := x.2.2; exact e.at_.1
  · obtain ⟨m, e, _⟩ := x.2.2; exact e.at_.2
 fx := fun _ h => h.elim
 keep := fun x k => ⟨⟨(by obtain ⟨o, e⟩ := x.1.1; exact ⟨o, k _ _ (.inl (.inl rfl)) e⟩), fun h => k _ _ (.inl (.inl rfl)) (x.1.2 h)⟩, x.2.1.at fun o => k _ o (.inl (.inr (.inl rfl))), (by obtain ⟨m, e, q⟩ := x.2.2; exact ⟨m, e.keep (fun o => k _ o (.inl (.inr (.inr (.inl rfl))))) (fun o => k _ o (.inl (.inr (.inr (.inr rfl))))), q⟩)⟩
noncomputable def lmW (P : Params) (sA st dst fL lc cS : Addr) (rest : List Nat) : Wd where
 X := Unit
 Wr := fun b => b = 180 ∨ b = sA ∨ b = st ∨ b = dst ∨ b = fL ∨ b = lc
 Fx := fun _ => False
 Φ := fun _ h => TabAt h ∧ Sg sA rest h ∧ (∃ mS, InstD h st dst 80 mS ∧ mS "read" = some (.ref fL)) ∧ LamAt P h fL lc cS
 ex := fun x hb => by
  rcases hb with rfl | rfl | rfl | rfl | rfl | rfl
  · exact x.1.ex
  · exact x.2.1.ex
  · obtain ⟨m, e, _⟩ := x.2.2.1; exact e.at_.1
  · obtain ⟨m, e, _⟩ := x.2.2.1; exact e.at_.2
  · obtain ⟨pm, ct, q, e, _⟩ := x.2.2.2; exact ⟨_, e⟩
  · obtain ⟨pm, ct, q, _, c, o, vs, t, e1, e2, _⟩ := x.2.2.2; cases e1; exact ⟨_, e2⟩
 fx := fun _ h => h.elim
 keep := fun x k => ⟨(by obtain ⟨o, e⟩ := x.1; exact ⟨o, k _ _ (.inl (.inl rfl)) e⟩), x.2.1.at fun o => k _ o (.inl (.inr (.inl rfl))), (by obtain ⟨m, e, q⟩ := x.2.2.1; exact ⟨m, e.keep (fun o => k _ o (.inl (.inr (.inr (.inl rfl))))) (fun o => k _ o (.inl (.inr (.inr (.inr (.inl rfl)))))), q⟩),
  x.2.2.2.keep (fun o => k _ o (.inl (.inr (.inr (.inr (.inr (.inl rfl))))))) (fun o => k _ o (.inl (.inr (.inr (.inr (.inr (.inr rfl)))))))⟩
set_option tactic.hygienic true in
theorem wp_asg {G : Gl} {env : Env} {A : Around} {s : Shared} {x : Str} {p p' : Pos} {e : Expr} {Q : Flow → Shared → Prop} (hs : swapsWith e (some (.Name x p')) p.line env = pure false)
 (h : wpAny (model G.prog G.w) A (eval e env) (fun v s1 => wpAny (model G.prog G.w) A (assign (.Name x p') env v) (fun _ s2 => Q .next s2) (fun _ _ => False) s1) (fun _ _ => False) s) :
 wpAny (model G.prog G.w) A (exec (.Assign [.Name x p'] e p) env) Q (fun _ _ => False) s := by
 have hx : exec (.Assign [.Name x p'] e p) env = (do
  standAt p
  let v ← eval e env
  assign (.Name x p') env v
  pure .next) := exec_Assign_Name env x p' e p hs
 rw [hx]
 exact wpAny_bind (wpAny_standAt (wpAny_bind (wpAny_mono h (fun v s1 h1 => wpAny_bind (wpAny_mono h1 (fun _ s2 h2 => wpAny_pure h2) fun _ _ f => f)) fun _ _ f => f)))
section
variable {G : Gl} (g : IsG G)
include g
theorem wp_newlx {W : Wd} {sc : Scope} {k : Nat} {σ : St} {c : Cx} {μ : List Addr} {ξ : W.X} {A : Around} {s : Shared} {e : Expr} {d : D} {p1 p : Pos} {Q : Value → Shared → Prop} (hk : k < 39) (hc : c.env.scope = sc) (X : XC G W c) (hA : Aok k A) (J : XJ G W c μ σ ξ s)
 (hn : sc.names.lookup ("_netrclex" : Str) = some .globalImplicit) (he : Ev G sc k σ e d) (hd : d.flat = true) (hst : ∀ env, starEach [e] env = (false, eval e env) :: starEach [] env)
 (h0 : ∀ env, eval (.Call (.Name "_netrclex" p1) [e] [] p) env = (do callWith p (← eval (.Name "_netrclex" p1) env) [] (backTo p (starEach [e] env)) []))
 (hq : ∀ v u s1 s2 x dx pb mA, Kp s s1 → HV d v → NewLx v u s1 s2 x dx pb mA → Q u s2) :
 wpAny (model G.prog G.w) A (eval (.Call (.Name "_netrclex" p1) [e] [] p) c.env) Q (fun _ _ => False) s := by
 rw [h0]
 refine wpAny_bind (wpAny_mono ((show Ev G sc k σ (.Name "_netrclex" p1) (.val (.ref 80)) from ev_glob hn (mg_netrclex g)) (W.cx c s) μ A s hc hA J.r) (fun v0 s0 hq => ?_) fun _ _ f => f)
 obtain ⟨k0, hv0⟩ := hq
 have hv0' : v0 = .ref 80 := hv0
 subst hv0'
 have J0 := J.kp X k0
 refine callWith_cls (cls80 g J0.r.topG) ?_ (hst _) rfl
 rw [hst]
 refine Calls.spliced_cons (wpAny_mono (he (W.cx c s0) μ A s0 hc hA J0.r) (fun v s1 hq => ?_) fun _ _ f => f)
 obtain ⟨k1, hv⟩ := hq
 have J1 := J0.kp X k1
 refine Calls.spliced_nil ⟨k1.heap, ?_⟩
 exact wpAny_mono (new_call g hk hA J1.r.tok J1.r.bare J1.r.topG) (fun u s2 hp => by obtain ⟨x, dx, pb, mA, N⟩ := hp; exact hq v u s1 s2 x dx pb mA (k0.trans k1) (Holds.flat hd hv) N) fun _ _ f => f
end
end
section
noncomputable def readOf (page : List Nat) (n : Nat) : List (List Nat) × List Nat × Int :=
 ((toks n (page, 1)).1, (tGo (toks n (page, 1)).2.1 (toks n (page, 1)).2.2).1, (tGo (toks n (page, 1)).2.1 (toks n (page, 1)).2.2).2.2)
theorem nex {h : Heap} {a b : Addr} (hn : h.get? a = none) (hs : ∃ o, h.get? b = some o) : b ≠ a := fun e => by
 obtain ⟨_, hs⟩ := hs
 rw [e, hn] at hs; cases hs
structure ReadAt (q : List (List Nat) × List Nat × Int) (s s' : Shared) (v : Value) : Prop where
 out : ∃ a Z ys v1 v2, v = .ref a ∧ s.heap.get? a = none ∧ IsTupH s'.heap a #[.ref Z, v1, v2] ∧ s.heap.get? Z = none ∧ s'.heap.PlainList Z ys ∧ Strs q.1 ys.toList ∧ HV (.str q.2.1) v1 ∧ HV (.int q.2.2) v2
 tab : TabAt s'.heap
section
variable {G : Gl} (g : IsG G)
include g
theorem read_law {page : List Nat} {n : Nat} {k : Nat} (hk : k < 36) (hp : page.length ≤ 16777216) (hn : n ≤ 16777216) {tp tn : Tok} {A : Around} {s : Shared} (hA : Aok k A) (htok : 0 < s.toks) (hbare : AllBare s.gens)
 (htop : ∀ h : Heap, (∀ b o, ¬ tabW.Wr b → s.heap.get? b = some o → h.get? b = some o) → TopG G h) (hB : s.heap.BuiltinsAt G.mg 180) (hP : s.heap.get? 180 = some (tabObj #[])) :
 codeAny (model G.prog G.w) A (.call (.ref 183) ⟨[.str (toS page) tp, .int n tn], []⟩) (fun r s' => match r with | .ok (.ret v) => Chg tabW.Wr noG s s' ∧ ReadAt (readOf page n) s s' v | .ok _ => False | .error _ => False) s := by
 refine xcode_raw (W := tabW) (ξ := true) (ds := [.str page, .int n]) (P := fun v s' => ReadAt (readOf page n) s s' v) (fn_law_read g) (by exact dl1 1 40 1 36 hk rfl) rfl (fun d hd => by
  rcases List.mem_cons.mp hd with rfl | hd
  · rfl
  · rw [List.mem_singleton.mp hd]; rfl) (vs := [.str (toS page) tp, .int n tn]) ⟨⟨tp, rfl⟩, ⟨tn, rfl⟩, trivial⟩ hA htok hbare htop ⟨⟨_, hP⟩, fun _ => hP⟩ (fun c A s1 hc X hA1 J hkp hcells hcode hqual hnew hbase => ?_)
 obtain ⟨cS, hcS⟩ : ∃ cS, c.env.cells.lookup ("signs" : Str) = some cS := by rw [hcells]; exact ⟨_, rfl⟩
 have hBr : ∀ {W : Wd} {μ : List Addr} {σ : St} {ξ : W.X} {s' : Shared}, XJ G W c μ σ ξ s' → s'.heap.BuiltinsAt G.mg 180 := fun J' => by
  obtain ⟨bm, o, b1, b2, b3, b4, b5, b6⟩ := hB
  exact ⟨bm, o, b1, b2, b3, b4, J'.r.base bm o (.inl ((hbase bm o).mpr ⟨b4, b5⟩)), b6⟩
 have h180 : ∀ o, ¬ c.base 180 o := fun o h => ((hbase 180 o).mp h).1 rfl
 refine wpAny_execs_cons (wp_asg rfl (wpAny_mono ((show EvN G (fdAt G.w.params 183).scope (k + 1) _ _ (charsD page) from evN_call (ev_blt rfl (no_list g) (mb_list g)) (.ty _) (evL_cons (ev_loc rfl rfl) evL_nil) (list_s hp)) (tabW.cx c s1) [] A s1 hc hA1 J.r) (fun v s2 hq => ?_) fun _ _ f => f))
 obtain ⟨k2, sA, vs, e2, n2, p2, l2⟩ := hq
 subst e2
 have hch : Chars page vs.toList := HoldsL.flat (fun d hd => by
  obtain ⟨ch, _, rfl⟩ := List.mem_map.mp hd; rfl) l2
 have φ1 : TabAt s1.heap ∧ (true = true → s1.heap.get? 180 = some (tabObj #[])) := J.φ
 obtain ⟨X2, J2⟩ := XJ.grow (W' := sgW sA page) (ξ' := ()) X J (fun b hb => by rcases hb with rfl | rfl; exact .inl rfl; exact .inr n2) (fun b hb => .inl hb) (fun b h => h.elim) (Chg.of_kp k2) ⟨k2.heap _ _ (φ1.2 rfl), ⟨vs.toList, by simpa using p2, hch⟩⟩
 refine wpAny_mono ((show As G (fdAt G.w.params 183).scope (k + 1) _ (.val (.ref sA)) _ _ from as_cell rfl rfl) ((sgW sA page).cx c s2) [] A s2 _ hc X.fm hA1 J2.r rfl) (fun _ s3 hq => ?_) fun _ _ f => f
 obtain ⟨r3, _⟩ := hq
 have J3 := J2.go X2 r3
 refine wpAny_execs_cons (wp_asg rfl (wp_newlx g (by exact dl1 2 39 1 36 hk rfl) hc X2 hA1 J3 rfl ev_str rfl (fun _ => rfl) (fun _ => rfl) (fun v u s4 s5 st dst pb0 mS k4 hv4 N => ?_)))
 obtain rfl := N.val
 have J4 := J3.kp X2 k4
 have φ4 : s4.heap.get? 180 = some (tabObj #[]) ∧ Sg sA page s4.heap := J4.φ
 obtain ⟨X5, J5⟩ := XJ.grow (W' := stW sA st dst page) (ξ' := true) X2 J4 (fun b hb => by
  rcases hb with rfl | rfl | rfl | rfl
  · exact .inl (.inl rfl)
  · exact .inl (.inr rfl)
  · exact .inr N.n1
  · exact .inr N.n2) (fun b hb => hb.imp id .inl) (fun b h => h.elim) (Chg.of_kp N.kp) ⟨⟨⟨_, N.kp.heap _ _ φ4.1⟩, fun _ => N.kp.heap _ _ φ4.1⟩, φ4.2.at fun o => N.kp.heap _ o, mS, N.inst, N.within⟩
 refine wpAny_mono ((show As G (fdAt G.w.params 183).scope (k + 1) _ (.val (.ref st)) _ _ from as_loc rfl rfl) ((stW sA st dst page).cx c s5) [] A s5 _ hc X.fm hA1 J5.r rfl) (fun _ s6 hq => ?_) fun _ _ f => f
 obtain ⟨r6, _⟩ := hq
 have J6 := J5.go X5 r6
 have ne_st : sA ≠ st := nex N.n1 φ4.2.ex
 have ne_dst : sA ≠ dst := nex N.n2 φ4.2.ex
 have n180st : (180 : Addr) ≠ st := nex N.n1 ⟨_, φ4.1⟩
 have n180dst : (180 : Addr) ≠ dst := nex N.n2 ⟨_, φ4.1⟩
 have n180sA : (180 : Addr) ≠ sA := nex n2 ⟨_, φ1.2 rfl⟩
 have φ6 : (TabAt s6.heap ∧ (true = true → s6.heap.get? 180 = some (tabObj #[]))) ∧ Sg sA page s6.heap ∧ ∃ mS, InstD s6.heap st dst 80 mS ∧ Within mS nm4 := J6.φ
 refine wpAny_execs_cons (PySem.plainObj_wpAny_Assign_Attribute (wpAny_mono (wpAny_toks_of (Nat.le_refl s6.toks) (lam_make g (env := c.env) J6.r.topG (hBr J6) J6.r.glob (hcode.trans rfl) hcS (φ6.1.2 rfl))) (fun v s7 hq => ?_) fun _ _ f => f.2) rfl)
 obtain ⟨htk7, fL, lc, e7, kp7, nf, nl, nfl, lam7, t7, os7, gen7⟩ := hq
 subst e7
 obtain ⟨mS6, I6, wi6⟩ := φ6.2.2
 obtain ⟨⟨ost, eost⟩, odst, eodst⟩ := I6.at_
 obtain ⟨osA, eosA⟩ := φ6.2.1.ex
 have I7 : InstD s7.heap st dst 80 mS6 := I6.keep (fun o => kp7 _ o n180st.symm) (fun o => kp7 _ o n180dst.symm)
 have ch7 : Chg (stW sA st dst page).Wr noG s6 s7 := ⟨fun b o hb e => kp7 b o (fun q => hb (.inl q)) e, os7, fun h => by rw [gen7]; exact h, fun g' x _ e => by rw [gen7]; exact e, htk7⟩
 have J7 := J6.chg X5 ch7 (show (stW sA st dst page).Φ false s7.heap from ⟨⟨t7, fun h => nomatch h⟩, φ6.2.1.at fun o => kp7 _ o n180sA.symm, mS6, I7, wi6⟩)
 refine wpAny_mono ((show Ev G (fdAt G.w.params 183).scope (k + 1) _ (.Name "stream" _) (.val (.ref st)) from ev_loc rfl rfl) ((stW sA st dst page).cx c s7) [] A s7 hc hA1 J7.r) (fun ov s8 hq => ?_) fun _ _ f => f
 obtain ⟨k8, hv8⟩ := hq
 have hv8' : ov = .ref st := hv8
 subst hv8'
 have J8 := J7.kp X5 k8
 have I8 : InstD s8.heap st dst 80 mS6 := I7.keep (fun o => k8.heap _ o) (fun o => k8.heap _ o)
 refine wp_tk (attr_set (cls80 g J8.r.topG) (mN_sa _) (mN_rd _) oB_rd I8 wi6 (by size_fits) fun h9 tk9 I9 hk9 htk9 => ?_)
 have fst : fL ≠ st := (nex nf ⟨_, eost⟩).symm
 have fdst : fL ≠ dst := (nex nf ⟨_, eodst⟩).symm
 have lst : lc ≠ st := (nex nl ⟨_, eost⟩).symm
 have ldst : lc ≠ dst := (nex nl ⟨_, eodst⟩).symm
 have fsA : fL ≠ sA := (nex nf ⟨_, eosA⟩).symm
 have lsA : lc ≠ sA := (nex nl ⟨_, eosA⟩).symm
 have f180 : fL ≠ 180 := (nex nf ⟨_, φ6.1.2 rfl⟩).symm
 have l180 : lc ≠ 180 := (nex nl ⟨_, φ6.1.2 rfl⟩).symm
 have to9 : ∀ b o, b ≠ st → b ≠ dst → s7.heap.get? b = some o → h9.get? b = some o := fun b o h1 h2 e => hk9 b o h1 h2 (k8.heap b o e)
 have ch9 : Chg (stW sA st dst page).Wr noG s6 { s8 with heap := h9, toks := tk9 } := (ch7.trans (Chg.of_kp k8)).trans ⟨fun b o hb e => hk9 b o (fun q => hb (.inr (.inr (.inl q)))) (fun q => hb (.inr (.inr (.inr q)))) e, rfl, fun h => h, fun _ _ _ e => e, htk9⟩
 have φ9 : (lmW G.w.params sA st dst fL lc cS page).Φ () h9 := ⟨(by obtain ⟨o, e⟩ := t7; exact ⟨o, to9 _ _ n180st n180dst e⟩), (φ6.2.1.at fun o => kp7 _ o n180sA.symm).at fun o => to9 _ o ne_st ne_dst, ⟨_, I9, if_pos rfl⟩, lam7.keep (fun o => to9 _ o fst fdst) (fun o => to9 _ o lst ldst)⟩
 obtain ⟨X9, J9⟩ := XJ.grow (W' := lmW G.w.params sA st dst fL lc cS page) (ξ' := ()) X5 J6 (fun b hb => by
  rcases hb with rfl | rfl | rfl | rfl | rfl | rfl
  · exact .inl (.inl rfl)
  · exact .inl (.inr (.inl rfl))
  · exact .inl (.inr (.inr (.inl rfl)))
  · exact .inl (.inr (.inr (.inr rfl)))
  · exact .inr nf
  · exact .inr nl) (fun b hb => hb.imp id fun h => h.imp id fun h => h.imp id .inl) (fun b h => h.elim) ch9 φ9
 generalize hs9 : ({ s8 with heap := h9, toks := tk9 } : Shared) = s9 at J9
 refine wpAny_execs_cons (wp_asg rfl (wp_newlx g (d := .val (.ref st)) (by exact dl1 2 39 1 36 hk rfl) hc X9 hA1 J9 rfl (ev_loc rfl rfl) rfl (fun _ => rfl) (fun _ => rfl) (fun v u s10 s11 lx dlx pb mA k10 hv10 N2 => ?_)))
 obtain rfl := N2.val
 have J10 := J9.kp X9 k10
 have φ10 : TabAt s10.heap ∧ Sg sA page s10.heap ∧ (∃ mS, InstD s10.heap st dst 80 mS ∧ mS "read" = some (.ref fL)) ∧ LamAt G.w.params s10.heap fL lc cS := J10.φ
 have old10 : ∀ b, (lmW G.w.params sA st dst fL lc cS page).Wr b → b ≠ lx ∧ b ≠ dlx ∧ b ≠ pb := fun b hb => by
  have ho := (lmW G.w.params sA st dst fL lc cS page).ex (ξ := ()) φ10 hb
  exact ⟨nex N2.n1 ho, nex N2.n2 ho, nex N2.n3 ho⟩
 obtain ⟨ca, cv, q1, q2, q3⟩ := J10.r.cell "signs" (.val (.ref sA)) rfl (.inl (kindOf_of hc rfl))
 have q1' : c.env.cells.lookup ("signs" : Str) = some ca := q1
 rw [hcS] at q1'
 cases q1'
 have oldc : cS ≠ lx ∧ cS ≠ dlx ∧ cS ≠ sA := by
  obtain ⟨oc, eoc, hoc⟩ := q2
  refine ⟨nex N2.n1 ⟨_, eoc⟩, nex N2.n2 ⟨_, eoc⟩, fun e => ?_⟩
  obtain ⟨vs', ⟨n', pl'⟩, _⟩ := φ10.2.1
  rw [e, pl'] at eoc; cases eoc; cases hoc
 have w180 := old10 180 (.inl rfl)
 have wsA := old10 sA (.inr (.inl rfl))
 have wst := old10 st (.inr (.inr (.inl rfl)))
 have wdst := old10 dst (.inr (.inr (.inr (.inl rfl))))
 have wfL := old10 fL (.inr (.inr (.inr (.inr (.inl rfl)))))
 have wlc := old10 lc (.inr (.inr (.inr (.inr (.inr rfl)))))
 have hv10' : v = .ref st := hv10
 subst hv10'
 let y : Ly := ⟨sA, lx, dlx, st, dst, fL, lc, cS, pb⟩
 have φ11 : OutAt G.w.params y page 1 s11.heap := by
  refine ⟨wsA.1, wsA.2.1, ?_, ?_, φ10.2.1.at fun o => N2.kp.heap _ o, hp, ⟨mA, N2.inst, N2.within, N2.line, N2.ins, N2.ws, N2.pbm⟩, (by obtain ⟨m, e, q⟩ := φ10.2.2.1; exact ⟨m, e.keep (fun o => N2.kp.heap _ o) (fun o => N2.kp.heap _ o), q⟩), φ10.2.2.2.keep (fun o => N2.kp.heap _ o) (fun o => N2.kp.heap _ o), N2.pbl, (by obtain ⟨o, e⟩ := φ10.1; exact ⟨o, N2.kp.heap _ _ e⟩)⟩
  · rintro b (rfl | rfl | rfl | rfl | rfl | rfl) (h | h | h)
    · exact ne_st h.symm
    · exact wst.1 h
    · exact wst.2.1 h
    · exact ne_dst h.symm
    · exact wdst.1 h
    · exact wdst.2.1 h
    · exact fsA h
    · exact wfL.1 h
    · exact wfL.2.1 h
    · exact lsA h
    · exact wlc.1 h
    · exact wlc.2.1 h
    · exact oldc.2.2 h
    · exact oldc.1 h
    · exact oldc.2.1 h
    · exact wsA.2.2 h.symm
    · exact N2.ne1 h
    · exact N2.ne2 h
  · rintro (h | h | h)
    · exact n180sA h
    · exact w180.1 h
    · exact w180.2.1 h
 obtain ⟨X11, J11⟩ := XJ.grow (W' := outW G.w.params y) (ξ' := (page, 1)) X9 J10 (fun b hb => by
  rcases hb with rfl | (rfl | rfl | rfl) | rfl | rfl | rfl | rfl | rfl
  · exact .inl (.inl rfl)
  · exact .inl (.inr (.inl rfl))
  · exact .inr N2.n1
  · exact .inr N2.n2
  · exact .inl (.inr (.inr (.inl rfl)))
  · exact .inl (.inr (.inr (.inr (.inl rfl))))
  · exact .inl (.inr (.inr (.inr (.inr (.inl rfl)))))
  · exact .inl (.inr (.inr (.inr (.inr (.inr rfl)))))
  · exact .inr N2.n3) (fun b hb => by
  rcases hb with rfl | rfl | rfl | rfl | rfl | rfl
  · exact .inl rfl
  · exact .inr (.inl (.inl rfl))
  · exact .inr (.inr (.inl rfl))
  · exact .inr (.inr (.inr (.inl rfl)))
  · exact .inr (.inr (.inr (.inr (.inl rfl))))
  · exact .inr (.inr (.inr (.inr (.inr (.inl rfl)))))) (fun b h => h.elim) (Chg.of_kp N2.kp) φ11
 refine wpAny_mono ((show As G (fdAt G.w.params 183).scope (k + 1) _ (.val (.ref lx)) _ _ from as_cell rfl rfl) ((outW G.w.params y).cx c s11) [] A s11 _ hc X.fm hA1 J11.r rfl) (fun _ s12 hq => ?_) fun _ _ f => f
 obtain ⟨r12, _⟩ := hq
 have J12 := J11.go X11 r12
 refine wpAny_execs_cons (wpAny_mono (x_words g (k := k + 1) (y := y) (n := n) (by exact dl1 2 37 1 36 hk rfl) hc X11 hA1 J12 rfl rfl rfl rfl rfl rfl rfl rfl rfl hn hcS rfl rfl rfl rfl) (fun f s13 hq => ?_) fun _ _ f => f)
 obtain ⟨e13, Z, I, nZ, X13, J13⟩ := hq
 subst e13
 have hrd : readOf page n = ((toks n (page, 1)).1, (tGo (toks n (page, 1)).2.1 (toks n (page, 1)).2.2).1, (tGo (toks n (page, 1)).2.1 (toks n (page, 1)).2.2).2.2) := rfl
 rw [hrd]
 generalize toks n (page, 1) = tk13 at J13
 have φ13 : DAt G.w.params y Z I tk13.2 tk13.1 s13.heap := J13.φ
 obtain ⟨cl, vl, g1, g2, g3⟩ := J13.r.cell "lexer" (.val (.ref lx)) rfl (.inl (kindOf_of hc rfl))
 have g3' : vl = .ref lx := g3
 subst g3'
 obtain ⟨ca', cv', f1, f2, f3⟩ := J13.r.cell "signs" (.val (.ref sA)) rfl (.inl (kindOf_of hc rfl))
 have f1' : c.env.cells.lookup ("signs" : Str) = some ca' := f1
 rw [hcS] at f1'
 cases f1'
 have f3' : cv' = .ref sA := f3
 subst f3'
 have ka : Aok (k + 1) A := hA1
 refine wpAny_execs_cons (wp_asg rfl (wp_getTok g (y := y) (k := k + 1) (rest := tk13.2.1) (line := tk13.2.2) (by exact dl1 2 37 1 36 hk rfl) hA1 J13.r.tok J13.r.bare (fun h hh => J13.top' X13 h fun b o nb e => hh b o (fun q => nb (.inl (.inr (.inl q)))) e) φ13.out f2
  (wpAny_Name (wpAny_loadName_cell J13.r.kind (kindOf_of hc rfl) g1 g2 ⟨rfl, rfl⟩) (by decide)) rfl fun v14 s14 ch14 out14 hv14 => ?_))
 have φ14 : DAt G.w.params y Z I (tGo tk13.2.1 tk13.2.2).2 tk13.1 s14.heap := by
  refine ⟨out14, φ13.nZ, (by obtain ⟨ys, e, q⟩ := φ13.words; exact ⟨ys, e.at fun o => ch14.heap Z o (fun q => φ13.nZ (.inr (.inl q))), q⟩), ?_⟩
  by_cases hI : y.Wr I
  · exact out14.ex (.inr (.inl hI))
  · obtain ⟨o, e⟩ := φ13.it; exact ⟨o, ch14.heap I o hI e⟩
 have J14 := J13.chg X13 (show Chg (dW G.w.params y Z I).Wr noG s13 s14 from ch14.wider (fun b h => .inl (.inr (.inl h))) fun _ h => h) (show (dW G.w.params y Z I).Φ ((tGo tk13.2.1 tk13.2.2).2, tk13.1) s14.heap from φ14)
 refine wpAny_mono ((show As G (fdAt G.w.params 183).scope (k + 1) _ (.str (tGo tk13.2.1 tk13.2.2).1) _ _ from as_loc rfl rfl) ((dW G.w.params y Z I).cx c s14) [] A s14 _ hc X.fm hA1 J14.r (HV.holds rfl hv14)) (fun _ s15 hq => ?_) fun _ _ f => f
 obtain ⟨r15, _⟩ := hq
 have J15 := J14.go X13 r15
 refine wpAny_execs_cons (wpAny_Return_some ?_)
 show wpAny _ A (do standAt _; newTuple (← spliced (backTo _ (starEach _ c.env)))) _ _ s15
 refine wpAny_bind (wpAny_standAt (wpAny_bind ?_))
 refine Calls.spliced_cons (wpAny_mono ((show Ev G (fdAt G.w.params 183).scope (k + 1) _ (.Name "words" _) (.val (.ref Z)) from ev_loc rfl rfl) ((dW G.w.params y Z I).cx c s15) [] A s15 hc hA1 J15.r) (fun w1 s16 hq => ?_) fun _ _ f => f)
 obtain ⟨k16, hw1⟩ := hq
 have hw1' : w1 = .ref Z := hw1
 subst hw1'
 have J16 := J15.kp X13 k16
 refine Calls.spliced_cons (wpAny_mono ((show Ev G (fdAt G.w.params 183).scope (k + 1) _ (.Name "rest" _) (.str (tGo tk13.2.1 tk13.2.2).1) from ev_loc rfl rfl) ((dW G.w.params y Z I).cx c s16) [] A s16 hc hA1 J16.r) (fun w2 s17 hq => ?_) fun _ _ f => f)
 obtain ⟨k17, hw2⟩ := hq
 have J17 := J16.kp X13 k17
 refine Calls.spliced_cons (Attribute_any_ (wpAny_mono ((show Ev G (fdAt G.w.params 183).scope (k + 1) _ (.Name "lexer" _) (.val (.ref lx)) from ev_cell rfl rfl) ((dW G.w.params y Z I).cx c s17) [] A s17 hc hA1 J17.r) (fun w3 s18 hq => ?_) fun _ _ f => f))
 obtain ⟨k18, hw3⟩ := hq
 have hw3' : w3 = .ref lx := hw3
 subst hw3'
 have J18 := J17.kp X13 k18
 have φ18 : DAt G.w.params y Z I (tGo tk13.2.1 tk13.2.2).2 tk13.1 s18.heap := J18.φ
 obtain ⟨mA18, I18, M18⟩ := φ18.out.lexer
 obtain ⟨t18, ht18⟩ := M18.line
 refine attr_own (cls80 g J18.r.topG) (mN_ga _) (mN_line _) oB_line I18 ht18 rfl ?_
 refine Calls.spliced_nil ?_
 refine wpAny_newObj_type ?_ (by exact Nat.le_of_ble_eq_true rfl)
 have kF : Kp s18 { s18 with heap := s18.heap.push { cls := .type "tuple", data := .seq [Value.ref Z, w2, .int (tGo tk13.2.1 tk13.2.2).2.2 t18].toArray }, toks := s18.toks + 1 } := ⟨Kp0.htok fun b o e => Heap.get?_push_of_some _ e, Nat.le_succ _⟩
 have JF := J18.kp X13 kF
 have back : ∀ (a : Addr), s18.heap.get? a = none → s.heap.get? a = none := fun a ha => by
  cases e : s.heap.get? a with
  | none => rfl
  | some o =>
   by_cases h : a = 180
   · obtain ⟨o', e'⟩ := φ18.out.tab
     rw [h, e'] at ha; cases ha
   · have := J18.r.base a o (.inl ((hbase a o).mpr ⟨h, e⟩))
     rw [ha] at this; cases this
 have zback : s.heap.get? Z = none := by
  cases e : s.heap.get? Z with
  | none => rfl
  | some o =>
   by_cases h : Z = 180
   · exact absurd (.inl h) φ18.nZ
   · have := J12.r.base Z o (.inl ((hbase Z o).mpr ⟨h, e⟩))
     rw [nZ] at this; cases this
 obtain ⟨ys, hys, hst⟩ := φ18.words
 refine ⟨JF.out, ⟨_, Z, ys.toArray, w2, _, rfl, back _ (fresh_size _), ⟨0, Heap.get?_push_size _ rfl⟩, zback, hys.at fun o => kF.heap Z o, by simpa using hst, hw2.flat rfl, ⟨t18, rfl⟩⟩, (by obtain ⟨o, e⟩ := φ18.out.tab; exact ⟨o, kF.heap _ _ e⟩)⟩
end
end
section
noncomputable def lawW (mg : Str → Option Value) (h4 : mg "__builtins__" = some (.ref 4)) : Wd where
 X := Bool
 Wr := fun b => b = 180
 Fx := fun b => b = 4
 Φ := fun ξ h => (TabAt h ∧ (ξ = true → h.get? 180 = some (tabObj #[]))) ∧ h.BuiltinsAt mg 180
 ex := fun x hb => by cases hb; exact x.1.1.ex
 fx := fun x hb => by
  cases hb
  obtain ⟨bm, o, b1, b2, b3, b4, b5, b6⟩ := x.2
  rw [h4] at b1; cases b1
  exact ⟨by decide, o, b5⟩
 keep := fun x k => ⟨⟨(by obtain ⟨o, e⟩ := x.1.1; exact ⟨o, k _ _ (.inl rfl) e⟩), fun h => k _ _ (.inl rfl) (x.1.2 h)⟩, by
  obtain ⟨bm, o, b1, b2, b3, b4, b5, b6⟩ := x.2
  have b1' := b1
  rw [h4] at b1'; cases b1'
  exact ⟨4, o, b1, b2, b3, b4, k _ _ (.inr rfl) b5, b6⟩⟩
theorem strs_holds {O : Addr → Prop} {μ : List Addr} {h : Heap} {ws : List (List Nat)} {vs : List Value} (x : Strs ws vs) : HoldsL O μ h (ws.map .str) vs :=
 HoldsL.flat (fun d hd => by obtain ⟨w, _, rfl⟩ := List.mem_map.mp hd; rfl) x
section
variable {G : Gl} (g : IsG G) (h4 : G.mg "__builtins__" = some (.ref 4))
include g
theorem xev_readlaw {sc : Scope} {k : Nat} {σ : St} {page : List Nat} {n : Nat} {e1 e2 : Expr} {p1 p : Pos} (hk : k < 36) (hp : page.length ≤ 16777216) (hn : n ≤ 16777216) (hg : sc.names.lookup ("_law_read" : Str) = some .globalImplicit)
 (h1 : Ev G sc k σ e1 (.str page)) (h2 : Ev G sc k σ e2 (.int n)) (hst1 : ∀ env, starEach [e1, e2] env = (false, eval e1 env) :: starEach [e2] env) (hst2 : ∀ env, starEach [e2] env = (false, eval e2 env) :: starEach [] env)
 (hs : ∀ env, eval (.Call (.Name "_law_read" p1) [e1, e2] [] p) env = (do callWith p (← eval (.Name "_law_read" p1) env) [] (backTo p (starEach [e1, e2] env)) [])) :
 xEv G (lawW G.mg h4) sc k true σ (.Call (.Name "_law_read" p1) [e1, e2] [] p) (.tup [.lst ((readOf page n).1.map .str), .str (readOf page n).2.1, .int (readOf page n).2.2]) false := by
 intro c μ A s hc X hA J
 rw [hs]
 refine wpAny_bind (wpAny_mono ((show Ev G sc k σ (.Name "_law_read" p1) (.val (.ref 183)) from ev_glob hg (mg_law_read g)) ((lawW G.mg h4).cx c s) μ A s hc hA J.r) (fun v0 s0 hq => ?_) fun _ _ f => f)
 obtain ⟨k0, hv0⟩ := hq
 have hv0' : v0 = .ref 183 := hv0
 subst hv0'
 have J0 := J.kp X k0
 have hx := (show EvL G sc k σ [e1, e2] [.str page, .int n] from evL_cons h1 (evL_cons h2 evL_nil hst2) hst1) ((lawW G.mg h4).cx c s0) μ A s0 p hc hA J0.r
 refine callWith_fk (fn_law_read g).fk hx.1 (wpAny_mono hx.2 (fun vs s2 ⟨k2, x2⟩ => ⟨(J0.kp X k2).r.topG, ?_⟩) fun _ _ f => f)
 have J2 := J0.kp X k2
 obtain ⟨v1, v2, rfl, ⟨tp, rfl⟩, ⟨tn, rfl⟩⟩ := x2.two
 have φ2 : (TabAt s2.heap ∧ (true = true → s2.heap.get? 180 = some (tabObj #[]))) ∧ s2.heap.BuiltinsAt G.mg 180 := J2.φ
 refine wpAny_mono (wpAny_call (Q := fun v s' => Chg tabW.Wr noG s2 s' ∧ ReadAt (readOf page n) s2 s' v) (E := fun _ _ => False) (read_law g (tp := tp) (tn := tn) hk hp hn hA J2.r.tok J2.r.bare (fun h hh => J2.top' X h fun b o nb e => hh b o nb e) φ2.2 (φ2.1.2 rfl))) (fun v s3 hq => ?_) fun _ _ f => f
 obtain ⟨ch, R⟩ := hq
 have ch' : Chg (lawW G.mg h4).Wr noG s2 s3 := ch
 refine ⟨(Chg.of_kp (k0.trans k2)).trans ch', ⟨⟨R.tab, fun h => nomatch h⟩, ?_⟩, ?_⟩
 · obtain ⟨bm, o, b1, b2, b3, b4, b5, b6⟩ := φ2.2
   exact ⟨bm, o, b1, b2, b3, b4, ch.heap _ _ b4 b5, b6⟩
 · obtain ⟨a, Z, ys, w1, w2, rfl, na, ta, nz, hz, hst, hw1, hw2⟩ := R.out
   refine ⟨a, _, rfl, J2.r.fresh na, ta, ⟨⟨Z, ys, rfl, J2.r.fresh nz, hz.isList, strs_holds hst⟩, HV.holds rfl hw1, HV.holds rfl hw2, trivial⟩⟩
end
end
section
noncomputable def lawRec : DefRec := match (recsOf PySem.Challenge.pw_wo0044_01).find? (fun d => d.name == Str.ofString "law") with | some d => d | none => ⟨"", default, [], default, default⟩
noncomputable def pageOf (ds : List Nat) : List Nat := (pgRun ds).page ++ shutsP (pgRun ds).deep
noncomputable def dueOf (ds : List Nat) : List (List Nat) := (pgRun ds).due ++ List.replicate (pgRun ds).deep [41]
noncomputable def waysOf (ds : List Nat) : List Int := (pgRun ds).ways
noncomputable def begOf (ns : List Int) : Int := ((ns.map fun x : Int => x.fmod 1000000).sum).fmod 15 - 4
noncomputable def cellOf (ways : List Int) (R : List (List Nat)) (one other : List Nat) : List Int := ((List.range' 1 (R.length - 1)).filter fun node => one.contains node != other.contains node).map fun node => ways.getD (node - 1) 0
noncomputable def apartOf (ways : List Int) (R : List (List Nat)) : List (List (List Int)) := R.map fun one => R.map fun other => cellOf ways R one other
noncomputable def sumsOf (b : Int) (ways : List Int) (R : List (List Nat)) : List (List Int) := (apartOf ways R).map fun rows => rows.map fun row => b + row.sum
noncomputable def prodsOf (b : Int) (ways : List Int) (R : List (List Nat)) : List (List Int) := (apartOf ways R).map fun rows => rows.map fun row => b * prodI row
noncomputable def dueSums (b : Int) (ways : List Int) : Int := (-1) ^ ways.length * 2 ^ (ways.length - 1) * prodI ways * (2 * b + ways.sum)
noncomputable def dueProds (b : Int) (ways : List Int) : Int := b ^ (ways.length + 1) * prodI (ways.map fun w => 1 - w * w)
noncomputable def matAt (T : List (List Int)) (i j : Nat) : Int := (T.getD i []).getD j 0
noncomputable def natsD (r : List Nat) : D := .lst (r.map fun n => D.int (n : Nat))
theorem contains_nat (r : List Nat) (x : Nat) : (r.map fun n : Nat => (n : Int)).contains (x : Int) = r.contains x := by
 rw [Bool.eq_iff_iff]
 simp only [List.contains_iff_mem, List.mem_map]
 constructor
 · rintro ⟨a, h, e⟩
   have : a = x := by omega
   rw [← this]; exact h
 · exact fun h => ⟨x, h, rfl⟩
theorem in_nats {G : Gl} {sc : Scope} {k : Nat} {σ : St} {r : List Nat} {x : Nat} : Two G sc k σ (compareOp .In) (.int (x : Nat)) (natsD r) (.bool (r.contains x)) := by
 have h := cmp_in_ints (G := G) (sc := sc) (k := k) (σ := σ) (d := natsD r) (ns := r.map fun n : Nat => (n : Int)) (i := (x : Nat)) (by unfold natsD; rw [List.map_map]; rfl)
 rw [contains_nat] at h
 exact h
noncomputable abbrev intsD (r : List Int) : D := .lst (r.map D.int)
noncomputable abbrev rowsD (rs : List (List Int)) : D := .lst (rs.map intsD)
theorem ints_clean (r : List Int) : (intsD r).clean = true := clean_ints r
theorem rows_cleanL (rs : List (List Int)) : D.cleanL (rs.map intsD) = true := cleanL_map intsD ints_clean rs
theorem rows_clean (rs : List (List Int)) : (rowsD rs).clean = true := rows_cleanL rs
theorem ap_cleanL (a : List (List (List Int))) : D.cleanL (a.map rowsD) = true := cleanL_map rowsD rows_clean a
structure LawF (num : List Nat → Option Int) (ns : List Int) (ds : List Nat) (R : List (List Nat)) : Prop where
 draws : drawsOf ns = ds.map fun d : Nat => (d : Int)
 few : ds.length = 4 ∨ ds.length = 5
 read : readOf (pageOf ds) (dueOf ds).length = (dueOf ds, [], 1 + Txt.count (toS (pageOf ds)) (toS [10]))
 duel : (dueOf ds).length ≤ 1000
 okw : ∀ w ∈ dueOf ds, PyData.strOk (toS w) = true
 roads : ∃ bare opens shuts ws, RoadOk (pageOf ds) bare opens shuts ws ∧ roadsOf bare opens shuts = R
 len : R.length = (waysOf ds).length + 1
 wlen : (waysOf ds).length = ds.length
 wsmall : ∀ w ∈ waysOf ds, w.natAbs ≤ 20
 bsmall : (begOf ns).natAbs ≤ 20
 sums : tabGo (· + ·) num (begOf ns) (dueOf ds) [] [] = some (sumsOf (begOf ns) (waysOf ds) R)
 prods : tabGo (· * ·) num (begOf ns) (dueOf ds) [] [] = some (prodsOf (begOf ns) (waysOf ds) R)
 det1 : DetRun R.length (R.length - 1) 0 (matAt (sumsOf (begOf ns) (waysOf ds) R)) 1 1 (dueSums (begOf ns) (waysOf ds))
 det2 : DetRun R.length (R.length - 1) 0 (matAt (prodsOf (begOf ns) (waysOf ds) R)) 1 1 (dueProds (begOf ns) (waysOf ds))
end
section
section
variable {G : Gl} (g : IsG G) (h4 : G.mg "__builtins__" = some (.ref 4))
include g
theorem law_apart {num : List Nat → Option Int} {ns : List Int} {ds : List Nat} {R : List (List Nat)} {k : Nat} (hk : k < 20) (F : LawF num ns ds R) {σ2 : St} {Q : Fl → Bool → St → Prop} (R2 : σ2.get "roads" = some (.lst (R.map natsD))) (W2 : σ2.get "ways" = some (intsD (waysOf ds))) (B2 : σ2.get "begin" = some (.int (begOf ns))) (O2 : σ2.get "words" = some (.lst ((dueOf ds).map .str)))
 (h : ∀ σ3 : St, σ3.get "roads" = some (.lst (R.map natsD)) → σ3.get "ways" = some (intsD (waysOf ds)) → σ3.get "begin" = some (.int (begOf ns)) → σ3.get "words" = some (.lst ((dueOf ds).map .str)) → σ3.get "apart" = some (.lst ((apartOf (waysOf ds) R).map rowsD)) → xExs G (lawW G.mg h4) lawRec.scope k false σ3 (lawRec.body.drop 7) Q) :
 xExs G (lawW G.mg h4) lawRec.scope k false σ2 (lawRec.body.drop 6) Q := by
 have hfew : R.length = ds.length + 1 := by rw [F.len, F.wlen]
 have hf45 := F.few
 have hclR : D.cleanL (R.map natsD) = true := cleanL_map natsD (fun r => nats_clean r) _
 have hclc : ∀ one : List Nat, D.cleanL (R.map fun other => D.lst ((cellOf (waysOf ds) R one other).map .int)) = true := fun one => cleanL_map (fun other => D.lst ((cellOf (waysOf ds) R one other).map .int)) (fun other => clean_ints _) _
 have hcla : D.cleanL (R.map fun one => D.lst (R.map fun other => D.lst ((cellOf (waysOf ds) R one other).map .int))) = true := cleanL_map (fun one => D.lst (R.map fun other => D.lst ((cellOf (waysOf ds) R one other).map .int))) hclc _
 refine xs_plain (ex_swap (fr := false) (l := R.map fun one => D.lst (R.map fun other => D.lst ((cellOf (waysOf ds) R one other).map .int))) (comp_mapF R natsD (fun one => [("one", natsD one)]) (fun one => D.lst (R.map fun other => D.lst ((cellOf (waysOf ds) R one other).map .int))) (ow := true)
  (evIt_seq (d := .lst (R.map natsD)) (ev_cell rfl R2) rfl hclR (fun h => nomatch h)) (.inl rfl) rfl rfl (.skip rfl (.skip rfl (.free R2 rfl (.free W2 rfl .nil)))) (.cons (D.clean_noh (d := .lst (R.map natsD)) hclR) (.cons (D.clean_noh (d := .lst _) (clean_ints _)) .nil)) (fun one _ => D.clean_firm (d := natsD one) (nats_clean one)) (Nat.le_trans (f6 hfew hf45) (by decide)) (fun _ _ => .cell _ _ _ rfl rfl) (fun one _ => ⟨hclc one, ?_⟩)) hcla rfl rfl rfl rfl (as_loc rfl (D.clean_firm (d := .lst _) hcla))) ?_
 · refine (evN_comp (fr := false) (l := R.map fun other => D.lst ((cellOf (waysOf ds) R one other).map .int)) (comp_mapF R natsD (fun other => [("other", natsD other)]) (fun other => D.lst ((cellOf (waysOf ds) R one other).map .int)) (ow := true)
    (evIt_seq (d := .lst (R.map natsD)) (ev_cell rfl rfl) rfl hclR (fun h => nomatch h)) (.inl rfl) rfl rfl (.skip rfl (.skip rfl (.skip rfl (.skip rfl (.free (d := natsD one) rfl rfl (.free (d := .lst (R.map natsD)) rfl rfl (.free (d := .lst ((waysOf ds).map .int)) rfl rfl .nil))))))) (.cons (D.clean_noh (d := natsD one) (nats_clean one)) (.cons (D.clean_noh (d := .lst (R.map natsD)) hclR) (.cons (D.clean_noh (d := .lst _) (clean_ints _)) .nil))) (fun other _ => D.clean_firm (d := natsD other) (nats_clean other)) (Nat.le_trans (f6 hfew hf45) (by decide)) (fun _ _ => .cell _ _ _ rfl rfl) (fun other _ => ⟨clean_ints _, ?_⟩)) (hclc one)).ev
   refine (evN_comp (fr := false) (l := (cellOf (waysOf ds) R one other).map .int) (comp_isF (List.range' 1 (R.length - 1)) (fun node => .int (node : Nat)) (fun node => [("node", .int (node : Nat))]) (fun node => one.contains node != other.contains node) (fun node => .int ((waysOf ds).getD (node - 1) 0)) (ow := false)
    (evIt_range2 (a := 1) (b := R.length) (ev_bl rfl (no_range g) (mb_range g)) ev_int (by
     rw [← List.length_map (as := R) (f := natsD)]
     exact ev_call (ev_bl rfl (no_len g) (mb_len g)) (.bi _) (evL_cons (ev_cell (d := .lst (R.map natsD)) rfl rfl) evL_nil) (len_l (l := R.map natsD) rfl (by rw [List.length_map]; exact Nat.lt_of_le_of_lt (f6 hfew hf45) (by decide)))) (by exact Nat.le_of_ble_eq_true rfl) (Nat.le_trans (f6 hfew hf45) (by decide))) (.inr fun _ _ => rfl) ?_ rfl (.skip rfl (.skip rfl (.free (d := natsD one) rfl rfl (.free (d := natsD other) rfl rfl (.free (d := .lst ((waysOf ds).map .int)) rfl rfl .nil))))) (.cons (D.clean_noh (d := natsD one) (nats_clean one)) (.cons (D.clean_noh (d := natsD other) (nats_clean other)) (.cons (D.clean_noh (d := .lst _) (clean_ints _)) .nil))) (fun _ _ => rfl) (by rw [List.length_range']; omega) (fun _ _ => .loc _ _ _ rfl)
    (fun node _ => .inr ⟨_, rfl, tr_cmp (ev_cmp (ev_loc rfl rfl) (ev_cell rfl rfl) in_nats) (ev_cmp (ev_loc rfl rfl) (ev_cell rfl rfl) in_nats) cmp_ne_bool⟩) (fun node hn _ => ⟨rfl, ?_⟩)) (clean_ints _)).ev
   · unfold cellOf; rw [List.map_map]; rfl
   · have hn' := up1 (List.mem_range'_1.mp hn)
     have hn6 : node ≤ 1000 := Nat.le_trans (Nat.le_of_lt hn'.2) (Nat.le_trans (f6 hfew hf45) (by decide))
     refine ev_item (l := (waysOf ds).map .int) (i := (node : Int) - 1) (ev_cell rfl rfl) (ev_bin (ev_loc rfl rfl) ev_int bin_sub_int) rfl ?_ (up63 hn6)
     unfold pyAt
     have e1 : ((node : Int) - 1).toNat = node - 1 := tn1
     have e2 : node - 1 < (waysOf ds).length := by rw [F.wlen]; exact Nat.lt_of_lt_of_eq (Nat.sub_lt_sub_right hn'.1 hn'.2) (l1 hfew)
     rw [if_pos (nn1 hn'.1), e1, List.getElem?_map, List.getElem?_eq_getElem e2, List.getD_eq_getElem?_getD, List.getElem?_eq_getElem e2]
     rfl
 refine h _ (sn R2) (sn W2) (sn B2) (sn O2) (St.set_eq.trans (congrArg (fun l => some (D.lst l)) ?_))
 unfold apartOf
 rw [List.map_map]
 refine List.map_congr_left fun one _ => ?_
 show D.lst _ = D.lst _
 rw [List.map_map]; rfl
end
end
section
section
variable {G : Gl} (g : IsG G) (h4 : G.mg "__builtins__" = some (.ref 4))
include g
theorem law_tables {num : List Nat → Option Int} {ns : List Int} {ds : List Nat} {R : List (List Nat)} {k : Nat} (hk : k < 20) (F : LawF num ns ds R) (hnum : ∀ (k : Nat) (σ : St) (w : List Nat) (m : Int), k < 40 → num w = some m → m.natAbs < 2 ^ 64 ∧ Cal G k σ (.ref 190) [.str w] (.int m))
 {σ3 : St} {Q : Fl → Bool → St → Prop} (R3 : σ3.get "roads" = some (.lst (R.map natsD))) (W3 : σ3.get "ways" = some (intsD (waysOf ds))) (B3 : σ3.get "begin" = some (.int (begOf ns))) (O3 : σ3.get "words" = some (.lst ((dueOf ds).map .str))) (A3 : σ3.get "apart" = some (.lst ((apartOf (waysOf ds) R).map rowsD)))
 (h : ∀ σ4 : St, σ4.get "roads" = some (.lst (R.map natsD)) → σ4.get "ways" = some (intsD (waysOf ds)) → σ4.get "begin" = some (.int (begOf ns)) → σ4.get "apart" = some (.lst ((apartOf (waysOf ds) R).map rowsD)) → σ4.get "sums" = some (rowsD (sumsOf (begOf ns) (waysOf ds) R)) → σ4.get "products" = some (rowsD (prodsOf (begOf ns) (waysOf ds) R)) → xExs G (lawW G.mg h4) lawRec.scope k false σ4 (lawRec.body.drop 9) Q) :
 xExs G (lawW G.mg h4) lawRec.scope k false σ3 (lawRec.body.drop 7) Q := by
 refine xs_plain (ex_asg (d := rowsD (sumsOf (begOf ns) (waysOf ds) R)) rfl (ev_call (ev_glob rfl (mg_law_table g)) (fn_law_table g).fk (evL_cons (ev_loc rfl O3) (evL_cons (ev_cell rfl B3) (evL_cons (ev_glob rfl (mg_add g)) evL_nil)))
  (cal_table g (by exact dl1 1 38 1 20 hk rfl) hnum (fn_add g).fk (fun k σ i m hk _ => cal_add g hk) F.duel F.sums)) (as_loc rfl (D.clean_firm (rows_clean _)))) ?_
 refine xs_plain (ex_asg (d := rowsD (prodsOf (begOf ns) (waysOf ds) R)) rfl (ev_call (ev_glob rfl (mg_law_table g)) (fn_law_table g).fk (evL_cons (ev_loc rfl (sn O3)) (evL_cons (ev_cell rfl (sn B3)) (evL_cons (ev_glob rfl (mg_mul g)) evL_nil)))
  (cal_table g (by exact dl1 1 38 1 20 hk rfl) hnum (fn_mul g).fk (fun k σ i m hk hm => cal_mul g hk (mulok_r hm)) F.duel F.prods)) (as_loc rfl (D.clean_firm (rows_clean _)))) ?_
 exact h _ (sn (sn R3)) (sn (sn W3)) (sn (sn B3)) (sn (sn A3)) (sn St.set_eq) St.set_eq
end
end
section
theorem ints_isP (r : List Int) : (intsD r).isP = true := (pdL_map D.int (fun _ => rfl) r).2
theorem ints_pd (r : List Int) : (intsD r).pd = .list (r.map PyData.int) := congrArg PyData.list (pdL_map D.int (fun _ => rfl) r).1
theorem ints_lay (r : List Int) : ((intsD r).pd).canLay0 = true := by rw [ints_pd]; exact canLay_map PyData.int (fun _ => rfl) r
theorem ints_deep (r : List Int) : ((intsD r).pd).depth ≤ 60 := by
 rw [ints_pd]
 have h := depth_map (n := 0) PyData.int (fun _ => Nat.le_refl _) r
 rw [PyData.depth]
 exact dl1 1 60 0 0 h rfl
theorem foldl_small : ∀ (l : List Int) (a : Int), (∀ n ∈ l, n.natAbs ≤ 20) → (l.foldl (· * ·) a).natAbs ≤ a.natAbs * 20 ^ l.length
 | [], a, _ => by simp
 | x :: r, a, h => by
  have h1 := foldl_small r (a * x) fun n hn => h n (List.mem_cons_of_mem _ hn)
  have h2 := h x List.mem_cons_self
  rw [List.foldl_cons, List.length_cons]
  refine Nat.le_trans h1 ?_
  rw [Int.natAbs_mul, Nat.pow_succ, Nat.mul_assoc, Nat.mul_comm (20 ^ r.length) 20]
  exact Nat.mul_le_mul_left _ (Nat.mul_le_mul_right _ h2)
theorem prod_small {l : List Int} (h : ∀ n ∈ l, n.natAbs ≤ 20) (hl : l.length ≤ 6) : (prodI l).natAbs < 2 ^ 1000 := by
 have h1 := foldl_small l 1 h
 have h2 : 20 ^ l.length ≤ 20 ^ 6 := Nat.pow_le_pow_right (by decide) hl
 have h3 : (20 : Nat) ^ 6 < 2 ^ 1000 := Nat.lt_of_lt_of_le (by decide : (20 : Nat) ^ 6 < 2 ^ 64) (Nat.pow_le_pow_right (by decide) (by decide))
 have h4 : (prodI l).natAbs ≤ 20 ^ l.length := by simpa [prodI] using h1
 exact dl2 1 10715086071862673209484250490600018105614048117055336074437503883703510511249361224931983788156958581275946729175531468251871452856923140435984577574698574803934567774824230985421074605062371141877954182153046474983581941267398767559165543946077062914571196477686542167660429831652624386837205668069376 0 0 0 64000000 h4 h2 rfl
theorem cell_small {ways : List Int} {R : List (List Nat)} {one other : List Nat} (h : ∀ w ∈ ways, w.natAbs ≤ 20) : (∀ n ∈ cellOf ways R one other, n.natAbs ≤ 20) ∧ (cellOf ways R one other).length ≤ R.length - 1 := by
 unfold cellOf
 refine ⟨fun n hn => ?_, ?_⟩
 · obtain ⟨j, _, rfl⟩ := List.mem_map.mp hn
   rw [List.getD_eq_getElem?_getD]
   cases e : ways[j - 1]? with
   | none => simp
   | some w => exact h w (List.mem_of_getElem? e)
 · rw [List.length_map]
   refine Nat.le_trans (List.length_filter_le _ _) ?_
   rw [List.length_range']; exact Nat.le_refl _
theorem small_lt {n : Int} {m : Nat} (h : n.natAbs ≤ 20) (hm : 20 < m) : n.natAbs < m := Nat.lt_of_le_of_lt h hm
theorem p64 : 20 < 2 ^ 64 := by decide
theorem p1000 : 20 < 2 ^ 1000 := Nat.lt_of_lt_of_le p64 (Nat.pow_le_pow_right (by decide) (by decide))
section
variable {G : Gl} (g : IsG G) (h4 : G.mg "__builtins__" = some (.ref 4))
include g
theorem law_same {num : List Nat → Option Int} {ns : List Int} {ds : List Nat} {R : List (List Nat)} {k : Nat} (hk : k < 20) (F : LawF num ns ds R)
 {σ4 : St} {Q : Fl → Bool → St → Prop} (R4 : σ4.get "roads" = some (.lst (R.map natsD))) (W4 : σ4.get "ways" = some (intsD (waysOf ds))) (B4 : σ4.get "begin" = some (.int (begOf ns))) (A4 : σ4.get "apart" = some (.lst ((apartOf (waysOf ds) R).map rowsD)))
 (S4 : σ4.get "sums" = some (rowsD (sumsOf (begOf ns) (waysOf ds) R))) (M4 : σ4.get "products" = some (rowsD (prodsOf (begOf ns) (waysOf ds) R)))
 (h : xExs G (lawW G.mg h4) lawRec.scope k false σ4 (lawRec.body.drop 11) Q) :
 xExs G (lawW G.mg h4) lawRec.scope k false σ4 (lawRec.body.drop 9) Q := by
 have hfew : R.length = ds.length + 1 := by rw [F.len, F.wlen]
 have hf45 := F.few
 have hal : (apartOf (waysOf ds) R).length ≤ 6 := by unfold apartOf; rw [List.length_map]; exact f6 hfew hf45
 have hrl : ∀ rows ∈ apartOf (waysOf ds) R, rows.length ≤ 6 := fun rows hr => by
  obtain ⟨one, _, rfl⟩ := List.mem_map.mp hr
  rw [List.length_map]; exact f6 hfew hf45
 refine xs_cons (Q1 := fun fl ξ σ => fl = .next ∧ ξ = false ∧ σ = σ4) (x_if (b := false) (xTr_of (tr_cmp (ev_loc rfl S4) (evN_comp (fr := false) (l := (sumsOf (begOf ns) (waysOf ds) R).map intsD) (comp_mapF (apartOf (waysOf ds) R) rowsD (fun rows => [("rows", rowsD rows)]) (fun rows => intsD (rows.map fun row => begOf ns + row.sum)) (ow := true)
  (evIt_seq (ev_loc rfl A4) rfl (ap_cleanL _) (fun h => nomatch h)) (.inl rfl) ?_ rfl (.skip rfl (.skip rfl (.free B4 rfl .nil))) (.cons rfl .nil) (fun rows _ => D.clean_firm (rows_clean rows)) (by exact dl1 0 16777216 0 6 hal rfl) (fun _ _ => .loc _ _ _ rfl) (fun rows hrows => ⟨ints_clean _, ?_⟩)) (rows_cleanL _)).ev (cmp_ne_same (f := intsD) (l := sumsOf (begOf ns) (waysOf ds) R) rfl rfl ints_isP ints_lay ints_deep))) (fun h => nomatch h) (fun _ => xs_nil ⟨rfl, rfl, rfl⟩)) ?_ (fun fl ξ σ hne h => absurd h.1 hne)
 · unfold sumsOf; rw [List.map_map]; rfl
 · have hrl' := hrl rows hrows
   refine (evN_comp (fr := false) (l := (rows.map fun row => begOf ns + row.sum).map .int) (comp_mapF rows intsD (fun row => [("row", intsD row)]) (fun row => .int (begOf ns + row.sum)) (ow := true)
    (evIt_seq (d := rowsD rows) (ev_loc rfl rfl) rfl (rows_cleanL rows) (fun h => nomatch h)) (.inl rfl) (by rw [List.map_map]; rfl) rfl (.skip rfl (.skip rfl (.skip rfl (.free (d := .int (begOf ns)) rfl rfl .nil)))) (.cons rfl .nil) (fun row _ => D.clean_firm (ints_clean row)) (by exact dl1 0 16777216 0 6 hrl' rfl) (fun _ _ => .loc _ _ _ rfl) (fun row _ => ⟨rfl, ev_bin (ev_cell rfl rfl) (ev_call (ev_bl rfl (no_sum g) (mb_sum g)) (.bi _) (evL_cons (ev_loc (d := intsD row) rfl rfl) evL_nil) (sum_l rfl)) bin_add_int⟩)) (clean_ints _)).ev
 rintro ξ σ ⟨_, rfl, rfl⟩
 have hcell : ∀ rows ∈ apartOf (waysOf ds) R, ∀ row ∈ rows, (∀ n ∈ row, n.natAbs ≤ 20) ∧ row.length ≤ 6 := fun rows hr row hw => by
  obtain ⟨one, _, rfl⟩ := List.mem_map.mp hr
  obtain ⟨other, _, rfl⟩ := List.mem_map.mp hw
  obtain ⟨h1, h2⟩ := cell_small (R := R) (one := one) (other := other) F.wsmall
  exact ⟨h1, Nat.le_trans h2 (Nat.le_trans (Nat.sub_le _ 1) (f6 hfew hf45))⟩
 refine xs_cons (Q1 := fun fl ξ' σ' => fl = .next ∧ ξ' = false ∧ σ' = σ) (x_if (b := false) (xTr_of (tr_cmp (ev_loc rfl M4) (evN_comp (fr := false) (l := (prodsOf (begOf ns) (waysOf ds) R).map intsD) (comp_mapF (apartOf (waysOf ds) R) rowsD (fun rows => [("rows", rowsD rows)]) (fun rows => intsD (rows.map fun row => begOf ns * prodI row)) (ow := true)
  (evIt_seq (ev_loc rfl A4) rfl (ap_cleanL _) (fun h => nomatch h)) (.inl rfl) ?_ rfl (.skip rfl (.skip rfl (.free B4 rfl .nil))) (.cons rfl .nil) (fun rows _ => D.clean_firm (rows_clean rows)) (by exact dl1 0 16777216 0 6 hal rfl) (fun _ _ => .loc _ _ _ rfl) (fun rows hrows => ⟨ints_clean _, ?_⟩)) (rows_cleanL _)).ev (cmp_ne_same (f := intsD) (l := prodsOf (begOf ns) (waysOf ds) R) rfl rfl ints_isP ints_lay ints_deep))) (fun h => nomatch h) (fun _ => xs_nil ⟨rfl, rfl, rfl⟩)) ?_ (fun fl ξ σ hne h => absurd h.1 hne)
 · unfold prodsOf; rw [List.map_map]; rfl
 · have hrl' := hrl rows hrows
   refine (evN_comp (fr := false) (l := (rows.map fun row => begOf ns * prodI row).map .int) (comp_mapF rows intsD (fun row => [("row", intsD row)]) (fun row => .int (begOf ns * prodI row)) (ow := true)
    (evIt_seq (d := rowsD rows) (ev_loc rfl rfl) rfl (rows_cleanL rows) (fun h => nomatch h)) (.inl rfl) (by rw [List.map_map]; rfl) rfl (.skip rfl (.skip rfl (.skip rfl (.free (d := .int (begOf ns)) rfl rfl .nil)))) (.cons rfl .nil) (fun row _ => D.clean_firm (ints_clean row)) (by exact dl1 0 16777216 0 6 hrl' rfl) (fun _ _ => .loc _ _ _ rfl) (fun row hrow => ⟨rfl, ?_⟩)) (clean_ints _)).ev
   obtain ⟨c1, c2⟩ := hcell rows hrows row hrow
   exact ev_bin (ev_cell rfl rfl) (ev_call (ev_glob rfl (mg_law_product g)) (fn_law_product g).fk (evL_cons (ev_loc (d := intsD row) rfl rfl) evL_nil) (cal_product g (by exact dl1 1 40 1 20 hk rfl) (fun n hn => small_lt (c1 n hn) p64) (by exact dl1 0 16777216 0 6 c2 rfl))) (bin_mul_int (mulok_big (small_lt F.bsmall p1000) (prod_small c1 c2)))
 rintro ξ' σ' ⟨_, rfl, rfl⟩
 exact h
end
end
section
theorem foldl_le (B : Nat) : ∀ (l : List Int) (a : Int), (∀ n ∈ l, n.natAbs ≤ B) → (l.foldl (· * ·) a).natAbs ≤ a.natAbs * B ^ l.length
 | [], a, _ => by simp
 | x :: r, a, h => by
  have h1 := foldl_le B r (a * x) fun n hn => h n (List.mem_cons_of_mem _ hn)
  have h2 := h x List.mem_cons_self
  rw [List.foldl_cons, List.length_cons]
  refine Nat.le_trans h1 ?_
  rw [Int.natAbs_mul, Nat.pow_succ, Nat.mul_assoc, Nat.mul_comm (B ^ r.length) B]
  exact Nat.mul_le_mul_left _ (Nat.mul_le_mul_right _ h2)
theorem prod_400 {l : List Int} (h : ∀ n ∈ l, n.natAbs ≤ 400) (hl : l.length ≤ 6) : (prodI l).natAbs < 2 ^ 64 := by
 have h1 := foldl_le 400 l 1 h
 have h2 : 400 ^ l.length ≤ 400 ^ 6 := Nat.pow_le_pow_right (by decide) hl
 have h3 : (400 : Nat) ^ 6 < 2 ^ 64 := by decide
 have h4 : (prodI l).natAbs ≤ 400 ^ l.length := by simpa [prodI] using h1
 exact dl2 1 18446744073709551616 0 0 0 4096000000000000 h4 h2 rfl
theorem sum_small : ∀ {l : List Int}, (∀ n ∈ l, n.natAbs ≤ 20) → l.sum.natAbs ≤ 20 * l.length
 | [], _ => by simp
 | x :: r, h => by
  have h1 := sum_small (l := r) fun n hn => h n (List.mem_cons_of_mem _ hn)
  have h2 := h x List.mem_cons_self
  rw [List.sum_cons, List.length_cons]
  exact ab1 h1 h2
theorem rows_mat {S : List (List Int)} {n : Nat} (h1 : S.length = n) (h2 : ∀ r ∈ S, r.length = n) : rowsD S = .lst ((List.range n).map fun i => .lst (rowD n (matAt S i))) := by
 show D.lst _ = D.lst _
 congr 1
 refine List.ext_getElem (by simp [h1]) fun i hi1 hi2 => ?_
 have hi : i < S.length := by simpa using hi1
 simp only [List.getElem_map, List.getElem_range]
 show D.lst _ = D.lst _
 congr 1
 have hr : (S[i]).length = n := h2 _ (List.getElem_mem hi)
 unfold rowD
 refine List.ext_getElem (by simp [hr]) fun j hj1 hj2 => ?_
 have hj : j < (S[i]).length := by simpa using hj1
 simp only [List.getElem_map, List.getElem_range]
 unfold matAt
 have e1 : S.getD i [] = S[i] := by rw [List.getD_eq_getElem?_getD, List.getElem?_eq_getElem hi]; rfl
 rw [e1, List.getD_eq_getElem?_getD, List.getElem?_eq_getElem hj]; rfl
theorem pow_fit {i j : Int} (h : i.natAbs < 2 ^ 64) (h0 : 0 ≤ j) (hj : j ≤ 1000) : (Builtin.Int.intBits i : Int) * j ≤ 2 ^ 27 := by
 have h1 : (Builtin.Int.intBits i : Int) ≤ 64 := by have := bits_le h; omega
 have h2 : (Builtin.Int.intBits i : Int) * j ≤ 64 * 1000 := Int.mul_le_mul h1 hj h0 (by decide)
 exact Int.le_trans h2 (by decide)
section
variable {G : Gl} (g : IsG G) (h4 : G.mg "__builtins__" = some (.ref 4))
include g
theorem law_dets {num : List Nat → Option Int} {ns : List Int} {ds : List Nat} {R : List (List Nat)} {k : Nat} (hk : k < 20) (F : LawF num ns ds R)
 {σ4 : St} (R4 : σ4.get "roads" = some (.lst (R.map natsD))) (W4 : σ4.get "ways" = some (intsD (waysOf ds))) (B4 : σ4.get "begin" = some (.int (begOf ns)))
 (S4 : σ4.get "sums" = some (rowsD (sumsOf (begOf ns) (waysOf ds) R))) (M4 : σ4.get "products" = some (rowsD (prodsOf (begOf ns) (waysOf ds) R))) :
 xExs G (lawW G.mg h4) lawRec.scope k false σ4 (lawRec.body.drop 11) (fun fl ξ σ => fl = .ret (.bool true)) := by
 have hfew : R.length = ds.length + 1 := by rw [F.len, F.wlen]
 have hf45 := F.few
 have hwl := F.wlen
 have hb := F.bsmall
 have hwl5 : (waysOf ds).length ≤ 5 := by rw [hwl]; exact n45 hf45
 have hR6 := f6 hfew hf45
 have hlenW : ∀ {σ : St} {p q r : Pos}, σ.get "ways" = some (intsD (waysOf ds)) → Ev G lawRec.scope k σ (.Call (.Name "len" p) [.Name "ways" q] [] r) (.int ((waysOf ds).length : Nat)) := fun {σ p q r} h => by
  have := ev_call (p := r) (ev_bl (G := G) (sc := lawRec.scope) (k := k) (σ := σ) (x := "len") (p := p) rfl (no_len g) (mb_len g)) (.bi _) (evL_cons (ev_cell (x := "ways") (p := q) rfl h) evL_nil) (len_l (l := (waysOf ds).map D.int) rfl (by rw [List.length_map]; exact Nat.lt_of_le_of_lt hwl5 (by decide)))
  rw [List.length_map] at this
  exact this
 have hlenR : ∀ {σ : St} {p q r : Pos}, σ.get "roads" = some (.lst (R.map natsD)) → Ev G lawRec.scope k σ (.Call (.Name "len" p) [.Name "roads" q] [] r) (.int (R.length : Nat)) := fun {σ p q r} h => by
  have := ev_call (p := r) (ev_bl (G := G) (sc := lawRec.scope) (k := k) (σ := σ) (x := "len") (p := p) rfl (no_len g) (mb_len g)) (.bi _) (evL_cons (ev_cell (x := "roads") (p := q) rfl h) evL_nil) (len_l (l := R.map natsD) rfl (by rw [List.length_map]; exact Nat.lt_of_le_of_lt hR6 (by decide)))
  rw [List.length_map] at this
  exact this
 refine xs_plain (ex_asg (d := .int (dueSums (begOf ns) (waysOf ds))) rfl ?_ (as_loc rfl rfl)) ?_
 · unfold dueSums
   refine ev_bin (ev_bin (ev_bin (d1 := .int ((-1) ^ (waysOf ds).length)) (d2 := .int (2 ^ ((waysOf ds).length - 1))) ?_ ?_ (bin_mul_int (mulok_r ?_))) (ev_call (ev_glob rfl (mg_law_product g)) (fn_law_product g).fk (evL_cons (ev_cell rfl W4) evL_nil) (cal_product g (by exact dl1 1 40 1 20 hk rfl) (fun n hn => small_lt (F.wsmall n hn) p64) (Nat.le_trans hwl5 (by decide)))) (bin_mul_int (mulok_r ?_)))
    (ev_bin (ev_bin ev_int (ev_cell rfl B4) (bin_mul_int (mulok_r (small_lt hb p64)))) (ev_call (ev_bl rfl (no_sum g) (mb_sum g)) (.bi _) (evL_cons (ev_cell rfl W4) evL_nil) (sum_l rfl)) bin_add_int) (bin_mul_int (mulok_r ?_))
   · have h := bin_pow_int (G := G) (sc := lawRec.scope) (k := k) (σ := σ4) (i := -1) (j := ((waysOf ds).length : Nat)) (by exact Int.natCast_nonneg _) (pow_fit (by decide) (by exact Int.natCast_nonneg _) (Int.le_trans (Int.ofNat_le.2 hwl5) (by decide)))
     rw [Int.toNat_natCast] at h
     exact ev_bin (ev_un ev_int un_neg) (hlenW W4) h
   · have hW1 : 1 ≤ (waysOf ds).length := by rw [hwl]; exact Nat.le_trans (by decide) (n45' hf45)
     have h := bin_pow_int (G := G) (sc := lawRec.scope) (k := k) (σ := σ4) (i := 2) (j := ((waysOf ds).length : Nat) - 1) (nn1 hW1) (pow_fit (by decide) (nn1 hW1) (Int.le_trans (Int.sub_le_self _ (by decide)) (Int.le_trans (Int.ofNat_le.2 hwl5) (by decide))))
     rw [show ((((waysOf ds).length : Nat) : Int) - 1).toNat = (waysOf ds).length - 1 from tn1] at h
     exact ev_bin ev_int (ev_bin (hlenW W4) ev_int bin_sub_int) h
   · rcases hf45 with h | h <;> rw [hwl, h] <;> decide
   · exact prod_400 (fun n hn => Nat.le_trans (F.wsmall n hn) (by decide)) (Nat.le_succ_of_le hwl5)
   · have h1 := sum_small F.wsmall
     have h2 : (2 * begOf ns + (waysOf ds).sum).natAbs ≤ 1000 := ab3 hb h1 hwl5
     exact Nat.lt_of_le_of_lt h2 (by decide)
 have hW5 : (σ4.set "due_sums" (.int (dueSums (begOf ns) (waysOf ds)))).get "ways" = some (intsD (waysOf ds)) := sn W4
 have hR5 : (σ4.set "due_sums" (.int (dueSums (begOf ns) (waysOf ds)))).get "roads" = some (.lst (R.map natsD)) := sn R4
 have hB5 : (σ4.set "due_sums" (.int (dueSums (begOf ns) (waysOf ds)))).get "begin" = some (.int (begOf ns)) := sn B4
 have hS5 : (σ4.set "due_sums" (.int (dueSums (begOf ns) (waysOf ds)))).get "sums" = some (rowsD (sumsOf (begOf ns) (waysOf ds) R)) := sn S4
 have hM5 : (σ4.set "due_sums" (.int (dueSums (begOf ns) (waysOf ds)))).get "products" = some (rowsD (prodsOf (begOf ns) (waysOf ds) R)) := sn M4
 have hD5 : (σ4.set "due_sums" (.int (dueSums (begOf ns) (waysOf ds)))).get "due_sums" = some (.int (dueSums (begOf ns) (waysOf ds))) := St.set_eq
 generalize σ4.set "due_sums" (.int (dueSums (begOf ns) (waysOf ds))) = σ5 at hW5 hR5 hB5 hS5 hM5 hD5
 have hsq : ∀ n ∈ (waysOf ds).map (fun w => 1 - w * w), n.natAbs ≤ 400 := fun n hn => by
  obtain ⟨w, hw, rfl⟩ := List.mem_map.mp hn
  have h1 := F.wsmall w hw
  have h2 : (w * w).natAbs ≤ 20 * 20 := by rw [Int.natAbs_mul]; exact Nat.mul_le_mul h1 h1
  have h3 : 0 ≤ w * w := by
   rcases Int.le_total 0 w with h | h
   · exact Int.mul_nonneg h h
   · exact Int.mul_nonneg_of_nonpos_of_nonpos h h
  exact q400 h2 h3
 refine xs_plain (ex_asg (d := .int (dueProds (begOf ns) (waysOf ds))) rfl ?_ (as_loc rfl rfl)) ?_
 · unfold dueProds
   rw [← F.len]
   refine ev_bin (d1 := .int (begOf ns ^ R.length)) ?_ (ev_call (ev_glob rfl (mg_law_product g)) (fn_law_product g).fk (evL_cons (evN_comp (fr := false) (l := ((waysOf ds).map fun w => 1 - w * w).map .int) (comp_mapF (waysOf ds) D.int (fun w => [("way", .int w)]) (fun w => .int (1 - w * w)) (ow := true) (evIt_seq (d := intsD (waysOf ds)) (ev_cell rfl hW5) rfl (clean_ints _) (fun h => nomatch h)) (.inl rfl) (by rw [List.map_map]; rfl) rfl (.skip rfl (.skip rfl .nil)) .nil (fun _ _ => rfl) (Nat.le_trans hwl5 (by decide)) (fun _ _ => .loc _ _ _ rfl)
    (fun w hw => ⟨rfl, ev_bin ev_int (ev_bin (ev_loc rfl rfl) (ev_loc rfl rfl) (bin_mul_int (mulok_r (small_lt (F.wsmall w hw) p64)))) bin_sub_int⟩)) (clean_ints _)).ev evL_nil) (cal_product g (by exact dl1 1 40 1 20 hk rfl) (fun n hn => Nat.lt_of_le_of_lt (hsq n hn) (by decide)) (by rw [List.length_map]; exact Nat.le_trans hwl5 (by decide)))) (bin_mul_int (mulok_r (prod_400 hsq (by rw [List.length_map]; exact Nat.le_succ_of_le hwl5))))
   have h := bin_pow_int (G := G) (sc := lawRec.scope) (k := k) (σ := σ5) (i := begOf ns) (j := (R.length : Nat)) (by exact Int.natCast_nonneg _) (pow_fit (small_lt hb p64) (by exact Int.natCast_nonneg _) (Int.le_trans (Int.ofNat_le.2 hR6) (by decide)))
   rw [Int.toNat_natCast] at h
   exact ev_bin (ev_cell rfl hB5) (hlenR hR5) h
 have hS6 : (σ5.set "due_products" (.int (dueProds (begOf ns) (waysOf ds)))).get "sums" = some (rowsD (sumsOf (begOf ns) (waysOf ds) R)) := sn hS5
 have hM6 : (σ5.set "due_products" (.int (dueProds (begOf ns) (waysOf ds)))).get "products" = some (rowsD (prodsOf (begOf ns) (waysOf ds) R)) := sn hM5
 have hD6 : (σ5.set "due_products" (.int (dueProds (begOf ns) (waysOf ds)))).get "due_sums" = some (.int (dueSums (begOf ns) (waysOf ds))) := sn hD5
 have hE6 : (σ5.set "due_products" (.int (dueProds (begOf ns) (waysOf ds)))).get "due_products" = some (.int (dueProds (begOf ns) (waysOf ds))) := St.set_eq
 generalize σ5.set "due_products" (.int (dueProds (begOf ns) (waysOf ds))) = σ6 at hS6 hM6 hD6 hE6
 have mS : rowsD (sumsOf (begOf ns) (waysOf ds) R) = _ := rows_mat (n := R.length) (by unfold sumsOf apartOf; simp) (fun r hr => by
  unfold sumsOf apartOf at hr
  simp only [List.map_map, List.mem_map, Function.comp] at hr
  obtain ⟨one, _, rfl⟩ := hr
  simp)
 have mP : rowsD (prodsOf (begOf ns) (waysOf ds) R) = _ := rows_mat (n := R.length) (by unfold prodsOf apartOf; simp) (fun r hr => by
  unfold prodsOf apartOf at hr
  simp only [List.map_map, List.mem_map, Function.comp] at hr
  obtain ⟨one, _, rfl⟩ := hr
  simp)
 rw [mS] at hS6
 rw [mP] at hM6
 have hq : ∀ d : Int, Two G lawRec.scope k σ6 (compareOp .Eq) (.int d) (.int d) (.bool true) := fun d => by
  have h := cmp_eq_int (G := G) (sc := lawRec.scope) (k := k) (σ := σ6) (i := d) (j := d)
  rw [beq_self_eq_true] at h
  exact h
 refine xs_ret (d := .bool (true && true)) (ev_and2 (ev_cmp (ev_call (ev_glob rfl (mg_law_determinant g)) (fn_law_determinant g).fk (evL_cons (ev_loc rfl hS6) evL_nil) (cal_determinant g (by exact dl1 1 38 1 20 hk rfl) (Nat.le_trans (Nat.le_add_left 1 ds.length) (Nat.le_of_eq hfew.symm)) (Nat.lt_of_le_of_lt hR6 (by decide)) F.det1)) (ev_loc rfl hD6) (hq _))
  (fun _ => ev_cmp (ev_call (ev_glob rfl (mg_law_determinant g)) (fn_law_determinant g).fk (evL_cons (ev_loc rfl hM6) evL_nil) (cal_determinant g (by exact dl1 1 38 1 20 hk rfl) (Nat.le_trans (Nat.le_add_left 1 ds.length) (Nat.le_of_eq hfew.symm)) (Nat.lt_of_le_of_lt hR6 (by decide)) F.det2)) (ev_loc rfl hE6) (hq _))) rfl
end
end
section
section
variable {G : Gl} (g : IsG G) (h4 : G.mg "__builtins__" = some (.ref 4))
include g
theorem law_walk {num : List Nat → Option Int} {ns : List Int} {ds : List Nat} {R : List (List Nat)} {k : Nat} (hk : k < 20) (F : LawF num ns ds R) (hns : ns.length ≤ 16777216)
 (hnum : ∀ (k : Nat) (σ : St) (w : List Nat) (m : Int), k < 40 → num w = some m → m.natAbs < 2 ^ 64 ∧ Cal G k σ (.ref 190) [.str w] (.int m)) :
 xExs G (lawW G.mg h4) lawRec.scope k true ⟨[("script", .lst (ns.map .int))], []⟩ lawRec.body (fun fl ξ σ => fl = .ret (.bool true)) := by
 have hpg : (pageOf ds).length ≤ 1000 := by obtain ⟨b, o, s, w, H, _⟩ := F.roads; exact H.pl
 have hcd : D.cleanL (ds.map fun d => D.int (d : Nat)) = true := cleanL_map (fun d : Nat => D.int (d : Nat)) (fun _ => rfl) _
 refine xs_plain (ex_asgT (d := .tup [.str (pageOf ds), .lst ((dueOf ds).map .str), .lst ((waysOf ds).map .int)]) (ev_call (ev_glob rfl (mg_law_page g)) (fn_law_page g).fk (evL_cons (d := .lst (ds.map fun d => .int (d : Nat))) (by
  rw [show (ds.map fun d : Nat => D.int (d : Nat)) = (drawsOf ns).map D.int from by rw [F.draws, List.map_map]; rfl]
  exact ev_call (ev_glob rfl (mg_law_draws g)) (fn_law_draws g).fk (evL_cons (ev_loc rfl rfl) evL_nil) (cal_draws g (ns := ns) (by exact dl1 1 40 1 20 hk rfl) hns)) evL_nil) (cal_page g (by exact dl1 1 36 1 20 hk rfl) (by have := F.few; omega))) (as_tup (asL_cons (as_loc rfl rfl) (asL_cons (as_loc rfl (D.clean_firm (d := .lst _) (clean_strs _))) (asL_cons (as_cell rfl (D.clean_firm (d := .lst _) (clean_ints _))) asL_nil rfl) (by show (D.firm (.lst _) && true) = true; rw [D.clean_firm (d := .lst _) (clean_ints _)]; rfl)) (by show (D.firm (.lst _) && (D.firm (.lst _) && true)) = true; rw [D.clean_firm (d := .lst _) (clean_ints _), D.clean_firm (d := .lst _) (clean_strs _)]; rfl)) (by show (true && (D.firm (.lst _) && (D.firm (.lst _) && true))) = true; rw [D.clean_firm (d := .lst _) (clean_ints _), D.clean_firm (d := .lst _) (clean_strs _)]; rfl))) ?_
 refine xs_plain (ex_asg (d := .int (begOf ns)) rfl (ev_bin (ev_bin (ev_call (ev_bl rfl (no_sum g) (mb_sum g)) (.bi _) (evL_cons (evN_comp (fr := false) (l := (ns.map fun x : Int => x.fmod 1000000).map .int) (comp_mapF ns D.int (fun x => [("x", .int x)]) (fun x => .int (x.fmod 1000000)) (ow := true) (evIt_seq (d := .lst (ns.map .int)) (ev_loc rfl rfl) rfl (clean_ints _) (fun h => nomatch h)) (.inl rfl) (by rw [List.map_map]; rfl) rfl (.skip rfl (.skip rfl .nil)) .nil (fun _ _ => rfl) (by exact hns) (fun _ _ => .loc _ _ _ rfl) (fun x _ => ⟨rfl, ev_bin (ev_loc rfl rfl) ev_int (bin_mod_int (by decide))⟩)) (clean_ints _)).ev evL_nil) (sum_l rfl)) ev_int (bin_mod_int (by decide))) ev_int bin_sub_int) (as_cell rfl rfl)) ?_
 have hread := F.read
 rw [← List.length_map (f := D.str)] at hread
 have hdl : ((dueOf ds).map D.str).length ≤ 1000 := by rw [List.length_map]; exact F.duel
 refine xs_one (x_asgT (d := .tup [.lst ((dueOf ds).map .str), .str [], .int (1 + Txt.count (toS (pageOf ds)) (toS [10]))]) (ξ' := false) (by
  have h : ∀ {e1 e2 p1 p} (h1 : Ev G lawRec.scope k _ e1 (.str (pageOf ds))) (h2 : Ev G lawRec.scope k _ e2 (.int (((dueOf ds).map D.str).length : Nat))) a b c, xEv G (lawW G.mg h4) lawRec.scope k true _ (.Call (.Name "_law_read" p1) [e1, e2] [] p) _ false := fun {e1 e2 p1 p} h1 h2 a b c => xev_readlaw (σ := (((St.mk [("script", .lst (ns.map .int))] []).set "page" (.str (pageOf ds)) |>.set "due" (.lst ((dueOf ds).map .str)) |>.set "ways" (.lst ((waysOf ds).map .int))).set "begin" (.int (begOf ns)))) g h4 (by exact dl1 1 36 1 20 hk rfl) (by exact dl1 0 16777216 0 1000 hpg rfl) (by exact dl1 0 16777216 0 1000 hdl rfl) rfl h1 h2 a b c
  rw [hread] at h
  exact h (ev_loc rfl rfl) (ev_call (ev_bl rfl (no_len g) (mb_len g)) (.bi _) (evL_cons (ev_loc rfl rfl) evL_nil) (len_l rfl (by exact dl1 1 9223372036854775808 0 1000 hdl rfl))) (fun _ => rfl) (fun _ => rfl) (fun _ => rfl)) (as_tup (asL_cons (as_loc rfl (D.clean_firm (d := .lst _) (clean_strs _))) (asL_cons (as_loc rfl rfl) (asL_cons (as_loc rfl rfl) asL_nil rfl) rfl) rfl) (by show (D.firm (.lst _) && (true && (true && true))) = true; rw [D.clean_firm (d := .lst _) (clean_strs _)]; rfl))) ?_
 refine xs_gen (fun σ => σ.get "page" = some (.str (pageOf ds)) ∧ σ.get "due" = some (.lst ((dueOf ds).map .str)) ∧ σ.get "ways" = some (.lst ((waysOf ds).map .int)) ∧ σ.get "begin" = some (.int (begOf ns)) ∧ σ.get "words" = some (.lst ((dueOf ds).map .str)) ∧ σ.get "rest" = some (.str []) ∧ σ.get "lines" = some (.int (1 + Txt.count (toS (pageOf ds)) (toS [10])))) ⟨rfl, rfl, rfl, rfl, rfl, rfl, rfl⟩ ?_
 rintro σ1 ⟨P1, D1, W1, B1, O1, R1, L1⟩
 refine xs_cons (Q1 := fun fl ξ σ => fl = .next ∧ ξ = false ∧ σ = σ1) (x_if (b := false) (xTr_of (tr_boolop (trs_or (q := false) (tr_cmp (ev_loc rfl O1) (ev_loc rfl D1) (cmp_ne_same (f := fun w : {w // w ∈ dueOf ds} => D.str w.1) (l := (dueOf ds).attach) (by rw [List.attach_map_val]; rfl) (by rw [List.attach_map_val]; rfl) (fun _ => rfl) (fun w => by simp only [D.pd, PyData.canLay0]; exact F.okw w.1 w.2) (fun _ => Nat.zero_le _)))
  (fun _ => trs_or (q := false) (tr_cmp (ev_loc rfl R1) ev_str cmp_ne_str) (fun _ => trs_or (q := false) (tr_cmp (ev_loc rfl L1) (ev_bin ev_int (ev_meth (ev_loc rfl P1) (evL_cons (ev_strL [10] (by decide +kernel)) evL_nil) PySem.F.plainAttrs_str PySem.F.slot_str_count PySem.F.type_str_count ty_str m_count) bin_add_int) ?_) (fun _ => trs_nil) (fun h => nomatch h)) (fun h => nomatch h)) (fun h => nomatch h)))) (fun h => nomatch h) (fun _ => xs_nil ⟨rfl, rfl, rfl⟩)) ?_ (fun fl ξ σ hne h => absurd h.1 hne)
 · have h := cmp_ne_int (G := G) (sc := lawRec.scope) (k := k) (σ := σ1) (i := 1 + Txt.count (toS (pageOf ds)) (toS [10])) (j := 1 + Txt.count (toS (pageOf ds)) (toS [10]))
   rw [bne_self_eq_false] at h
   exact h
 rintro ξ σ ⟨_, rfl, rfl⟩
 obtain ⟨bare, opens, shuts, wss, HR, hR⟩ := F.roads
 have hfew : R.length = ds.length + 1 := by rw [F.len, F.wlen]
 have hf45 := F.few
 have hclR : D.cleanL (R.map natsD) = true := cleanL_map natsD (fun r => nats_clean r) _
 refine xs_plain (ex_asg (d := .lst (R.map natsD)) rfl (by
  rw [← hR]
  exact ev_call (ev_glob rfl (mg_law_roads g)) (fn_law_roads g).fk (evL_cons (ev_loc rfl P1) evL_nil) (cal_roads g (by exact dl1 1 30 1 20 hk rfl) HR)) (as_cell rfl (D.clean_firm (d := .lst (R.map natsD)) hclR))) ?_
 refine xs_gen (fun σ => σ.get "roads" = some (.lst (R.map natsD)) ∧ σ.get "ways" = some (.lst ((waysOf ds).map .int)) ∧ σ.get "begin" = some (.int (begOf ns)) ∧ σ.get "words" = some (.lst ((dueOf ds).map .str))) ⟨St.set_eq, sn W1, sn B1, sn O1⟩ ?_
 clear P1 D1 W1 B1 O1 R1 L1
 rintro σ2 ⟨R2, W2, B2, O2⟩
 refine xs_cons (Q1 := fun fl ξ σ => fl = .next ∧ ξ = false ∧ σ = σ2) (x_if (b := false) (xTr_of (tr_cmp (ev_call (ev_bl rfl (no_len g) (mb_len g)) (.bi _) (evL_cons (ev_cell rfl R2) evL_nil) (len_l rfl (by rw [List.length_map]; omega))) (ev_bin (ev_call (ev_bl rfl (no_len g) (mb_len g)) (.bi _) (evL_cons (ev_cell rfl W2) evL_nil) (len_l rfl (by rw [List.length_map, F.wlen]; omega))) ev_int bin_add_int) ?_)) (fun h => nomatch h) (fun _ => xs_nil ⟨rfl, rfl, rfl⟩)) ?_ (fun fl ξ σ hne h => absurd h.1 hne)
 · have h := cmp_ne_int (G := G) (sc := lawRec.scope) (k := k) (σ := σ2) (i := ((R.length : Nat) : Int)) (j := (((waysOf ds).length : Nat) : Int) + 1)
   have e : (((R.length : Nat) : Int) != (((waysOf ds).length : Nat) : Int) + 1) = false := by rw [F.len]; simp
   rw [e] at h
   simpa using h
 rintro ξ σ ⟨_, rfl, rfl⟩
 exact law_apart g h4 hk F R2 W2 B2 O2 fun σ3 R3 W3 B3 O3 A3 => law_tables g h4 hk F hnum R3 W3 B3 O3 A3 fun σ4 R4 W4 B4 A4 S4 M4 => law_same g h4 hk F R4 W4 B4 A4 S4 M4 (law_dets g h4 hk F R4 W4 B4 S4 M4)
end
end
section
structure FnB (fd : FuncData) (body : List Stmt) (xs : List Str) : Prop where
 body : fd.body = .stmts body
 glob : fd.globals = mainGlobals
 blt : fd.builtins = builtinsNs
 clo : fd.closure = []
 co : fd.scope.isCoroutine = false
 gen : fd.scope.isGenerator = false
 kind : fd.scope.kind = .function
 bind : ∀ vs : List Value, vs.length = xs.length → bindArgs fd ⟨vs, []⟩ = pure (xs.zip vs)
 ok : fnOk fd.scope xs = true
section
variable {G : Gl} {W : Wd} {k : Nat}
end
end
section
section
variable {M : Model} {A : Around} {E : Value → Shared → Prop} {s : Shared}
theorem wp_env_one {scope : Scope} {globals : Addr} {x : Str} {v : Value} {qual : Str} {func : Option Addr} {code : Value} {builtins : Addr} {Q : Env → Shared → Prop} (hk : scope.kind = .function) (hx : scope.names.lookup x = some .local)
 (hQ : ∀ env, env = newEnv scope s.heap.objs.size globals (cellsFrom (s.heap.objs.size + 1) scope.names []) qual func code none builtins →
  ∀ s', InCallC s env.locals (bindL env.kindOf [(x, v)] fun _ => none) env.cells (bindC env.kindOf [(x, v)] fun _ => none) s' → 0 < s'.toks → Q env s') :
 wpAny M A (newFunctionEnv scope globals [] [(x, v)] qual func code none builtins) Q E s := by
 simp only [newFunctionEnv, Option.isSome_none, Bool.false_eq_true, if_false]
 refine wpAny_bind (wpAny_alloc ?_)
 refine wpAny_bind (wpAny_layCells _ (fun name kind cells => by cases hkc : kind == NameKind.cell <;> simp [hkc]) _ _ _ _ ?_)
 have ok := cellsFrom_ok scope.names (s.heap.push { cls := .type "frame", data := .dict #[] }) (s.heap.objs.size + 1) [] ⟨fun _ _ hm => (nomatch hm), List.Pairwise.nil⟩ (by rw [Heap.size_push]; exact Nat.le_refl _)
 rw [Heap.size_push] at ok
 rw [show ({ s with heap := s.heap.push { cls := .type "frame", data := .dict #[] } } : Shared).heap.objs.size = s.heap.objs.size + 1 from Heap.size_push ..]
 rw [List.forIn_cons]
 have ns0 : (pushCells (s.heap.push { cls := .type "frame", data := .dict #[] }) scope.names).Ns s.heap.objs.size fun _ => none := (Heap.Ns.new s.heap (.type "frame")).keeps (pushCells_keeps _ _)
 refine wpAny_bind (wpAny_bind (wpAny_bind (wpAny_storeName_local (env := newEnv scope s.heap.objs.size globals (cellsFrom (s.heap.objs.size + 1) scope.names []) qual func code none builtins) (show Env.kindOf _ x = some .local from hx) ns0 (fun h' hn' hs' => ?_) (by show (scope.kind == .class || (scope.kind == .module && _)) = false; rw [hk]; rfl))))
 refine wpAny_pure ?_
 dsimp only
 rw [List.forIn_nil]
 refine wpAny_pure (wpAny_pure (hQ _ rfl _ ?_ (Nat.succ_pos _)))
 have hb : ∀ kd : Str → Option NameKind, kd x = some .local → bindL kd [(x, v)] (fun _ => none) = fun y => if y = x then some v else none := fun kd h => by
  unfold bindL bindL
  rw [if_pos h]
 have hc : ∀ kd : Str → Option NameKind, kd x = some .local → bindC kd [(x, v)] (fun _ => none) = fun _ => none := fun kd h => by
  unfold bindC bindC
  rw [if_pos h]
 have hkx : (newEnv scope s.heap.objs.size globals (cellsFrom (s.heap.objs.size + 1) scope.names []) qual func code none builtins).kindOf x = some .local := hx
 rw [hb _ hkx, hc _ hkx]
 refine ⟨⟨⟨h', _, rfl⟩, hn', fun b o e => ?_, Nat.le_refl _⟩, fun n c hc => ?_, ok.apart, fun n c hm => (ok.empty n c hm).2⟩
 · exact hs'.extBut b o (Nat.ne_of_lt (Heap.lt_size e)) (pushCells_keeps _ _ b o (Heap.get?_push_of_some _ e))
 · exact (ok.empty n c (mem_of_lookup hc)).1.sameBut hs' (Nat.ne_of_gt (ok.empty n c (mem_of_lookup hc)).2)
end
end
section
section
variable {G : Gl} {W : Wd} {k : Nat}
theorem xcode_top1 {a : Addr} {fd : FuncData} {body : List Stmt} {x0 : Str} {v0 : Value} {ds : List D} {ξ : W.X} {P : Value → Shared → Prop} {o : Obj} (F : FnB fd body [x0]) (hx0 : fd.scope.names.lookup x0 = some .local) (hk : k < 40) (hlen : ds.length = [x0].length) (hclean : D.cleanL ds = true)
 {A : Around} {s : Shared} (hA : Aok k A) (hbare : AllBare s.gens) (htop : ∀ h : Heap, (∀ b o, ¬ W.Wr b → s.heap.get? b = some o → h.get? b = some o) → TopG G h) (hφ : W.Φ ξ s.heap) (ho : s.heap.get? a = some o) (hdata : o.data = .func fd) (hcd : s.heap.CodeRec fd.code fd.qualname)
 (hv0 : ∀ (O : Addr → Prop) (h : Heap), (∀ b, O b → W.Wr b ∨ s.heap.get? b = none) → (∀ b o, s.heap.get? b = some o → h.get? b = some o) → HoldsL O [] h ds [v0])
 (hex : ∀ c A s1, c.env.scope = fd.scope → XC G W c → Aok (k + 1) A → XJ G W c [] ⟨[x0].zip ds, []⟩ ξ s1 → Kp s s1 → c.env.cells = cellsFrom (s.heap.objs.size + 1) fd.scope.names [] → c.env.code = fd.code → c.env.qual = fd.qualname ++ ".<locals>." → (∀ b, c.mut [] b → s.heap.get? b = none) →
  (∀ b o, c.base b o ↔ ¬ W.Wr b ∧ s.heap.get? b = some o) →
  wpAny (model G.prog G.w) A (execs body c.env) (fun f s' => Out c s' ∧ match f with | .next => P .none s' | .ret v => P v s' | _ => False) (fun _ _ => False) s1) :
 codeAny (model G.prog G.w) A (.call (.ref a) ⟨[v0], []⟩) (fun r s' => match r with | .ok (.ret v) => Chg W.Wr noG s s' ∧ P v s' | .ok _ => False | .error _ => False) s := by
 have htopg : TopG G s.heap := htop _ fun _ _ _ e => e
 have hok := F.ok
 simp only [fnOk, Bool.and_eq_true, decide_eq_true_eq] at hok
 obtain ⟨⟨hnf, hpar⟩, hnd⟩ := hok
 refine codeAny_call_function hA.room ho hdata F.co F.gen F.body hcd ?_
 rw [F.bind [v0] rfl, F.clo]
 refine wpAny_pure (wpAny_mono (wpAny_toks_of (Nat.le_refl s.toks) (wp_env_one (Q := fun env s' => env = newEnv fd.scope s.heap.objs.size fd.globals (cellsFrom (s.heap.objs.size + 1) fd.scope.names []) (fd.qualname ++ ".<locals>.") (some a) fd.code none fd.builtins ∧
  InCallC s env.locals (bindL env.kindOf ([x0].zip [v0]) fun _ => none) env.cells (bindC env.kindOf ([x0].zip [v0]) fun _ => none) s' ∧ 0 < s'.toks) (E := fun _ _ => False) F.kind hx0 fun env he s' X t => ⟨he, X, t⟩)) (fun env s1 ⟨htk, he, X, htok1⟩ => ?_) fun _ _ f => f.2.elim)
 have hloc : env.locals = s.heap.objs.size := by rw [he]; rfl
 have hsc : env.scope = fd.scope := by rw [he]; rfl
 refine ⟨htopg.nolimit.keeps X.toInCall.keep, codeAny_func ?_⟩
 let c' : Cx := { env := env, O := fun _ => False, base := fun b o => ¬ W.Wr b ∧ s.heap.get? b = some o, gb := fun g x => s.gens[g]? = some x, os := s.os, mutc := env.cells.filterMap fun y => env.cells.lookup y.1, fm := true }
 have mutge : ∀ b, c'.mut [] b → s.heap.objs.size ≤ b := fun b hb => by
  rcases hb with hb | hb | hb
  · cases hb
  · rw [hb, ← hloc]; exact Nat.le_refl _
  · obtain ⟨y, _, hy⟩ := List.mem_filterMap.mp hb
    exact Nat.le_of_lt (hloc ▸ X.above _ _ (mem_of_lookup hy))
 have new : ∀ b, c'.mut [] b → s.heap.get? b = none := fun b hb => by
  cases e : s.heap.get? b with
  | none => rfl
  | some o => exact absurd (Heap.lt_size e) (Nat.not_lt.mpr (mutge b hb))
 obtain ⟨h1, tk1, hs1⟩ := X.toInCall.same
 have sos : s1.os = s.os := by rw [hs1]
 have sgens : s1.gens = s.gens := by rw [hs1]
 have hv1 : HoldsL ((W.cx c' s1).all []) [] s1.heap ds [v0] := hv0 _ _ (fun b hb => by
  rcases hb with (hb | hb) | hb
  · exact hb.elim
  · exact .inl hb
  · exact .inr (new b hb)) X.toInCall.keep
 have hcl1 : ∀ d' ∈ ds, d'.firm = true := fun d' h => D.clean_firm (cleanL_iff.mp hclean d' h)
 have φ1 : W.Φ ξ s1.heap := W.keep hφ fun b o _ e => X.toInCall.keep b o e
 have XX : XC G W c' := ⟨fun h hb => htop h fun b o n e => hb b o ⟨n, e⟩, fun a h => h.elim, fun b hb o ho => ho.1 hb, fun b hb => (by obtain ⟨n, o, e⟩ := W.fx hφ hb; exact ⟨o, n, e⟩), rfl⟩
 have r1 : R G (W.cx c' s1) [] ⟨[x0].zip ds, []⟩ s1 := by
  refine ⟨sos, htok1, by rw [sgens]; exact hbare, fun g x e => by
   rcases e with e | e
   · rw [sgens]; exact e
   · exact e.2, fun b o e => by
   rcases e with e | e
   · exact X.toInCall.keep b o e.2
   · exact e.2, fun h hh => XX.top h fun a o e => hh a o (.inl e), fun b hb => by
   rcases hb with hb | hb
   · exact hb.elim
   · obtain ⟨o, e⟩ := W.ex φ1 hb; exact ⟨o, .inr ⟨hb, e⟩⟩, rfl, List.nodup_nil, fun b hb => ⟨fun q => ?_, fun o q => ?_⟩, ?_, ?_, (fun n items e => by cases e), ?_, ?_, ?_, fun _ => X.apart, ?_, fun _ => ⟨fun x d' e => ?_, fun n l e => by cases e⟩, fun _ x hx => ?_, fun _ x hx => ?_⟩
  · rcases q with q | q
    · exact q.elim
    · obtain ⟨o, ho⟩ := W.ex hφ q
      rw [new b hb] at ho; cases ho
  · rcases q with q | q
    · have q2 : s.heap.get? b = some o := (show ¬ W.Wr b ∧ s.heap.get? b = some o from q).2
      rw [new b hb] at q2; cases q2
    · obtain ⟨o, ho⟩ := W.ex hφ q.1
      rw [new b hb] at ho; cases ho
  · refine ⟨_, X.toInCall.ns, fun x d' e hkx => ?_⟩
    obtain ⟨_, _, v, q1, q2, _⟩ := bind_args (kd := env.kindOf) [x0] ds [v0] (fun _ => none) (fun _ => none) hnd hv1 hlen.symm e
    exact ⟨v, q2 hkx, q1⟩
  · intro x d' e hkx
    obtain ⟨_, _, v, q1, _, q3⟩ := bind_args (kd := env.kindOf) [x0] ds [v0] (fun _ => none) (fun _ => none) hnd hv1 hlen.symm e
    have hkc : env.kindOf x = some .cell := by
     rcases hkx with h | h
     · exact h
     · have : env.scope.names.lookup x = some .free := h
       rw [hsc] at this
       exact absurd this (lookup_notfree hnf)
    have hmem : (x, NameKind.cell) ∈ fd.scope.names := by
     have : env.scope.names.lookup x = some .cell := hkc
     rw [hsc] at this
     exact mem_of_lookup this
    have := Mine.cellsFrom_some fd.scope.names (s.heap.objs.size + 1) [] x (.inl hmem)
    obtain ⟨ca, hca⟩ := Option.isSome_iff_exists.mp this
    have hca' : env.cells.lookup x = some ca := by rw [he]; exact hca
    refine ⟨ca, v, hca', ?_, q1⟩
    have := X.cell x ca hca'
    rwa [q3 (by rw [hkc]; simp)] at this
  · show env.scope.kind = _; rw [hsc]; exact F.kind
  · show env.globals = _; rw [he]; exact F.glob
  · show env.builtins = _; rw [he]; exact F.blt
  · intro b hb
    obtain ⟨y, _, hy⟩ := List.mem_filterMap.mp hb
    exact ⟨_, X.cell _ _ hy⟩
  · obtain ⟨_, q2, _⟩ := bind_args (kd := env.kindOf) [x0] ds [v0] (fun _ => none) (fun _ => none) hnd hv1 hlen.symm e
    exact hcl1 d' q2
  · have hmem : (x, NameKind.cell) ∈ fd.scope.names := by
     have : env.scope.names.lookup x = some .cell := hx
     rw [hsc] at this
     exact mem_of_lookup this
    have := Mine.cellsFrom_some fd.scope.names (s.heap.objs.size + 1) [] x (.inl hmem)
    obtain ⟨ca, hca⟩ := Option.isSome_iff_exists.mp this
    have hca' : env.cells.lookup x = some ca := by rw [he]; exact hca
    exact ⟨ca, hca', List.mem_filterMap.mpr ⟨_, mem_of_lookup hca', hca'⟩⟩
  · have : env.scope.names.lookup x = some .free := hx
    rw [hsc] at this
    exact lookup_notfree hnf this
 have hA' : Aok (k + 1) (A.deeper env) := hA.deep hk
 refine wpAny_mono (wpAny_toks_of htk (hex c' _ s1 hsc XX hA' ⟨r1, φ1⟩ ⟨⟨X.toInCall.keep, sos, (by rw [sgens]; exact id), fun g x e => by rw [sgens]; exact e⟩, htk⟩ (by show env.cells = _; rw [he]; rfl) (by show env.code = _; rw [he]; rfl) (by show env.qual = _; rw [he]; rfl) new fun b o => Iff.rfl)) (fun f s2 hq => ?_) fun _ _ f => f.2.elim
 obtain ⟨htk2, out, hf⟩ := hq
 have kp : Chg W.Wr noG s s2 := ⟨fun b o n e => out.base b o ⟨n, e⟩, out.os, fun _ => out.bare, fun g x _ e => out.gens g x e, htk2⟩
 cases f with
 | next => exact ⟨kp, hf⟩
 | ret v => exact ⟨kp, hf⟩
 | _ => exact hf.elim
end
end
section
theorem caller_ok : Aok 0 callerA := by
 refine ⟨rfl, ?_, ?_, by decide⟩ <;> decide
theorem ns_off {h h' : Heap} {a P : Addr} {m : Str → Option Value} (x : h.Ns a m) (hP : h.get? P = some (tabObj #[])) (k : ∀ b o, b ≠ P → h.get? b = some o → h'.get? b = some o) : h'.Ns a m := by
 obtain ⟨o, es, ep, e, hd, r⟩ := x
 refine ⟨o, es, ep, k a o ?_ e, hd, r⟩
 rintro rfl
 rw [hP] at e; cases e; cases hd
theorem top_off {G : Gl} (g : IsG G) {h h' : Heap} (T : TopG G h) (hP : h.get? 180 = some (tabObj #[])) (k : ∀ b o, b ≠ 180 → h.get? b = some o → h'.get? b = some o) : TopG G h' := by
 refine ⟨fun a o e => ?_, ns_off T.g hP k, ns_off T.b hP k, ?_⟩
 · refine k a o ?_ (T.k a o e)
   rintro rfl
   have e2 := T.k 180 o e
   rw [hP] at e2; cases e2
   rw [g.K] at e
   have hK : noTabs (hd.heap_1 G.w.params) = true := rfl
   have h2 := List.all_eq_true.mp hK (180, tabObj #[]) (mem_of_lookupK e)
   exact absurd (show false = true from h2) Bool.false_ne_true
 · obtain ⟨mc, x, r⟩ := T.nolimit
   exact ⟨mc, ns_off x hP k, r⟩
set_option tactic.hygienic true in
theorem intsAre_holds : ∀ {vs : List Value} {ns : List Int} {O : Addr → Prop} {μ : List Addr} {h : Heap}, IntsAre vs ns → HoldsL O μ h (ns.map .int) vs
 | _, _, _, _, _, h => by
  induction h with
  | nil => exact trivial
  | cons => rename_i ih; exact ⟨⟨_, rfl⟩, ih⟩
theorem post_ok (args : List WData) : PySem.Challenge.rw_wo0044_01.row.claim.post args (.bool true) args = true := by
 show WTm.holds _ (.eq .res (.lit (.bool true))) _ = true
 unfold WTm.holds
 simp only [WTm.value]
 have e : W.same (WData.bool true) (WData.bool true) = true := by simp [W.same]
 rw [e]
noncomputable def lawG (w : World) (mg mb : Str → Option Value) : Gl := ⟨PySem.Challenge.rw_wo0044_01.row.prog, w, hd.heap_1 w.params, mg, mb⟩
set_option tactic.hygienic true in
theorem isG_of {w : World} {mg mb : Str → Option Value} {h : Heap} (KX : (hd.heap_1 w.params).In h) (hg : h.Ns mainGlobals mg) (hb : ∀ x : Str, x ≠ "__name__" → mb x = bootBuiltins x) : IsG (lawG w mg mb) := by
 refine ⟨rfl, fun n v e => ?_, hb⟩
 obtain ⟨o, es, ep, e1, e2, e3, e4⟩ := hg
 unfold nsIn at e
 split at e
 · rename_i c d es' n' sl q
   have := KX _ _ q
   rw [e1] at this
   cases this
   cases e2
   have e5 := e4 n
   unfold nsFind findBy at e5
   rw [← Array.find?_toList] at e5
   split at e
   · rename_i en he
     cases e
     rw [he] at e5
     exact e5.symm
   · rename_i he
     split at e
     · cases e
     · cases e
       rw [he] at e5
       exact e5.symm
 · cases e
theorem law_join {num : List Nat → Option Int} (H : ∀ ns : List Int, ns.length ≤ 63 → ∃ ds R, LawF num ns ds R) (hnum : ∀ (G : Gl), IsG G → ∀ (k : Nat) (σ : St) (w : List Nat) (m : Int), k < 40 → num w = some m → m.natAbs < 2 ^ 64 ∧ Cal G k σ (.ref 190) [.str w] (.int m))
 {w : World} {s₀ s : Shared} {mg mb : Str → Option Value} {fa xs : Addr} {o : Obj} {pm cd doc dV kV : Value} {vs : List Value} {ns : List Int}
 (KX : (hd.heap_1 w.params).In s.heap) (KT : s.heap.get? 180 = some (tabObj #[])) (hgl : s.heap.Ns mainGlobals mg) (hbl : s.heap.Ns builtinsNs mb) (hlim : s.heap.NoLimit) (hbi : ∀ x : Str, x ≠ "__name__" → mb x = bootBuiltins x)
 (hbm : ∃ bm ob, mg "__builtins__" = some (.ref bm) ∧ bm ≠ builtinsNs ∧ s.heap.get? bm = some ob ∧ ob.cls = .type "module" ∧ ob.dict = some builtinsNs ∧ ob.data = .plain) (hcode : isCodeTable s.heap 180)
 (ho : s.heap.get? fa = some o) (hd' : o.data = .func { Calls.docDef lawRec.name lawRec.params lawRec.body lawRec.scope pm cd doc with defaults := dV, kwdefaults := kV }) (hdV : dV = .none) (hcd : s.heap.CodeRec cd lawRec.name) (hg : s.gens = #[])
 (hl : s.heap.IsList xs vs.toArray) (hi : IntsAre vs ns) (hc : ns.length ≤ 63) (mean : ExcName → Option Value) :
 codeAny (model PySem.Challenge.rw_wo0044_01.row.prog w) callerA (.call (.ref fa) ⟨[.ref xs], []⟩) (GoodWG PySem.Challenge.rw_wo0044_01.row.claim (classAt s₀.heap) mean [ofPy (PyData.list (ns.map PyData.int))] s) s := by
 subst hdV
 have g : IsG (lawG w mg mb) := isG_of KX hgl hbi
 obtain ⟨ds, R, F⟩ := H ns hc
 have T : TopG (lawG w mg mb) s.heap := ⟨KX, hgl, hbl, hlim⟩
 have h4 : (lawG w mg mb).mg "__builtins__" = some (.ref 4) := g.mg _ _ rfl
 have hB : s.heap.BuiltinsAt mg 180 := by
  obtain ⟨bm, ob, b1, b2, b3, b4, b5, b6⟩ := hbm
  refine ⟨bm, ob, b1, b2, ?_, ?_, b3, b4, b5, b6⟩
  · rintro rfl
    have e : mg "__builtins__" = some (.ref 4) := h4
    rw [e] at b1; cases b1
  · rintro rfl
    rw [KT] at b3; cases b3; cases b4
 have hxs : xs ≠ 180 := by
  rintro rfl
  obtain ⟨o', e, c, _⟩ := hl
  rw [KT] at e; cases e; cases c
 have FB : FnB { Calls.docDef lawRec.name lawRec.params lawRec.body lawRec.scope pm cd doc with defaults := Value.none, kwdefaults := kV } lawRec.body [("script" : Str)] :=
  ⟨rfl, rfl, rfl, rfl, rfl, rfl, rfl, bnd1 fun v => by kernel_rfl, rfl⟩
 have key := xcode_top1 (G := lawG w mg mb) (W := lawW mg h4) (k := 0) (ξ := true) (ds := [.lst (ns.map .int)]) (v0 := .ref xs) (P := fun v s' => v = .bool true ∧ TabAt s'.heap) FB rfl (by decide) rfl (by show (D.cleanL (ns.map D.int) && true) = true; rw [clean_ints]; rfl)
  (A := callerA) (s := s) caller_ok (.of_eq hg) (fun h hh => top_off g T KT fun b o nb e => hh b o nb e) ⟨⟨⟨_, KT⟩, fun _ => KT⟩, hB⟩ ho hd' hcd
  (fun O h hO hk => ⟨⟨xs, vs.toArray, rfl, fun q => ?_, hl.at fun o => hk _ o, by simpa using intsAre_holds hi⟩, trivial⟩)
  (fun c A s1 hcs X hA1 J hkp hcells hcod hqual hnew hbase => ?_)
 · refine codeAny_mono key fun r s' hr => ?_
   rcases r with e | fl
   · exact hr.elim
   cases fl with
   | ret v =>
    obtain ⟨ch, rfl, ps, hps⟩ := hr
    refine ⟨.inl ⟨.bool true, .bool true, [], rfl, fun _ => rfl, .bool true, post_ok _, fun _ => ⟨List.nodup_nil, fun _ h => nomatch h⟩⟩, ⟨fun b ob e => ?_, fun b ob e => ?_⟩, ch.os, ch.bare (.of_eq hg)⟩
    · by_cases hb : b = 180
      · subst hb
        rw [KT] at e; cases e
        exact .inr (.inl ⟨hcode, rfl, #[], ps, rfl, by rw [hps]; simp⟩)
      · exact .inl (ch.heap b ob hb e)
    · by_cases hb : b = 180
      · subst hb; exact ⟨_, hps⟩
      · exact ⟨ob, ch.heap b ob hb e⟩
   | _ => exact hr.elim
 · rcases hO xs q with h | h
   · exact hxs h
   · obtain ⟨o', e, _⟩ := hl
     rw [h] at e; cases e
 · refine wpAny_mono (law_walk g h4 (by decide) F (by exact dl1 0 16777216 0 63 hc rfl) (hnum _ g) c [] A s1 hcs X hA1 J) (fun f s2 hq => ?_) fun _ _ f => f
   obtain ⟨fl, ξ, σ, μ, hq, J2, hf⟩ := hq
   subst hq
   obtain ⟨_, v, rfl, hv⟩ := hf
   exact ⟨J2.out, hv, J2.φ.1.1⟩
end
section
set_option maxHeartbeats 8000000
theorem law_holds {num : List Nat → Option Int} (H : ∀ ns : List Int, ns.length ≤ 63 → ∃ ds R, LawF num ns ds R) (hnum : ∀ (G : Gl), IsG G → ∀ (k : Nat) (σ : St) (w : List Nat) (m : Int), k < 40 → num w = some m → m.natAbs < 2 ^ 64 ∧ Cal G k σ (.ref 190) [.str w] (.int m)) :
 PySem.Challenge.rw_wo0044_01.Holds := hd (by
 k_fill
 intro w s₀ s₁ mg mb G Y fa o pm cd doc dV kV ho hd' hcd hD hmg hg args vals as hpre hlay hrd hwl hlo
 have KX := km_in_of Y
 have KT := km_tabs_of Y
 refine Ground.open G ?_
 intro T B D TE TW
 have hdV : dV = .none := by
  rcases hD.pos with h | h
  · exact h.2
  · exact absurd rfl h.1
 have KT2 : s₁.heap.get? 180 = some (tabObj #[]) := KT 180 (List.mem_singleton.mpr rfl)
 have hcode : isCodeTable s₁.heap 180 := (((codeHd_of_K KX (c := 182) (P := 180) rfl).tab KT2)).isCodeTable
 clear hmg
 wrow_args hpre hlay hrd hwl hlo
 all_goals (
  first | refine callC_kw (enter_call ?_) | refine enter_call ?_
  w_top on
  have hl := ‹s₁.heap.IsList _ _›
  have hi := ‹IntsAre _ _›
  have hc := ‹¬ _ < _›
  exact law_join H hnum KX KT2 T.g T.b T.nolimit T.builtins T.bmain hcode ho hd' hdV hcd hg hl hi (by omega) _))
end
section
theorem fdiv_le (x l : Int) : (x.fdiv l).natAbs ≤ x.natAbs := Int.natAbs_fdiv_le_natAbs x l
noncomputable def Bnd (n e : Nat) (M : Nat → Nat → Int) : Prop := ∀ i j, i < n → j < n → (M i j).natAbs ≤ 2 ^ e
theorem Bnd.swap {n e a b : Nat} {M : Nat → Nat → Int} (h : Bnd n e M) (ha : a < n) (hb : b < n) : Bnd n e (swapM a b M) := fun i j hi hj => by
 unfold swapM
 split
 · exact h b j hb hj
 · split
   · exact h a j ha hj
   · exact h i j hi hj
theorem Bnd.step {n e k : Nat} {l : Int} {M : Nat → Nat → Int} (h : Bnd n e M) (hk : k < n) : Bnd n (2 * e + 1) (stepM k l M) := fun i j hi hj => by
 unfold stepM
 split
 · refine Nat.le_trans (fdiv_le _ _) ?_
   have h1 := h k k hk hk
   have h2 := h i j hi hj
   have h3 := h i k hi hk
   have h4 := h k j hk hj
   have h5 : (M k k * M i j).natAbs ≤ 2 ^ e * 2 ^ e := by rw [Int.natAbs_mul]; exact Nat.mul_le_mul h1 h2
   have h6 : (M i k * M k j).natAbs ≤ 2 ^ e * 2 ^ e := by rw [Int.natAbs_mul]; exact Nat.mul_le_mul h3 h4
   have h7 : 2 ^ (2 * e + 1) = 2 ^ e * 2 ^ e + 2 ^ e * 2 ^ e := by rw [Nat.pow_succ, Nat.two_mul, Nat.pow_add, Nat.mul_two]
   rw [h7]
   exact Nat.le_trans (Int.natAbs_sub_le _ _) (Nat.add_le_add h5 h6)
 · refine Nat.le_trans (h i j hi hj) (Nat.pow_le_pow_right (by decide) (le2 e))
theorem pow_1000 {e : Nat} {x : Int} (h : x.natAbs ≤ 2 ^ e) (he : e + 1 ≤ 1000) : x.natAbs < 2 ^ 1000 := by
 have h1 : 2 ^ e < 2 ^ 1000 := Nat.pow_lt_pow_right (by decide) (by exact he)
 exact Nat.lt_of_le_of_lt h h1
theorem first_row {n k : Nat} {M : Nat → Nat → Int} : (∀ p, k ≤ p → p < n → M p k = 0) ∨ ∃ p, (k ≤ p ∧ p < n ∧ M p k ≠ 0) ∧ ∀ q, k ≤ q → q < p → M q k = 0 := by
 by_cases h : ∃ p, k ≤ p ∧ p < n ∧ M p k ≠ 0
 · right
   have key : ∀ m p : Nat, p ≤ m → k ≤ p ∧ p < n ∧ M p k ≠ 0 → ∃ p, (k ≤ p ∧ p < n ∧ M p k ≠ 0) ∧ ∀ q, k ≤ q → q < p → M q k = 0 := by
    intro m
    induction m with
    | zero => intro p hp hq; exact ⟨p, hq, fun q h1 h2 => no h1 (Nat.lt_of_lt_of_le h2 (Nat.le_trans hp (Nat.zero_le k)))⟩
    | succ m ih =>
     intro p hp hq
     by_cases h2 : ∃ q, k ≤ q ∧ q < p ∧ M q k ≠ 0
     · obtain ⟨q, a, b, c⟩ := h2
       exact ih q (by exact dl2 0 0 1 0 0 1 b hp rfl) ⟨a, by exact dl2 1 0 1 0 1 0 b hq.2.1 rfl, c⟩
     · refine ⟨p, hq, fun q h3 h4 => ?_⟩
       by_cases h5 : M q k = 0
       · exact h5
       · exact absurd ⟨q, h3, h4, h5⟩ h2
   obtain ⟨p, hp⟩ := h
   exact key p p (Nat.le_refl _) hp
 · left
   intro p h1 h2
   by_cases h3 : M p k = 0
   · exact h3
   · exact absurd ⟨p, h1, h2, h3⟩ h
theorem det_step {n m k p e : Nat} {M : Nat → Nat → Int} {t l d : Int} (hp : k ≤ p ∧ p < n ∧ M p k ≠ 0) (hmin : ∀ q, k ≤ q → q < p → M q k = 0) (hl : l ≠ 0 ∧ l.natAbs ≤ 2 ^ e) (hb : Bnd n e M) (he : (e + 1) * 2 ^ (m + 1) ≤ 1000)
 (r : M p k ≠ 0 ∧ (M p k).natAbs ≤ 2 ^ (2 * e + 1) → Bnd n (2 * e + 1) (stepM k l (swapM k p M)) → (2 * e + 1 + 1) * 2 ^ m ≤ 1000 → DetRun n m (k + 1) (stepM k l (swapM k p M)) (if p = k then t else -t) (M p k) d) : DetRun n (m + 1) k M t l d := by
 have h1 : e + 1 ≤ 1000 := Nat.le_trans (Nat.le_mul_of_pos_right _ (Nat.pow_pos (by decide))) he
 have hk : k < n := by exact dl2 1 0 0 0 1 0 hp.1 hp.2.1 rfl
 refine .step hp hmin ⟨hl.1, pow_1000 hl.2 h1⟩ (fun i j hi hj => pow_1000 (hb i j hi hj) h1) (r ⟨hp.2.2, Nat.le_trans (hb p k hp.2.1 hk) (Nat.pow_le_pow_right (by decide) (le2 e))⟩ ((hb.swap hk hp.2.1).step hk) ?_)
 have h2 : (2 * e + 1 + 1) * 2 ^ m = (e + 1) * 2 ^ (m + 1) := by rw [Nat.pow_succ, show 2 * e + 1 + 1 = (e + 1) * 2 from (Nat.mul_comm 2 e ▸ (Nat.succ_mul e 2).symm), Nat.mul_assoc, Nat.mul_comm 2]
 exact dl2 0 1000 0 0 0 1000 (Nat.le_of_eq h2) he rfl
theorem swap_col {n k p : Nat} {M : Nat → Nat → Int} {P : (Nat → Int) → Prop} {i : Nat} (hk : k < n) (hp : k ≤ p ∧ p < n) (hi : k ≤ i ∧ i < n) (h : ∀ i, k ≤ i → i < n → P (M i)) : P (swapM k p M i) := by
 show P fun j => M (if i = k then p else if i = p then k else i) j
 refine h _ ?_ ?_
 · split
   · exact hp.1
   · split
     · exact Nat.le_refl _
     · exact hi.1
 · split
   · exact hp.2
   · split
     · exact hk
     · exact hi.2
theorem det_cols {n j1 j2 : Nat} (h12 : j1 < j2) (h2n : j2 < n) : ∀ (m k e : Nat) (M : Nat → Nat → Int) (t l : Int), m + k + 1 = n → l ≠ 0 ∧ l.natAbs ≤ 2 ^ e → Bnd n e M → (e + 1) * 2 ^ m ≤ 1000 →
 ((k ≤ j1 ∧ ∀ i, k ≤ i → i < n → M i j1 = M i j2) ∨ (k ≤ j2 ∧ ∀ i, k ≤ i → i < n → M i j2 = 0)) → DetRun n m k M t l 0
 | 0, k, e, M, t, l, hmk, _, _, _, h => by
  have hd : DetRun n 0 k M t l (t * M (n - 1) (n - 1)) := .done
  rcases h with ⟨h1, _⟩ | ⟨h1, h2⟩
  · exact no (Nat.le_trans (Nat.succ_le_of_lt (Nat.lt_of_le_of_lt h1 h12)) (Nat.le_sub_one_of_lt h2n)) ((pm1 hmk).symm ▸ Nat.lt_succ_self k)
  · have : j2 = n - 1 := by exact Nat.le_antisymm (Nat.le_sub_one_of_lt h2n) (pm1 hmk ▸ h1)
    rw [show M (n - 1) (n - 1) = 0 from by rw [← this]; exact h2 _ (by exact h1) (by exact h2n), Int.mul_zero] at hd
    exact hd
 | m + 1, k, e, M, t, l, hmk, hl, hb, he, h => by
  rcases first_row (n := n) (k := k) (M := M) with h0 | ⟨p, hp, hmin⟩
  · exact .zero h0
  · refine det_step hp hmin hl hb he fun hl' hb' he' => det_cols h12 h2n m (k + 1) _ _ _ _ (st1 hmk) hl' hb' he' ?_
    have hk : k < n := by exact dl2 1 0 0 0 1 0 hp.1 hp.2.1 rfl
    rcases h with ⟨h1, h2⟩ | ⟨h1, h2⟩
    · have h3 : ∀ i, k ≤ i → i < n → swapM k p M i j1 = swapM k p M i j2 := fun i a b => swap_col (P := fun r => r j1 = r j2) hk ⟨hp.1, hp.2.1⟩ ⟨a, b⟩ h2
      by_cases hkj : k = j1
      · right
        refine ⟨by exact dl2 1 0 0 0 1 0 h1 h12 rfl, fun i a b => ?_⟩
        unfold stepM
        rw [if_pos ⟨by exact a, by exact dl2 1 0 0 0 1 0 h1 h12 rfl⟩, ← h3 i (by exact dl1 0 0 1 0 a rfl) b, ← h3 k (Nat.le_refl _) hk, hkj]
        rw [Int.mul_comm, Int.sub_self]; simp
      · left
        refine ⟨Nat.lt_of_le_of_ne h1 hkj, fun i a b => ?_⟩
        unfold stepM
        rw [if_pos ⟨by exact a, Nat.lt_of_le_of_ne h1 hkj⟩, if_pos ⟨by exact a, by exact dl2 1 0 0 0 1 0 h1 h12 rfl⟩, h3 i (by exact dl1 0 0 1 0 a rfl) b, h3 k (Nat.le_refl _) hk]
    · have h3 : ∀ i, k ≤ i → i < n → swapM k p M i j2 = 0 := fun i a b => swap_col (P := fun r => r j2 = 0) hk ⟨hp.1, hp.2.1⟩ ⟨a, b⟩ h2
      right
      by_cases hkj : k = j2
      · exact absurd (hkj ▸ h2 p hp.1 hp.2.1) (hkj ▸ hp.2.2)
      · refine ⟨Nat.lt_of_le_of_ne h1 hkj, fun i a b => ?_⟩
        unfold stepM
        rw [if_pos ⟨by exact a, Nat.lt_of_le_of_ne h1 hkj⟩, h3 i (by exact dl1 0 0 1 0 a rfl) b, h3 k (Nat.le_refl _) hk]
        simp
end
section
section
variable (dl : Nat → Nat → Bool) (w : Nat → Int)
noncomputable def uP : Nat → Nat → Nat → Nat → Int
 | 0, _, _, _ => 1
 | c + 1, k, i, j => (if dl k i != dl k j then w k else 1) * uP c (k + 1) i j
noncomputable def hP : Nat → Nat → Nat → Int
 | 0, _, _ => 1
 | c + 1, k, i => (if dl k i then w k else 1) * hP c (k + 1) i
noncomputable def gP (b : Int) : Nat → Nat → Int
 | 0, _ => 1
 | c + 1, k => b * (1 - w k * w k) * gP b c (k + 1)
structure Tree (n : Nat) : Prop where
 one : ∀ k, 1 ≤ k → k < n → dl k k = true
 up : ∀ m i, i < m → m < n → dl m i = false
 apart : ∀ k i j m, 1 ≤ k → k < m → m < n → i < n → j < n → (dl k i != dl k j) = true → (dl m i && dl m j) = false
variable {dl w}
theorem uP_self : ∀ (c k i : Nat), uP dl w c k i i = 1
 | 0, _, _ => rfl
 | c + 1, k, i => by
  unfold uP
  rw [uP_self c (k + 1) i]; simp
theorem hP_none : ∀ (c k i : Nat), (∀ m, k ≤ m → m < k + c → dl m i = false) → hP dl w c k i = 1
 | 0, _, _, _ => rfl
 | c + 1, k, i, h => by
  unfold hP
  rw [hP_none c (k + 1) i fun m h1 h2 => h m (by exact dl1 0 0 1 0 h1 rfl) (shc h2), h k (Nat.le_refl _) lts]; simp
theorem uP_none : ∀ (c k i j : Nat), (∀ m, k ≤ m → m < k + c → dl m j = false) → uP dl w c k i j = hP dl w c k i
 | 0, _, _, _, _ => rfl
 | c + 1, k, i, j, h => by
  unfold uP hP
  rw [uP_none c (k + 1) i j fun m h1 h2 => h m (by exact dl1 0 0 1 0 h1 rfl) (shc h2), h k (Nat.le_refl _) lts]; simp
theorem uP_comm : ∀ (c k i j : Nat), uP dl w c k i j = uP dl w c k j i
 | 0, _, _, _ => rfl
 | c + 1, k, i, j => by
  unfold uP
  rw [uP_comm c (k + 1) i j]
  congr 1
  cases dl k i <;> cases dl k j <;> rfl
theorem uP_apart : ∀ (c k i j : Nat), (∀ m, k ≤ m → m < k + c → (dl m i && dl m j) = false) → uP dl w c k i j = hP dl w c k i * hP dl w c k j
 | 0, _, _, _, _ => rfl
 | c + 1, k, i, j, h => by
  unfold uP hP
  rw [uP_apart c (k + 1) i j fun m h1 h2 => h m (by exact dl1 0 0 1 0 h1 rfl) (shc h2)]
  have := h k (Nat.le_refl _) lts
  cases h1 : dl k i <;> cases h2 : dl k j <;> rw [h1, h2] at this <;> first | (cases this; done) | (simp; try grind)
theorem det_prods {n : Nat} (T : Tree dl n) (b : Int) : ∀ (m k e : Nat) (M : Nat → Nat → Int) (t l : Int), m + k + 1 = n → 1 ≤ k → l ≠ 0 ∧ l.natAbs ≤ 2 ^ e → Bnd n e M → (e + 1) * 2 ^ m ≤ 1000 →
 (∀ i j, k ≤ i → i < n → k ≤ j → j < n → M i j = b * l * (uP dl w (m + 1) k i j - hP dl w (m + 1) k i * hP dl w (m + 1) k j)) → DetRun n m k M t l (t * (l * gP w b (m + 1) k))
 | 0, k, e, M, t, l, hmk, hk1, hl, hb, he, h => by
  have hd : DetRun n 0 k M t l (t * M (n - 1) (n - 1)) := .done
  have hk : n - 1 = k := pm1 hmk
  rw [hk, h k k (Nat.le_refl _) (klt hmk) (Nat.le_refl _) (klt hmk), uP_self] at hd
  have e1 : hP dl w (0 + 1) k k = w k := by
   unfold hP hP
   rw [T.one k hk1 (klt hmk)]; simp
  rw [e1] at hd
  have e2 : t * (b * l * (1 - w k * w k)) = t * (l * gP w b (0 + 1) k) := by unfold gP gP; grind
  rw [e2] at hd
  exact hd
 | m + 1, k, e, M, t, l, hmk, hk1, hl, hb, he, h => by
  have hkn : k < n := klt hmk
  have hkk := T.one k hk1 hkn
  have hno : ∀ m', k + 1 ≤ m' → m' < k + 1 + (m + 1) → dl m' k = false := fun m' h1 h2 => T.up m' k (by exact h1) (in_lt hmk h2)
  have hHk : hP dl w (m + 2) k k = w k := by
   show (if dl k k then w k else 1) * hP dl w (m + 1) (k + 1) k = w k
   rw [hkk, hP_none _ _ _ hno]; simp
  have hp : M k k = b * l * (1 - w k * w k) := by rw [h k k (Nat.le_refl _) hkn (Nat.le_refl _) hkn, uP_self, hHk]
  have hcol : ∀ i, k ≤ i → i < n → M i k = b * l * ((if dl k i then 1 else w k) * hP dl w (m + 1) (k + 1) i - (if dl k i then w k else 1) * hP dl w (m + 1) (k + 1) i * w k) := fun i h1 h2 => by
   rw [h i k h1 h2 (Nat.le_refl _) hkn, hHk]
   show b * l * ((if dl k i != dl k k then w k else 1) * uP dl w (m + 1) (k + 1) i k - (if dl k i then w k else 1) * hP dl w (m + 1) (k + 1) i * w k) = _
   rw [hkk, uP_none _ _ _ _ hno]
   cases dl k i <;> rfl
  have hrow : ∀ j, k ≤ j → j < n → M k j = b * l * ((if dl k j then 1 else w k) * hP dl w (m + 1) (k + 1) j - (if dl k j then w k else 1) * hP dl w (m + 1) (k + 1) j * w k) := fun j h1 h2 => by
   rw [h k j (Nat.le_refl _) hkn h1 h2, hHk]
   show b * l * ((if dl k k != dl k j then w k else 1) * uP dl w (m + 1) (k + 1) k j - w k * ((if dl k j then w k else 1) * hP dl w (m + 1) (k + 1) j)) = _
   rw [hkk, uP_comm, uP_none _ _ _ _ hno]
   cases dl k j <;> simp <;> grind
  by_cases hz : M k k = 0
  · have hc0 : ∀ p, k ≤ p → p < n → M p k = 0 := fun i h1 h2 => by
     rw [hcol i h1 h2]
     rw [hp] at hz
     cases dl k i <;> simp <;> grind
    have e2 : t * (l * gP w b (m + 1 + 1) k) = 0 := by
     rw [hp] at hz
     show t * (l * (b * (1 - w k * w k) * gP w b (m + 1) (k + 1))) = 0
     grind
    rw [e2]
    exact .zero hc0
  · have hsw : swapM k k M = M := by
     funext i j
     unfold swapM
     by_cases hi : i = k
     · rw [if_pos hi, hi]
     · rw [if_neg hi, if_neg hi]
    have key := det_step (n := n) (m := m) (k := k) (p := k) (e := e) (M := M) (t := t) (l := l) (d := t * (M k k * gP w b (m + 1) (k + 1))) ⟨Nat.le_refl _, hkn, hz⟩ (fun q h1 h2 => no h1 h2) hl hb he fun hl' hb' he' => by
     rw [if_pos rfl]
     rw [hsw] at hb' ⊢
     refine det_prods T b m (k + 1) _ _ _ _ (st1 hmk) (by exact dl1 1 1 1 0 hk1 rfl) hl' hb' he' fun i j h1 h2 h3 h4 => ?_
     unfold stepM
     rw [if_pos ⟨by exact h1, by exact h3⟩]
     have hij := h i j (by exact dl1 0 0 1 0 h1 rfl) h2 (by exact dl1 0 0 1 0 h3 rfl) h4
     have e3 : M k k * M i j - M i k * M k j = l * (b * M k k * (uP dl w (m + 1) (k + 1) i j - hP dl w (m + 1) (k + 1) i * hP dl w (m + 1) (k + 1) j)) := by
      rw [hij, hcol i (by exact dl1 0 0 1 0 h1 rfl) h2, hrow j (by exact dl1 0 0 1 0 h3 rfl) h4, hp]
      show b * l * (1 - w k * w k) * (b * l * ((if dl k i != dl k j then w k else 1) * uP dl w (m + 1) (k + 1) i j - (if dl k i then w k else 1) * hP dl w (m + 1) (k + 1) i * ((if dl k j then w k else 1) * hP dl w (m + 1) (k + 1) j))) - _ = _
      have hap : (dl k i != dl k j) = true → uP dl w (m + 1) (k + 1) i j = hP dl w (m + 1) (k + 1) i * hP dl w (m + 1) (k + 1) j := fun hx => uP_apart _ _ _ _ fun m' h5 h6 => T.apart k i j m' hk1 (by exact h5) (in_lt hmk h6) h2 h4 hx
      cases h7 : dl k i <;> cases h8 : dl k j
      · simp; grind
      · rw [hap (by rw [h7, h8]; rfl)]; simp; grind
      · rw [hap (by rw [h7, h8]; rfl)]; simp; grind
      · simp; grind
     rw [e3, Int.mul_fdiv_cancel_left _ hl.1]
    have e4 : t * (l * gP w b (m + 1 + 1) k) = t * (M k k * gP w b (m + 1) (k + 1)) := by
     rw [hp]
     show t * (l * (b * (1 - w k * w k) * gP w b (m + 1) (k + 1))) = _
     grind
    rw [e4]
    exact key
end
end
section
theorem simpM (be u di dj s hi hj : Int) : -(be * u) * (di * dj * u + s) + be * (di * u + hi) * (dj * u + hj) = be * (hi * hj + u * (di * hj + dj * hi) - u * s) := by grind
theorem poly1 (u v di dj ep ei ej a b s : Int) : v * v * ((ei * v + a) * (ej * v + b) + u * (di * (ej * v + b) + dj * (ei * v + a)) - u * (ei * ej * v + s))
 - v * (ei * v + a) * (v * (ej * v + b) + u * (ep * (ej * v + b) + dj * v) - u * (ej * v))
 - v * (ej * v + b) * ((ei * v + a) * v + u * (di * v + ep * (ei * v + a)) - u * (ei * v))
 + (ei * v + a) * (ej * v + b) * (v * v + u * (ep * v + ep * v) - u * v) = -(u * v) * (v * s + a * b) := by grind
theorem poly2 (l be u v X1 X2 X3 X4 hi hj s ab : Int) (h : v * v * X1 - v * hi * X2 - v * hj * X3 + hi * hj * X4 = -(u * v) * (v * s + ab)) (hl : be * u = 2 * l) :
 4 * l * v * v * (2 * (v * (be * X1) - hi * (be * X2))) - 2 * (v * (be * X3) - hi * (be * X4)) * (4 * l * v * hj) = 2 * l * v * (-8 * l * v * (v * s + ab)) := by
 have e : 4 * l * v * v * (2 * (v * (be * X1) - hi * (be * X2))) - 2 * (v * (be * X3) - hi * (be * X4)) * (4 * l * v * hj) = 8 * l * v * be * (v * v * X1 - v * hi * X2 - v * hj * X3 + hi * hj * X4) := by grind
 rw [e, h, show 8 * l * v * be * (-(u * v) * (v * s + ab)) = -(8 * l * v * v * (v * s + ab)) * (be * u) by grind, hl]
 grind
section
variable (dl : Nat → Nat → Bool) (w : Nat → Int)
noncomputable def d01 (k i : Nat) : Int := if dl k i then 1 else 0
noncomputable def hS : Nat → Nat → Nat → Int
 | 0, _, _ => 0
 | c + 1, k, i => d01 dl k i * w k + hS c (k + 1) i
noncomputable def sS : Nat → Nat → Nat → Nat → Int
 | 0, _, _, _ => 0
 | c + 1, k, i, j => d01 dl k i * d01 dl k j * w k + sS c (k + 1) i j
noncomputable def resS : Nat → Nat → Int → Int → Int
 | 0, _, _, _ => 0
 | 1, k, al, be => w k * (al + be * w k)
 | c + 2, k, al, be => resS (c + 1) (k + 1) (-2 * (w k * (al + be * w k))) (-2 * (w k * be))
variable {dl w}
theorem hS_none : ∀ (c k i : Nat), (∀ m, k ≤ m → m < k + c → dl m i = false) → hS dl w c k i = 0
 | 0, _, _, _ => rfl
 | c + 1, k, i, h => by
  unfold hS d01
  rw [hS_none c (k + 1) i fun m h1 h2 => h m (by exact dl1 0 0 1 0 h1 rfl) (shc h2), h k (Nat.le_refl _) lts]; simp
theorem sS_none : ∀ (c k i j : Nat), (∀ m, k ≤ m → m < k + c → dl m j = false) → sS dl w c k i j = 0
 | 0, _, _, _, _ => rfl
 | c + 1, k, i, j, h => by
  unfold sS d01
  rw [sS_none c (k + 1) i j fun m h1 h2 => h m (by exact dl1 0 0 1 0 h1 rfl) (shc h2), h k (Nat.le_refl _) lts]; simp
theorem sS_comm : ∀ (c k i j : Nat), sS dl w c k i j = sS dl w c k j i
 | 0, _, _, _ => rfl
 | c + 1, k, i, j => by
  unfold sS
  rw [sS_comm c (k + 1) i j, Int.mul_comm (d01 dl k i)]
theorem resS_neg : ∀ (c k : Nat) (al be : Int), resS w c k (-al) (-be) = -resS w c k al be
 | 0, _, _, _ => rfl
 | 1, k, al, be => by unfold resS; grind
 | c + 2, k, al, be => by
  unfold resS
  rw [show -2 * (w k * (-al + -be * w k)) = -(-2 * (w k * (al + be * w k))) by grind, show -2 * (w k * -be) = -(-2 * (w k * be)) by grind, resS_neg (c + 1)]
theorem pivot_h {n c k : Nat} (T : Tree dl n) (hk : 1 ≤ k) (hkn : k < n) (hc : k + (c + 1) ≤ n) : hS dl w (c + 1) k k = w k := by
 show d01 dl k k * w k + hS dl w c (k + 1) k = w k
 rw [hS_none c (k + 1) k fun m h1 h2 => T.up m k (by exact h1) (shn h2 hc)]
 unfold d01
 rw [T.one k hk hkn]; simp
theorem pivot_s {n c k i : Nat} (T : Tree dl n) (hk : 1 ≤ k) (hkn : k < n) (hc : k + (c + 1) ≤ n) : sS dl w (c + 1) k i k = d01 dl k i * w k := by
 show d01 dl k i * d01 dl k k * w k + sS dl w c (k + 1) i k = _
 rw [sS_none c (k + 1) i k fun m h1 h2 => T.up m k (by exact h1) (shn h2 hc)]
 unfold d01
 rw [T.one k hk hkn]; simp
set_option tactic.hygienic true in
theorem det_sums {n : Nat} (T : Tree dl n) (hw : ∀ i, 1 ≤ i → i < n → w i ≠ 0) : ∀ (f m : Nat), m ≤ f → ∀ (k e : Nat) (M : Nat → Nat → Int) (t l al be : Int), m + k + 1 = n → 1 ≤ k → l ≠ 0 ∧ l.natAbs ≤ 2 ^ e → Bnd n e M → (e + 1) * 2 ^ m ≤ 1000 → al = -2 * l →
 (∀ i j, k ≤ i → i < n → k ≤ j → j < n → M i j = al * sS dl w (m + 1) k i j + be * hS dl w (m + 1) k i * hS dl w (m + 1) k j) → DetRun n m k M t l (t * resS w (m + 1) k al be)
 | _, 0, _, k, e, M, t, l, al, be, hmk, hk1, hl, hb, he, hal, h => by
  have hd : DetRun n 0 k M t l (t * M (n - 1) (n - 1)) := .done
  have hk : n - 1 = k := pm1 hmk
  rw [hk, h k k (Nat.le_refl _) (klt hmk) (Nat.le_refl _) (klt hmk), pivot_h T hk1 (klt hmk) (kle hmk), pivot_s T hk1 (klt hmk) (kle hmk)] at hd
  have e1 : d01 dl k k = 1 := by unfold d01; rw [T.one k hk1 (klt hmk)]; simp
  rw [e1] at hd
  have e2 : t * (al * (1 * w k) + be * w k * w k) = t * resS w (0 + 1) k al be := by unfold resS; grind
  rw [e2] at hd
  exact hd
 | 0, m + 1, hf, _, _, _, _, _, _, _, _, _, _, _, _, _, _ => absurd hf (Nat.not_succ_le_zero m)
 | f + 1, m + 1, hf, k, e, M, t, l, al, be, hmk, hk1, hl, hb, he, hal, h => by
  have hkn : k < n := klt hmk
  have hwk := hw k hk1 hkn
  have dkk : d01 dl k k = 1 := by unfold d01; rw [T.one k hk1 hkn]; simp
  have hp : M k k = w k * (al + be * w k) := by
   rw [h k k (Nat.le_refl _) hkn (Nat.le_refl _) hkn, pivot_h T hk1 hkn (kle hmk), pivot_s T hk1 hkn (kle hmk), dkk]; grind
  have hcol : ∀ i, k ≤ i → i < n → M i k = al * (d01 dl k i * w k) + be * (d01 dl k i * w k + hS dl w (m + 1) (k + 1) i) * w k := fun i h1 h2 => by
   rw [h i k h1 h2 (Nat.le_refl _) hkn, pivot_h T hk1 hkn (kle hmk), pivot_s T hk1 hkn (kle hmk)]; rfl
  have hrow : ∀ j, k ≤ j → j < n → M k j = al * (d01 dl k j * w k) + be * (d01 dl k j * w k + hS dl w (m + 1) (k + 1) j) * w k := fun j h1 h2 => by
   rw [h k j (Nat.le_refl _) hkn h1 h2, sS_comm, pivot_h T hk1 hkn (kle hmk), pivot_s T hk1 hkn (kle hmk)]
   show _ + be * w k * (d01 dl k j * w k + hS dl w (m + 1) (k + 1) j) = _
   grind
  have hgen : ∀ i j, k ≤ i → i < n → k ≤ j → j < n → M i j = al * (d01 dl k i * d01 dl k j * w k + sS dl w (m + 1) (k + 1) i j) + be * (d01 dl k i * w k + hS dl w (m + 1) (k + 1) i) * (d01 dl k j * w k + hS dl w (m + 1) (k + 1) j) := h
  by_cases hz : M k k = 0
  · -- the next row takes its place
    have hal0 : al + be * w k = 0 := by
     rw [hp] at hz
     rcases Int.mul_eq_zero.mp hz with h1 | h1
     · exact absurd h1 hwk
     · exact h1
    have hbw : be * w k = 2 * l := by rw [hal] at hal0; grind
    have hk1n : k + 1 < n := klt (st1 hmk)
    have hv := hw (k + 1) (by exact dl1 1 1 1 0 hk1 rfl) hk1n
    have dvv : d01 dl (k + 1) (k + 1) = 1 := by unfold d01; rw [T.one (k + 1) (by exact dl1 1 1 1 0 hk1 rfl) hk1n]; simp
    have hh1 : hS dl w (m + 1) (k + 1) (k + 1) = w (k + 1) := pivot_h T (by exact dl1 1 1 1 0 hk1 rfl) hk1n (kl2 hmk)
    have hcol' : ∀ i, k ≤ i → i < n → M i k = 2 * l * hS dl w (m + 1) (k + 1) i := fun i h1 h2 => by
     rw [hcol i h1 h2]; grind
    have hrow' : ∀ j, k ≤ j → j < n → M k j = 2 * l * hS dl w (m + 1) (k + 1) j := fun j h1 h2 => by
     rw [hrow j h1 h2]; grind
    have hP : M (k + 1) k = 2 * l * w (k + 1) := by rw [hcol' (k + 1) (by exact dl0 0 1 rfl) hk1n, hh1]
    have hPz : M (k + 1) k ≠ 0 := by
     rw [hP]
     exact Int.mul_ne_zero (Int.mul_ne_zero (by decide) hl.1) hv
    have sw1 : ∀ j, swapM k (k + 1) M k j = M (k + 1) j := fun j => by unfold swapM; rw [if_pos rfl]
    have sw2 : ∀ j, swapM k (k + 1) M (k + 1) j = M k j := fun j => by unfold swapM; rw [if_neg (by exact Nat.ne_of_gt (Nat.le_refl _)), if_pos rfl]
    have sw3 : ∀ i j, k + 1 < i → swapM k (k + 1) M i j = M i j := fun i j hi => by unfold swapM; rw [if_neg (by exact Nat.ne_of_gt (dl1 1 0 2 0 hi rfl)), if_neg (by exact Nat.ne_of_gt hi)]
    have c1 : ∀ j, k < j → j < n → stepM k l (swapM k (k + 1) M) (k + 1) j = 4 * l * w (k + 1) * hS dl w (m + 1) (k + 1) j := fun j h1 h2 => by
     unfold stepM
     rw [if_pos ⟨by exact Nat.le_refl _, h1⟩, sw1, sw1, sw2, sw2, hP, hrow' j (by exact dl1 0 0 1 0 h1 rfl) h2, hz]
     rw [show 2 * l * w (k + 1) * (2 * l * hS dl w (m + 1) (k + 1) j) - 0 * M (k + 1) j = l * (4 * l * w (k + 1) * hS dl w (m + 1) (k + 1) j) by grind, Int.mul_fdiv_cancel_left _ hl.1]
    have c2 : ∀ i j, k + 1 < i → i < n → k < j → j < n → stepM k l (swapM k (k + 1) M) i j = 2 * (w (k + 1) * M i j - hS dl w (m + 1) (k + 1) i * M (k + 1) j) := fun i j h1 h2 h3 h4 => by
     unfold stepM
     rw [if_pos ⟨by exact dl1 1 0 2 0 h1 rfl, h3⟩, sw1, sw1, sw3 _ _ h1, sw3 _ _ h1, hP, hcol' i (by exact dl1 0 0 2 0 h1 rfl) h2]
     rw [show 2 * l * w (k + 1) * M i j - 2 * l * hS dl w (m + 1) (k + 1) i * M (k + 1) j = l * (2 * (w (k + 1) * M i j - hS dl w (m + 1) (k + 1) i * M (k + 1) j)) by grind, Int.mul_fdiv_cancel_left _ hl.1]
    refine det_step (n := n) (m := m) (k := k) (p := k + 1) (e := e) (M := M) (t := t) (l := l) ⟨by exact dl0 0 1 rfl, hk1n, hPz⟩ (fun q h1 h2 => by
     have : q = k := by exact Nat.le_antisymm (dl1 0 0 1 1 h2 rfl) h1
     rw [this]; exact hz) hl hb he fun hl' hb' he' => ?_
    rw [if_neg (by exact Nat.ne_of_gt (Nat.le_refl _))]
    cases m with
    | zero =>
     have hd : DetRun n 0 (k + 1) (stepM k l (swapM k (k + 1) M)) (-t) (M (k + 1) k) (-t * stepM k l (swapM k (k + 1) M) (n - 1) (n - 1)) := .done
     have hkn1 : n - 1 = k + 1 := pm1 (st1 hmk)
     rw [hkn1, c1 (k + 1) (by exact Nat.le_refl _) hk1n, hh1] at hd
     have e2 : -t * (4 * l * w (k + 1) * w (k + 1)) = t * resS w (0 + 1 + 1) k al be := by
      show _ = t * resS w 1 (k + 1) _ _
      unfold resS
      rw [hal0]; grind
     rw [e2] at hd
     exact hd
    | succ m =>
     clear hp
     generalize stepM k l (swapM k (k + 1) M) = C at *
     have hC : C (k + 1) (k + 1) = 4 * l * w (k + 1) * w (k + 1) := by rw [c1 (k + 1) (by exact Nat.le_refl _) hk1n, hh1]
     have hCz : C (k + 1) (k + 1) ≠ 0 := by
      rw [hC]
      exact Int.mul_ne_zero (Int.mul_ne_zero (Int.mul_ne_zero (by decide) hl.1) hv) hv
     have hsw2 : ∀ X : Nat → Nat → Int, swapM (k + 1) (k + 1) X = X := fun X => by
      funext i j
      unfold swapM
      by_cases hi : i = k + 1
      · rw [if_pos hi, hi]
      · rw [if_neg hi, if_neg hi]
     refine det_step (n := n) (m := m) (k := k + 1) (p := k + 1) (e := 2 * e + 1) ⟨Nat.le_refl _, hk1n, hCz⟩ (fun q h1 h2 => no h1 h2) hl' hb' he' fun hl2 hb2 he2 => ?_
     rw [if_pos rfl]
     rw [hsw2] at hb2 ⊢
     have e0 : t * resS w (m + 1 + 1 + 1) k al be = -t * resS w (m + 1) (k + 1 + 1) (-8 * l * w (k + 1) * w (k + 1)) (-8 * l * w (k + 1)) := by
      show t * resS w (m + 1) (k + 1 + 1) (-2 * (w (k + 1) * (-2 * (w k * (al + be * w k)) + -2 * (w k * be) * w (k + 1)))) (-2 * (w (k + 1) * (-2 * (w k * be)))) = _
      rw [hal0, show -8 * l * w (k + 1) * w (k + 1) = -(-2 * (w (k + 1) * (-2 * (w k * 0) + -2 * (w k * be) * w (k + 1)))) by grind, show -8 * l * w (k + 1) = -(-2 * (w (k + 1) * (-2 * (w k * be)))) by grind, resS_neg]
      grind
     rw [e0]
     refine det_sums T hw f m (by exact dl1 0 0 2 1 hf rfl) (k + 1 + 1) _ _ _ _ _ _ (st2 hmk) (by exact dl1 1 2 1 0 hk1 rfl) hl2 hb2 he2 (by rw [hC]; grind) fun i j h1 h2 h3 h4 => ?_
     unfold stepM
     rw [if_pos ⟨by exact h1, by exact h3⟩]
     have hi' : hS dl w (m + 1 + 1) (k + 1) i = d01 dl (k + 1) i * w (k + 1) + hS dl w (m + 1) (k + 1 + 1) i := rfl
     have hj' : hS dl w (m + 1 + 1) (k + 1) j = d01 dl (k + 1) j * w (k + 1) + hS dl w (m + 1) (k + 1 + 1) j := rfl
     have hs' : sS dl w (m + 1 + 1) (k + 1) i j = d01 dl (k + 1) i * d01 dl (k + 1) j * w (k + 1) + sS dl w (m + 1) (k + 1 + 1) i j := rfl
     have hM1j : M (k + 1) j = al * (d01 dl k (k + 1) * d01 dl k j * w k + d01 dl (k + 1) j * w (k + 1)) + be * (d01 dl k (k + 1) * w k + w (k + 1)) * (d01 dl k j * w k + hS dl w (m + 1 + 1) (k + 1) j) := by
      rw [hgen (k + 1) j (by exact dl0 0 1 rfl) hk1n (by exact dl1 0 0 2 0 h3 rfl) h4, sS_comm, pivot_s T (by exact dl1 1 1 1 0 hk1 rfl) hk1n (kl2 hmk), hh1]
     have hMi1 : M i (k + 1) = al * (d01 dl k i * d01 dl k (k + 1) * w k + d01 dl (k + 1) i * w (k + 1)) + be * (d01 dl k i * w k + hS dl w (m + 1 + 1) (k + 1) i) * (d01 dl k (k + 1) * w k + w (k + 1)) := by
      rw [hgen i (k + 1) (by exact dl1 0 0 2 0 h1 rfl) h2 (by exact dl0 0 1 rfl) hk1n, pivot_s T (by exact dl1 1 1 1 0 hk1 rfl) hk1n (kl2 hmk), hh1]
     have hM11 : M (k + 1) (k + 1) = al * (d01 dl k (k + 1) * d01 dl k (k + 1) * w k + w (k + 1)) + be * (d01 dl k (k + 1) * w k + w (k + 1)) * (d01 dl k (k + 1) * w k + w (k + 1)) := by
      rw [hgen (k + 1) (k + 1) (by exact dl0 0 1 rfl) hk1n (by exact dl0 0 1 rfl) hk1n, pivot_s T (by exact dl1 1 1 1 0 hk1 rfl) hk1n (kl2 hmk), hh1, dvv]; grind
     have hMij := hgen i j (by exact dl1 0 0 2 0 h1 rfl) h2 (by exact dl1 0 0 2 0 h3 rfl) h4
     have e3 : C (k + 1) (k + 1) * C i j - C i (k + 1) * C (k + 1) j =
      M (k + 1) k * (-8 * l * w (k + 1) * w (k + 1) * sS dl w (m + 1) (k + 1 + 1) i j + -8 * l * w (k + 1) * hS dl w (m + 1) (k + 1 + 1) i * hS dl w (m + 1) (k + 1 + 1) j) := by
      rw [hC, c2 i j (by exact h1) h2 (by exact dl1 1 0 2 0 h3 rfl) h4, c2 i (k + 1) (by exact h1) h2 (by exact Nat.le_refl _) hk1n, c1 j (by exact dl1 1 0 2 0 h3 rfl) h4, hP, hMij, hM1j, hMi1, hM11, hi', hj', hs']
      have hal2 : al = -(be * w k) := Int.eq_neg_of_eq_neg (Int.neg_eq_of_add_eq_zero hal0).symm
      rw [hal2, simpM, simpM, simpM, simpM]
      have h2 := poly2 l be (w k) (w (k + 1)) _ _ _ _ _ _ _ _ (poly1 (w k) (w (k + 1)) (d01 dl k i) (d01 dl k j) (d01 dl k (k + 1)) (d01 dl (k + 1) i) (d01 dl (k + 1) j) (hS dl w (m + 1) (k + 1 + 1) i) (hS dl w (m + 1) (k + 1 + 1) j) (sS dl w (m + 1) (k + 1 + 1) i j)) hbw
      rw [h2]
      grind
     rw [e3, Int.mul_fdiv_cancel_left _ hPz]
  · have hsw : swapM k k M = M := by
     funext i j
     unfold swapM
     by_cases hi : i = k
     · rw [if_pos hi, hi]
     · rw [if_neg hi, if_neg hi]
    refine det_step (n := n) (m := m) (k := k) (p := k) (e := e) (M := M) (t := t) (l := l) ⟨Nat.le_refl _, hkn, hz⟩ (fun q h1 h2 => no h1 h2) hl hb he fun hl' hb' he' => ?_
    rw [if_pos rfl]
    rw [hsw] at hb' ⊢
    have e0 : resS w (m + 1 + 1) k al be = resS w (m + 1) (k + 1) (-2 * (w k * (al + be * w k))) (-2 * (w k * be)) := rfl
    rw [e0]
    refine det_sums T hw f m (by exact dl1 0 0 1 1 hf rfl) (k + 1) _ _ _ _ _ _ (st1 hmk) (by exact dl1 1 1 1 0 hk1 rfl) hl' hb' he' (by rw [hp]) fun i j h1 h2 h3 h4 => ?_
    unfold stepM
    rw [if_pos ⟨by exact h1, by exact h3⟩]
    have e3 : M k k * M i j - M i k * M k j = l * (-2 * (w k * (al + be * w k)) * sS dl w (m + 1) (k + 1) i j + -2 * (w k * be) * hS dl w (m + 1) (k + 1) i * hS dl w (m + 1) (k + 1) j) := by
     rw [hp, hgen i j (by exact dl1 0 0 1 0 h1 rfl) h2 (by exact dl1 0 0 1 0 h3 rfl) h4, hcol i (by exact dl1 0 0 1 0 h1 rfl) h2, hrow j (by exact dl1 0 0 1 0 h3 rfl) h4, hal]
     grind
    rw [e3, Int.mul_fdiv_cancel_left _ hl.1]
end
end
section
section
variable (dl : Nat → Nat → Bool) (w : Nat → Int)
noncomputable def xS : Nat → Nat → Nat → Nat → Int
 | 0, _, _, _ => 0
 | c + 1, k, i, j => (if dl k i != dl k j then w k else 0) + xS c (k + 1) i j
variable {dl w}
theorem xS_hs : ∀ (c k i j : Nat), xS dl w c k i j = hS dl w c k i + hS dl w c k j - 2 * sS dl w c k i j
 | 0, _, _, _ => rfl
 | c + 1, k, i, j => by
  unfold xS hS sS
  rw [xS_hs c (k + 1) i j]
  unfold d01
  cases dl k i <;> cases dl k j <;> simp <;> grind
theorem xS_congr : ∀ (c k i j j' : Nat), (∀ l, k ≤ l → l < k + c → w l = 0 ∨ dl l j = dl l j') → xS dl w c k i j = xS dl w c k i j'
 | 0, _, _, _, _, _ => rfl
 | c + 1, k, i, j, j', h => by
  unfold xS
  rw [xS_congr c (k + 1) i j j' fun l h1 h2 => h l (by exact dl1 0 0 1 0 h1 rfl) (shc h2)]
  rcases h k (Nat.le_refl _) lts with h1 | h1
  · rw [h1]; simp
  · rw [h1]
theorem swap_same (k : Nat) (X : Nat → Nat → Int) : swapM k k X = X := by
 funext i j
 unfold swapM
 by_cases hi : i = k
 · rw [if_pos hi, hi]
 · rw [if_neg hi, if_neg hi]
theorem det_sums0 {N e : Nat} {M : Nat → Nat → Int} {b : Int} (T : Tree dl (N + 2 + 1)) (hw : ∀ i, 1 ≤ i → i < N + 2 + 1 → w i ≠ 0) (hM : ∀ i j, i < N + 2 + 1 → j < N + 2 + 1 → M i j = b + xS dl w (N + 2) 1 i j) (hb : Bnd (N + 2 + 1) e M) (he : (e + 1) * 2 ^ (N + 2) ≤ 1000) :
 DetRun (N + 2 + 1) (N + 2) 0 M 1 1 (resS w (N + 2) 1 (-2 * b) (-1)) := by
 have up0 : ∀ m, 1 ≤ m → m < 1 + (N + 2) → dl m 0 = false := fun m h1 h2 => T.up m 0 h1 (cm1 h2)
 have h0 : ∀ i, sS dl w (N + 2) 1 i 0 = 0 := fun i => sS_none _ _ _ _ up0
 have hh0 : hS dl w (N + 2) 1 0 = 0 := hS_none _ _ _ up0
 have hgen : ∀ i j, i < N + 2 + 1 → j < N + 2 + 1 → M i j = b + (hS dl w (N + 2) 1 i + hS dl w (N + 2) 1 j - 2 * sS dl w (N + 2) 1 i j) := fun i j hi hj => by rw [hM i j hi hj, xS_hs]
 have h00 : M 0 0 = b := by rw [hgen 0 0 (by exact dl1 1 3 0 0 (Nat.zero_le _) rfl) (by exact dl1 1 3 0 0 (Nat.zero_le _) rfl), h0, hh0]; grind
 have hi0 : ∀ i, i < N + 2 + 1 → M i 0 = b + hS dl w (N + 2) 1 i := fun i hi => by rw [hgen i 0 hi (by exact dl1 1 3 0 0 (Nat.zero_le _) rfl), h0, hh0]; grind
 have h0j : ∀ j, j < N + 2 + 1 → M 0 j = b + hS dl w (N + 2) 1 j := fun j hj => by rw [hgen 0 j (by exact dl1 1 3 0 0 (Nat.zero_le _) rfl) hj, sS_comm, h0, hh0]; grind
 have one0 : (1 : Int) ≠ 0 ∧ (1 : Int).natAbs ≤ 2 ^ e := ⟨by decide, Nat.pow_pos (by decide)⟩
 by_cases hz : b = 0
 · have hv := hw 1 (Nat.le_refl _) (by exact dl1 2 3 0 0 (Nat.zero_le _) rfl)
   have hh1 : hS dl w (N + 2) 1 1 = w 1 := pivot_h (c := N + 1) T (Nat.le_refl _) (by exact dl1 2 3 0 0 (Nat.zero_le _) rfl) (Nat.le_of_eq (Nat.add_comm 1 (N + 2)))
   have hs1 : ∀ i, sS dl w (N + 2) 1 i 1 = d01 dl 1 i * w 1 := fun i => pivot_s (c := N + 1) T (Nat.le_refl _) (by exact dl1 2 3 0 0 (Nat.zero_le _) rfl) (Nat.le_of_eq (Nat.add_comm 1 (N + 2)))
   have dvv : d01 dl 1 1 = 1 := by unfold d01; rw [T.one 1 (Nat.le_refl _) (by exact dl1 2 3 0 0 (Nat.zero_le _) rfl)]; simp
   have hP : M 1 0 = w 1 := by rw [hi0 1 (by exact dl1 2 3 0 0 (Nat.zero_le _) rfl), hz, hh1]; grind
   have sw1 : ∀ j, swapM 0 1 M 0 j = M 1 j := fun j => by unfold swapM; rw [if_pos rfl]
   have sw2 : ∀ j, swapM 0 1 M 1 j = M 0 j := fun j => by unfold swapM; rw [if_neg (by exact Nat.ne_of_gt (Nat.le_of_ble_eq_true rfl)), if_pos rfl]
   have sw3 : ∀ i j, 1 < i → swapM 0 1 M i j = M i j := fun i j hi => by unfold swapM; rw [if_neg (by exact Nat.ne_of_gt (dl1 1 0 2 0 hi rfl)), if_neg (by exact Nat.ne_of_gt hi)]
   have c1 : ∀ j, 0 < j → j < N + 2 + 1 → stepM 0 1 (swapM 0 1 M) 1 j = w 1 * hS dl w (N + 2) 1 j := fun j h1 h2 => by
    unfold stepM
    rw [if_pos ⟨by exact Nat.le_of_ble_eq_true rfl, h1⟩, sw1, sw1, sw2, sw2, hP, h00, h0j j h2, hz, Int.fdiv_one]; grind
   have c2 : ∀ i j, 1 < i → i < N + 2 + 1 → 0 < j → j < N + 2 + 1 → stepM 0 1 (swapM 0 1 M) i j = w 1 * M i j - hS dl w (N + 2) 1 i * M 1 j := fun i j h1 h2 h3 h4 => by
    unfold stepM
    rw [if_pos ⟨by exact dl1 1 0 2 0 h1 rfl, h3⟩, sw1, sw1, sw3 _ _ h1, sw3 _ _ h1, hP, hi0 i h2, hz, Int.fdiv_one]; grind
   refine det_step (n := N + 2 + 1) (m := N + 1) (k := 0) (p := 1) (e := e) (M := M) (t := 1) (l := 1) ⟨by exact Nat.le_of_ble_eq_true rfl, by exact dl1 2 3 0 0 (Nat.zero_le _) rfl, by rw [hP]; exact hv⟩ (fun q h1 h2 => by
    have : q = 0 := by exact Nat.le_antisymm (dl1 0 0 1 1 h2 rfl) h1
    rw [this, h00, hz]) one0 hb he fun hl' hb' he' => ?_
   rw [if_neg (by exact Nat.ne_of_gt (Nat.le_of_ble_eq_true rfl))]
   generalize stepM 0 1 (swapM 0 1 M) = C at *
   have hC : C 1 1 = w 1 * w 1 := by rw [c1 1 (by exact Nat.le_of_ble_eq_true rfl) (by exact dl1 2 3 0 0 (Nat.zero_le _) rfl), hh1]
   have hCz : C 1 1 ≠ 0 := by rw [hC]; exact Int.mul_ne_zero hv hv
   refine det_step (n := N + 2 + 1) (m := N) (k := 1) (p := 1) (e := 2 * e + 1) ⟨Nat.le_refl _, by exact dl1 2 3 0 0 (Nat.zero_le _) rfl, hCz⟩ (fun q h1 h2 => no h1 h2) hl' hb' he' fun hl2 hb2 he2 => ?_
   rw [if_pos rfl]
   rw [swap_same] at hb2 ⊢
   have e0 : resS w (N + 2) 1 (-2 * b) (-1) = -1 * resS w (N + 1) 2 (-2 * w 1 * w 1) (-2 * w 1) := by
    show resS w (N + 1) 2 (-2 * (w 1 * (-2 * b + -1 * w 1))) (-2 * (w 1 * -1)) = _
    rw [hz, show -2 * w 1 * w 1 = -(-2 * (w 1 * (-2 * 0 + -1 * w 1))) by grind, show -2 * w 1 = -(-2 * (w 1 * -1)) by grind, resS_neg]
    grind
   rw [e0]
   refine det_sums T hw N N (Nat.le_refl _) 2 _ _ _ _ _ _ (by exact Nat.le_antisymm (Nat.le_refl _) (Nat.le_refl _)) (by exact Nat.le_of_ble_eq_true rfl) hl2 hb2 he2 (by rw [hC]; grind) fun i j h1 h2 h3 h4 => ?_
   unfold stepM
   rw [if_pos ⟨by exact h1, by exact h3⟩]
   have hi' : hS dl w (N + 2) 1 i = d01 dl 1 i * w 1 + hS dl w (N + 1) 2 i := rfl
   have hj' : hS dl w (N + 2) 1 j = d01 dl 1 j * w 1 + hS dl w (N + 1) 2 j := rfl
   have hs' : sS dl w (N + 2) 1 i j = d01 dl 1 i * d01 dl 1 j * w 1 + sS dl w (N + 1) 2 i j := rfl
   have e3 : C 1 1 * C i j - C i 1 * C 1 j = M 1 0 * (-2 * w 1 * w 1 * sS dl w (N + 1) 2 i j + -2 * w 1 * hS dl w (N + 1) 2 i * hS dl w (N + 1) 2 j) := by
    rw [hC, c2 i j (by exact h1) h2 (by exact dl1 1 0 2 0 h3 rfl) h4, c2 i 1 (by exact h1) h2 (by exact Nat.le_of_ble_eq_true rfl) (by exact dl1 2 3 0 0 (Nat.zero_le _) rfl), c1 j (by exact dl1 1 0 2 0 h3 rfl) h4, hP, hgen i j h2 h4, hgen 1 j (by exact dl1 2 3 0 0 (Nat.zero_le _) rfl) h4, hgen i 1 h2 (by exact dl1 2 3 0 0 (Nat.zero_le _) rfl), hgen 1 1 (by exact dl1 2 3 0 0 (Nat.zero_le _) rfl) (by exact dl1 2 3 0 0 (Nat.zero_le _) rfl), hs1, hs1, sS_comm (N + 2) 1 1 j, hs1, hh1, dvv, hz, hi', hj', hs']
    grind
   rw [e3, Int.mul_fdiv_cancel_left _ (by rw [hP]; exact hv)]
 · refine det_step (n := N + 2 + 1) (m := N + 1) (k := 0) (p := 0) (e := e) (M := M) (t := 1) (l := 1) ⟨by exact Nat.le_of_ble_eq_true rfl, by exact dl1 1 3 0 0 (Nat.zero_le _) rfl, by rw [h00]; exact hz⟩ (fun q h1 h2 => no h1 h2) one0 hb he fun hl' hb' he' => ?_
   rw [if_pos rfl]
   rw [swap_same] at hb' ⊢
   have key := det_sums T hw (N + 1) (N + 1) (Nat.le_refl _) 1 (2 * e + 1) (stepM 0 1 M) 1 (M 0 0) (-2 * b) (-1) (by exact Nat.le_antisymm (Nat.le_refl _) (Nat.le_refl _)) (Nat.le_refl _) hl' hb' he' (by rw [h00]) fun i j h1 h2 h3 h4 => by
    unfold stepM
    rw [if_pos ⟨by exact h1, by exact h3⟩, h00, hgen i j h2 h4, hi0 i h2, h0j j h4, Int.fdiv_one]
    grind
   rw [Int.one_mul] at key
   exact key
theorem resS_val : ∀ (c k : Nat) (S be : Int), resS w (c + 1) k (be * S) be = be * (-2) ^ c * (((List.range' k (c + 1)).map w).foldl (· * ·) 1) * (S + ((List.range' k (c + 1)).map w).sum)
 | 0, k, S, be => by
  show w k * (be * S + be * w k) = _
  simp
  grind
 | c + 1, k, S, be => by
  show resS w (c + 1) (k + 1) (-2 * (w k * (be * S + be * w k))) (-2 * (w k * be)) = _
  rw [show -2 * (w k * (be * S + be * w k)) = (-2 * (w k * be)) * (S + w k) by grind, resS_val c (k + 1)]
  rw [show List.range' k (c + 1 + 1) = k :: List.range' (k + 1) (c + 1) from rfl]
  simp only [List.map_cons, List.foldl_cons, List.sum_cons]
  have hf : ∀ (l : List Int) (a : Int), l.foldl (· * ·) a = a * l.foldl (· * ·) 1 := fun l => by
   induction l with
   | nil => intro a; simp
   | cons x r ih => intro a; simp only [List.foldl_cons]; rw [ih (a * x), ih (1 * x)]; grind
  rw [hf _ (1 * w k)]
  generalize List.foldl (· * ·) 1 (List.map w (List.range' (k + 1) (c + 1))) = p
  generalize (List.map w (List.range' (k + 1) (c + 1))).sum = q
  rw [Int.pow_succ]
  grind
end
end
section
theorem foldl_one (l : List Int) (a : Int) : l.foldl (· * ·) a = a * l.foldl (· * ·) 1 := by
 induction l generalizing a with
 | nil => simp
 | cons x r ih => simp only [List.foldl_cons]; rw [ih (a * x), ih (1 * x)]; grind
theorem prodI_cons (x : Int) (l : List Int) : prodI (x :: l) = x * prodI l := by
 unfold prodI
 rw [List.foldl_cons, foldl_one, Int.one_mul]
noncomputable def dlOf (R : List (List Nat)) (m i : Nat) : Bool := (R.getD i []).contains m
noncomputable def wOf (W : List Int) (k : Nat) : Int := W.getD (k - 1) 0
theorem cell_sum (W : List Int) (R : List (List Nat)) (i j : Nat) : ∀ (c k : Nat), (((List.range' k c).filter fun node => (R.getD i []).contains node != (R.getD j []).contains node).map fun node => W.getD (node - 1) 0).sum = xS (dlOf R) (wOf W) c k i j
 | 0, _ => rfl
 | c + 1, k => by
  rw [show List.range' k (c + 1) = k :: List.range' (k + 1) c from rfl, List.filter_cons]
  unfold xS
  rw [← cell_sum W R i j c (k + 1)]
  cases h : dlOf R k i != dlOf R k j with
  | true => rw [if_pos (show ((R.getD i []).contains k != (R.getD j []).contains k) = true from h), if_pos rfl, List.map_cons, List.sum_cons]; rfl
  | false => rw [if_neg (by rw [show ((R.getD i []).contains k != (R.getD j []).contains k) = false from h]; decide), if_neg (by decide)]; simp
theorem cell_prod (W : List Int) (R : List (List Nat)) (i j : Nat) : ∀ (c k : Nat), prodI (((List.range' k c).filter fun node => (R.getD i []).contains node != (R.getD j []).contains node).map fun node => W.getD (node - 1) 0) = uP (dlOf R) (wOf W) c k i j
 | 0, _ => rfl
 | c + 1, k => by
  rw [show List.range' k (c + 1) = k :: List.range' (k + 1) c from rfl, List.filter_cons]
  unfold uP
  rw [← cell_prod W R i j c (k + 1)]
  cases h : dlOf R k i != dlOf R k j with
  | true => rw [if_pos (show ((R.getD i []).contains k != (R.getD j []).contains k) = true from h), if_pos rfl, List.map_cons, prodI_cons]; rfl
  | false => rw [if_neg (by rw [show ((R.getD i []).contains k != (R.getD j []).contains k) = false from h]; decide), if_neg (by decide)]; simp
theorem map_mat {R : List (List Nat)} {f : List Nat → List Nat → Int} {i j : Nat} (hi : i < R.length) (hj : j < R.length) : matAt (R.map fun one => R.map fun other => f one other) i j = f (R.getD i []) (R.getD j []) := by
 unfold matAt
 have e1 : (R.map fun one => R.map fun other => f one other).getD i [] = R.map fun other => f R[i] other := by
  rw [List.getD_eq_getElem?_getD, List.getElem?_map, List.getElem?_eq_getElem hi]; rfl
 rw [e1, List.getD_eq_getElem?_getD, List.getElem?_map, List.getElem?_eq_getElem hj, List.getD_eq_getElem?_getD, List.getD_eq_getElem?_getD, List.getElem?_eq_getElem hi, List.getElem?_eq_getElem hj]
 rfl
theorem sums_at {b : Int} {W : List Int} {R : List (List Nat)} {i j : Nat} (hi : i < R.length) (hj : j < R.length) : matAt (sumsOf b W R) i j = b + xS (dlOf R) (wOf W) (R.length - 1) 1 i j := by
 have e : sumsOf b W R = R.map fun one => R.map fun other => b + (cellOf W R one other).sum := by unfold sumsOf apartOf; rw [List.map_map]; refine List.map_congr_left fun one _ => ?_; show List.map _ (List.map _ _) = _; rw [List.map_map]; rfl
 rw [e, map_mat (f := fun one other => b + (cellOf W R one other).sum) hi hj, ← cell_sum]
 rfl
theorem prods_at {b : Int} {W : List Int} {R : List (List Nat)} {i j : Nat} (hi : i < R.length) (hj : j < R.length) : matAt (prodsOf b W R) i j = b * uP (dlOf R) (wOf W) (R.length - 1) 1 i j := by
 have e : prodsOf b W R = R.map fun one => R.map fun other => b * prodI (cellOf W R one other) := by unfold prodsOf apartOf; rw [List.map_map]; refine List.map_congr_left fun one _ => ?_; show List.map _ (List.map _ _) = _; rw [List.map_map]; rfl
 rw [e, map_mat (f := fun one other => b * prodI (cellOf W R one other)) hi hj, ← cell_prod]
 rfl
structure TreeR (R : List (List Nat)) : Prop where
 tree : Tree (dlOf R) R.length
 par : ∀ m, 1 ≤ m → m < R.length → ∃ a, a < m ∧ ∀ l, 1 ≤ l → l < R.length → l ≠ m → dlOf R l m = dlOf R l a
theorem range_w {W : List Int} : (List.range' 1 W.length).map (wOf W) = W := by
 refine List.ext_getElem (by simp) fun i h1 h2 => ?_
 simp only [List.getElem_map, List.getElem_range']
 unfold wOf
 rw [show 1 + 1 * i - 1 = i from (by rw [Nat.one_mul, Nat.add_comm]; rfl), List.getD_eq_getElem?_getD, List.getElem?_eq_getElem h2]; rfl
theorem det1_ok {b : Int} {W : List Int} {R : List (List Nat)} (T : TreeR R) (hR : R.length = W.length + 1) (hW : W.length = 4 ∨ W.length = 5) (hw : ∀ w ∈ W, w.natAbs ≤ 20) (hb : b.natAbs ≤ 20) : DetRun R.length (R.length - 1) 0 (matAt (sumsOf b W R)) 1 1 (dueSums b W) := by
 have hB : Bnd R.length 8 (matAt (sumsOf b W R)) := fun i j hi hj => by
  have e : sumsOf b W R = R.map fun one => R.map fun other => b + (cellOf W R one other).sum := by unfold sumsOf apartOf; rw [List.map_map]; refine List.map_congr_left fun one _ => ?_; show List.map _ (List.map _ _) = _; rw [List.map_map]; rfl
  rw [e, map_mat (f := fun one other => b + (cellOf W R one other).sum) hi hj]
  obtain ⟨h1, h2⟩ := cell_small (R := R) (one := R.getD i []) (other := R.getD j []) hw
  have h3 : (cellOf W R (R.getD i []) (R.getD j [])).sum.natAbs ≤ 20 * (cellOf W R (R.getD i []) (R.getD j [])).length := by
   have : ∀ l : List Int, (∀ n ∈ l, n.natAbs ≤ 20) → l.sum.natAbs ≤ 20 * l.length := fun l => by
    induction l with
    | nil => intro _; simp
    | cons x r ih =>
     intro h
     have q1 := ih fun n hn => h n (List.mem_cons_of_mem _ hn)
     have q2 := h x List.mem_cons_self
     rw [List.sum_cons, List.length_cons]
     exact ab1 q1 q2
   exact this _ h1
  show (b + (cellOf W R (R.getD i []) (R.getD j [])).sum).natAbs ≤ 256
  exact ab2 hb h3 (Nat.le_trans h2 (by rw [hR]; exact n45 hW)) (by decide)
 by_cases hz : ∀ i, 1 ≤ i → i < R.length → wOf W i ≠ 0
 · obtain ⟨N, hN⟩ : ∃ N, W.length = N + 2 := ⟨W.length - 2, (Nat.sub_add_cancel (Nat.le_trans (by decide) (n45' hW))).symm⟩
   have hRN : R.length = N + 2 + 1 := by exact Nat.le_antisymm (dl2 0 3 0 1 0 2 (Nat.le_of_eq hR) (Nat.le_of_eq hN) rfl) (dl2 3 0 2 0 1 0 (Nat.le_of_eq hN.symm) (Nat.le_of_eq hR.symm) rfl)
   have T' := T.tree
   rw [hRN] at T' hz hB ⊢
   have key := det_sums0 (b := b) T' hz (fun i j hi hj => by
    have := sums_at (b := b) (W := W) (R := R) (i := i) (j := j) (by exact dl2 1 0 1 3 3 0 hi (Nat.le_of_eq hRN.symm) rfl) (by exact dl2 1 0 1 3 3 0 hj (Nat.le_of_eq hRN.symm) rfl)
    rw [hRN] at this
    exact this) hB (by
     have : N = 2 ∨ N = 3 := n23 hW hN
     rcases this with rfl | rfl <;> decide)
   have e : resS (wOf W) (N + 2) 1 (-2 * b) (-1) = dueSums b W := by
    rw [show -2 * b = -1 * (2 * b) by grind, resS_val (N + 1) 1 (2 * b) (-1), show N + 1 + 1 = W.length by exact Nat.le_antisymm (Nat.le_of_eq hN.symm) (Nat.le_of_eq hN), range_w]
    unfold dueSums
    rw [hN]
    show -1 * (-2) ^ (N + 1) * prodI W * _ = _
    have : N = 2 ∨ N = 3 := n23 hW hN
    rcases this with rfl | rfl
    · show -1 * (-2) ^ 3 * _ * _ = (-1) ^ 4 * 2 ^ 3 * _ * _
      grind
    · show -1 * (-2) ^ 4 * _ * _ = (-1) ^ 5 * 2 ^ 4 * _ * _
      grind
   rw [e] at key
   exact key
 · have hz' : ∃ i, 1 ≤ i ∧ i < R.length ∧ wOf W i = 0 := by
    by_cases h : ∃ i, 1 ≤ i ∧ i < R.length ∧ wOf W i = 0
    · exact h
    · exact absurd (fun i h1 h2 h3 => h ⟨i, h1, h2, h3⟩) hz
   obtain ⟨i, h1, h2, h3⟩ := hz'
   have hp : dueSums b W = 0 := by
    have hi : i - 1 < W.length := by rw [hR] at h2; exact Nat.lt_of_lt_of_le (Nat.sub_lt h1 Nat.one_pos) (Nat.le_of_lt_succ h2)
    have hmem : (0 : Int) ∈ W := by
     have : W[i - 1] = 0 := by
      unfold wOf at h3
      rw [List.getD_eq_getElem?_getD, List.getElem?_eq_getElem hi] at h3
      exact h3
     rw [← this]; exact List.getElem_mem hi
    have : prodI W = 0 := by
     have : ∀ l : List Int, (0 : Int) ∈ l → prodI l = 0 := fun l => by
      induction l with
      | nil => intro h; cases h
      | cons x r ih =>
       intro h
       rw [prodI_cons]
       rcases List.mem_cons.mp h with h | h
       · rw [← h, Int.zero_mul]
       · rw [ih h, Int.mul_zero]
     exact this W hmem
    unfold dueSums
    rw [this]; grind
   rw [hp]
   obtain ⟨a, ha, hpar⟩ := T.par i h1 h2
   refine det_cols ha h2 (R.length - 1) 0 8 _ 1 1 (by rw [hR]; rfl) ⟨by decide, by decide⟩ hB ?_ (.inl ⟨Nat.zero_le _, fun r _ hr => ?_⟩)
   · rcases hW with h | h <;> rw [hR, h] <;> decide
   · rw [sums_at hr (by exact dl2 1 0 1 0 1 0 ha h2 rfl), sums_at hr h2, xS_congr _ _ _ a i fun l q1 q2 => ?_]
     by_cases hl : l = i
     · exact .inl (hl ▸ h3)
     · exact .inr (hpar l q1 (by rw [hR] at q2 ⊢; exact Nat.lt_of_lt_of_eq q2 (Nat.add_comm _ _)) hl).symm
theorem gP_val (W : List Int) (b : Int) (w : Nat → Int) : ∀ (c k : Nat), gP w b c k = b ^ c * prodI ((List.range' k c).map fun m => 1 - w m * w m)
 | 0, _ => by simp [gP, prodI]
 | c + 1, k => by
  rw [show List.range' k (c + 1) = k :: List.range' (k + 1) c from rfl, List.map_cons, prodI_cons]
  unfold gP
  rw [gP_val W b w c (k + 1), Int.pow_succ]
  grind
theorem det2_ok {b : Int} {W : List Int} {R : List (List Nat)} (T : TreeR R) (hR : R.length = W.length + 1) (hW : W.length = 4 ∨ W.length = 5) (hw : ∀ w ∈ W, w.natAbs ≤ 20) (hb : b.natAbs ≤ 20) : DetRun R.length (R.length - 1) 0 (matAt (prodsOf b W R)) 1 1 (dueProds b W) := by
 have hB : Bnd R.length 27 (matAt (prodsOf b W R)) := fun i j hi hj => by
  have e : prodsOf b W R = R.map fun one => R.map fun other => b * prodI (cellOf W R one other) := by unfold prodsOf apartOf; rw [List.map_map]; refine List.map_congr_left fun one _ => ?_; show List.map _ (List.map _ _) = _; rw [List.map_map]; rfl
  rw [e, map_mat (f := fun one other => b * prodI (cellOf W R one other)) hi hj]
  obtain ⟨h1, h2⟩ := cell_small (R := R) (one := R.getD i []) (other := R.getD j []) hw
  have h3 : (prodI (cellOf W R (R.getD i []) (R.getD j []))).natAbs ≤ 1 * 20 ^ (cellOf W R (R.getD i []) (R.getD j [])).length := foldl_small _ 1 h1
  have h4 : 20 ^ (cellOf W R (R.getD i []) (R.getD j [])).length ≤ 20 ^ 5 := Nat.pow_le_pow_right (by decide) (Nat.le_trans h2 (by rw [hR]; exact n45 hW))
  rw [Int.natAbs_mul]
  have h5 : b.natAbs * (prodI (cellOf W R (R.getD i []) (R.getD j []))).natAbs ≤ 20 * 20 ^ 5 := Nat.mul_le_mul hb (Nat.le_trans h3 (by rw [Nat.one_mul]; exact h4))
  exact Nat.le_trans h5 (by decide)
 obtain ⟨N, hN⟩ : ∃ N, W.length = N + 1 := ⟨W.length - 1, sb1' (Nat.le_trans (by decide) (n45' hW))⟩
 have hRN : R.length = N + 1 + 1 := by exact Nat.le_antisymm (dl2 0 2 0 1 0 1 (Nat.le_of_eq hR) (Nat.le_of_eq hN) rfl) (dl2 2 0 1 0 1 0 (Nat.le_of_eq hN.symm) (Nat.le_of_eq hR.symm) rfl)
 have T' := T.tree
 have hval : dueProds b W = b * gP (wOf W) b (N + 1) 1 := by
  unfold dueProds
  have e := range_w (W := W)
  rw [gP_val W]
  have e2 : W.map (fun w => 1 - w * w) = (List.range' 1 (N + 1)).map fun m => 1 - wOf W m * wOf W m := by
   conv => lhs; rw [← e, List.map_map]
   rw [hN]; rfl
  rw [e2, hN, Int.pow_succ b (N + 1)]
  grind
 rw [hval]
 have hM : ∀ i j, i < N + 1 + 1 → j < N + 1 + 1 → matAt (prodsOf b W R) i j = b * uP (dlOf R) (wOf W) (N + 1) 1 i j := fun i j hi hj => by
  have := prods_at (b := b) (W := W) (R := R) (i := i) (j := j) (by exact dl2 1 0 1 2 2 0 hi (Nat.le_of_eq hRN.symm) rfl) (by exact dl2 1 0 1 2 2 0 hj (Nat.le_of_eq hRN.symm) rfl)
  rw [hRN] at this
  exact this
 rw [hRN] at T' hB ⊢
 generalize matAt (prodsOf b W R) = M at *
 have up0 : ∀ m, 1 ≤ m → m < 1 + (N + 1) → dlOf R m 0 = false := fun m h1 h2 => T'.up m 0 h1 (Nat.lt_of_lt_of_eq h2 (Nat.add_comm _ _))
 have hi0 : ∀ i, i < N + 1 + 1 → M i 0 = b * hP (dlOf R) (wOf W) (N + 1) 1 i := fun i hi => by rw [hM i 0 hi (by exact dl1 1 2 0 0 (Nat.zero_le _) rfl), uP_none _ _ _ _ up0]
 have h0j : ∀ j, j < N + 1 + 1 → M 0 j = b * hP (dlOf R) (wOf W) (N + 1) 1 j := fun j hj => by rw [hM 0 j (by exact dl1 1 2 0 0 (Nat.zero_le _) rfl) hj, uP_comm, uP_none _ _ _ _ up0]
 have h00 : M 0 0 = b := by rw [hM 0 0 (by exact dl1 1 2 0 0 (Nat.zero_le _) rfl) (by exact dl1 1 2 0 0 (Nat.zero_le _) rfl), uP_self, Int.mul_one]
 have hbz : (27 + 1) * 2 ^ (N + 1) ≤ 1000 := by
  have : N = 3 ∨ N = 4 := n34 hW hN
  rcases this with rfl | rfl <;> decide
 show DetRun (N + 1 + 1) (N + 1) 0 M 1 1 _
 by_cases hz : b = 0
 · rw [hz, Int.zero_mul]
   exact .zero fun p _ hp => by rw [hi0 p hp, hz, Int.zero_mul]
 · refine det_step (n := N + 1 + 1) (m := N) (k := 0) (p := 0) (e := 27) (M := M) (t := 1) (l := 1) ⟨by exact Nat.le_of_ble_eq_true rfl, by exact dl1 1 2 0 0 (Nat.zero_le _) rfl, by rw [h00]; exact hz⟩ (fun q h1 h2 => no h1 h2) ⟨by decide, by decide⟩ hB hbz fun hl' hb' he' => ?_
   rw [if_pos rfl]
   rw [swap_same] at hb' ⊢
   have key := det_prods (w := wOf W) T' b N 1 (2 * 27 + 1) (stepM 0 1 M) 1 (M 0 0) (by exact Nat.le_antisymm (Nat.le_refl _) (Nat.le_refl _)) (Nat.le_refl _) hl' hb' he' fun i j h1 h2 h3 h4 => by
    unfold stepM
    rw [if_pos ⟨by exact h1, by exact h3⟩, h00, hM i j h2 h4, hi0 i h2, h0j j h4, Int.fdiv_one]
    grind
   rw [Int.one_mul, h00] at key
   rw [h00]
   exact key
end
section
noncomputable def numOf (w : List Nat) : Option Int :=
 if w.length ≤ 600 ∧ (unS (Txt.rstripChars (toS w) (toS digitsS))).length ≤ w.length then
  match PySem.intText? (toS (w.drop (unS (Txt.rstripChars (toS w) (toS digitsS))).length)) with
  | some m => if (if Txt.endswith (toS (unS (Txt.rstripChars (toS w) (toS digitsS)))) (toS ampS) then -m else m).natAbs < 2 ^ 64 then some (if Txt.endswith (toS (unS (Txt.rstripChars (toS w) (toS digitsS)))) (toS ampS) then -m else m) else none
  | none => none
 else none
set_option tactic.hygienic true in
theorem hnum_ok : ∀ (G : Gl), IsG G → ∀ (k : Nat) (σ : St) (w : List Nat) (m : Int), k < 40 → numOf w = some m → m.natAbs < 2 ^ 64 ∧ Cal G k σ (.ref 190) [.str w] (.int m) := by
 intro G g k σ w m hk h
 unfold numOf at h
 split at h
 · rename_i hw
   split at h
   · rename_i m' hm
     have hc := cal_number (σ := σ) g hk hw.1 rfl hw.2 hm
     generalize (if Txt.endswith (toS (unS (Txt.rstripChars (toS w) (toS digitsS)))) (toS ampS) then -m' else m') = r at h hc
     by_cases hs : r.natAbs < 2 ^ 64
     · rw [if_pos hs] at h
       cases h
       exact ⟨hs, hc⟩
     · rw [if_neg hs] at h
       cases h
   · cases h
 · cases h
theorem num_finA : ∀ h : Fin 5, ∀ m : Fin 8, ∀ w : Fin 41, fL (spelled h.val (wordMW m.val w.val)) (fun x => decide (numOf x = some ((w.val : Int) - 20))) = true := by decide +kernel
theorem num_fin (h : Fin 5) (m : Fin 8) (w : Fin 41) : numOf (spelled h.val (wordMW m.val w.val)) = some ((w.val : Int) - 20) := of_decide_eq_true ((fL_eq _ _).symm.trans (num_finA h m w))
theorem num_word (d : Nat) : numOf (spelled (handOf d) (wordOf d)) = some (wayOf d) :=
 num_fin ⟨handOf d, hand_lt d⟩ ⟨d / 2460 % 8, Nat.mod_lt _ (by decide)⟩ ⟨d / 60 % 41, Nat.mod_lt _ (by decide)⟩
theorem strOk_all (x : List Nat) (h : x.all (fun c => Nat.blt c 1114112) = true) : PyData.strOk (toS x) = true := by
 unfold PyData.strOk toS
 rw [List.all_eq_true] at h
 simp only [List.all_toArray', List.all_eq_true, decide_eq_true_eq]
 exact fun c hc => Nat.le_of_ble_eq_true (h c hc)
theorem word_finA : ∀ h : Fin 5, ∀ m : Fin 8, ∀ w : Fin 41, fL (spelled h.val (wordMW m.val w.val)) (fun x => x != [40] && (x != [41] && x.all (fun c => Nat.blt c 1114112))) = true := by decide +kernel
theorem word_fin2 (h : Fin 5) (m : Fin 8) (w : Fin 41) : spelled h.val (wordMW m.val w.val) ≠ [40] ∧ spelled h.val (wordMW m.val w.val) ≠ [41] ∧ PyData.strOk (toS (spelled h.val (wordMW m.val w.val))) = true := by
 have := word_finA h m w
 rw [fL_eq, Bool.and_eq_true, Bool.and_eq_true] at this
 exact ⟨ne_of_beq_false (Bool.not_eq_true' _ ▸ this.1), ne_of_beq_false (Bool.not_eq_true' _ ▸ this.2.1), strOk_all _ this.2.2⟩
theorem word_not (d : Nat) : spelled (handOf d) (wordOf d) ≠ [40] ∧ spelled (handOf d) (wordOf d) ≠ [41] ∧ PyData.strOk (toS (spelled (handOf d) (wordOf d))) = true :=
 word_fin2 ⟨handOf d, hand_lt d⟩ ⟨d / 2460 % 8, Nat.mod_lt _ (by decide)⟩ ⟨d / 60 % 41, Nat.mod_lt _ (by decide)⟩
theorem draw_pos (ns : List Int) (j : Nat) : 0 ≤ drawAt ns j := by
 unfold drawAt
 have h1 : 0 ≤ ownOf.getD j 0 := by
  match j with
  | 0 | 1 | 2 | 3 | 4 => decide
  | n + 5 => exact Int.le_refl 0
 have h2 : ∀ l : List Int, 0 ≤ (l.map fun x => x.fmod 1000000).sum := fun l => by
  induction l with
  | nil => exact Int.le_refl 0
  | cons x r ih =>
   rw [List.map_cons, List.sum_cons]
   have := Int.fmod_nonneg_of_pos x (b := 1000000) (by decide)
   omega
 have := h2 (pickG ns (some (j : Int)) none (some (manyOf ns : Int)))
 omega
noncomputable def dsOf (ns : List Int) : List Nat := (drawsOf ns).map Int.toNat
theorem ds_draws (ns : List Int) : drawsOf ns = (dsOf ns).map fun d : Nat => (d : Int) := by
 unfold dsOf
 rw [List.map_map]
 refine List.ext_getElem (by simp) fun i h1 h2 => ?_
 simp only [List.getElem_map, Function.comp]
 have h3 : i < manyOf ns := by simpa [drawsOf] using h1
 have : (drawsOf ns)[i] = drawAt ns i := by simp [drawsOf]
 rw [this, Int.toNat_of_nonneg (draw_pos ns i)]
theorem ds_few (ns : List Int) : (dsOf ns).length = 4 ∨ (dsOf ns).length = 5 := by
 unfold dsOf drawsOf
 simp only [List.length_map, List.length_range]
 unfold manyOf; split <;> simp
theorem beg_small (ns : List Int) : (begOf ns).natAbs ≤ 20 := by
 unfold begOf
 have h1 := Int.fmod_nonneg_of_pos (ns.map fun x : Int => x.fmod 1000000).sum (b := 15) (by decide)
 have h2 := Int.fmod_lt_of_pos (ns.map fun x : Int => x.fmod 1000000).sum (b := 15) (by decide)
 exact n15 h1 h2
theorem ways_run : ∀ (ds : List Nat) (S : PgS), (ds.foldl pgStep S).ways = S.ways ++ ds.map wayOf
 | [], S => by simp
 | d :: r, S => by
  rw [List.foldl_cons, ways_run r]
  show (S.ways ++ [wayOf d]) ++ _ = _
  simp
theorem waysOf_eq (ds : List Nat) : waysOf ds = ds.map wayOf := by
 unfold waysOf pgRun
 rw [ways_run]; rfl
theorem way_small (d : Nat) : (wayOf d).natAbs ≤ 20 := na20 (w20 (Nat.mod_lt _ (by decide)))
end
section
inductive Tk where
 | op
 | cl
 | pc (d : Nat)
noncomputable def Tk.text : Tk → List Nat
 | .op => [40, 32]
 | .cl => [41, 32]
 | .pc d => dressed (bareOf d) (escOf (handOf d) (wordOf d)) ++ [32]
noncomputable def Tk.word : Tk → List Nat
 | .op => [40]
 | .cl => [41]
 | .pc d => spelled (handOf d) (wordOf d)
noncomputable def tkStep (S : List Tk × Nat) (d : Nat) : List Tk × Nat := (S.1 ++ (List.replicate (d % S.2) .cl ++ [.op, .pc d]), S.2 - d % S.2 + 1)
noncomputable def tkRun (ds : List Nat) : List Tk × Nat := ds.foldl tkStep ([.op], 1)
noncomputable def tksOf (ds : List Nat) : List Tk := (tkRun ds).1 ++ List.replicate (tkRun ds).2 .cl
theorem text_shuts (n : Nat) : (List.replicate n Tk.cl).flatMap Tk.text = shutsP n := by
 induction n with
 | zero => rfl
 | succ n ih => rw [List.replicate_succ, List.flatMap_cons, ih]; rfl
theorem word_shuts (n : Nat) : (List.replicate n Tk.cl).map Tk.word = List.replicate n [41] := by rw [List.map_replicate]; rfl
theorem tk_run : ∀ (ds : List Nat) (S : PgS) (T : List Tk × Nat), S.page = T.1.flatMap Tk.text → S.due = T.1.map Tk.word → S.deep = T.2 →
 (ds.foldl pgStep S).page = (ds.foldl tkStep T).1.flatMap Tk.text ∧ (ds.foldl pgStep S).due = (ds.foldl tkStep T).1.map Tk.word ∧ (ds.foldl pgStep S).deep = (ds.foldl tkStep T).2
 | [], S, T, h1, h2, h3 => ⟨h1, h2, h3⟩
 | d :: r, S, T, h1, h2, h3 => by
  rw [List.foldl_cons, List.foldl_cons]
  refine tk_run r _ _ ?_ ?_ ?_
  · unfold pgStep tkStep
    rw [h1, h3]
    simp only [List.flatMap_append, text_shuts, List.flatMap_cons, List.flatMap_nil, List.append_assoc, List.append_nil]
    rfl
  · unfold pgStep tkStep
    rw [h2, h3]
    simp only [List.map_append, word_shuts, List.append_assoc]
    rfl
  · unfold pgStep tkStep
    rw [h3]
theorem page_tks (ds : List Nat) : pageOf ds = (tksOf ds).flatMap Tk.text := by
 have h := tk_run ds pg0 ([.op], 1) rfl rfl rfl
 unfold pageOf pgRun tksOf tkRun
 rw [h.1, h.2.2, List.flatMap_append, text_shuts]
theorem due_tks (ds : List Nat) : dueOf ds = (tksOf ds).map Tk.word := by
 have h := tk_run ds pg0 ([.op], 1) rfl rfl rfl
 unfold dueOf pgRun tksOf tkRun
 rw [h.2.1, h.2.2, List.map_append, word_shuts]
noncomputable def lineN (c : Nat) (n : Nat) : Nat := if c = 10 then n + 1 else n
theorem lineN_of (c n : Nat) (l : Int) : lineOf c (l + (n : Nat)) = l + (lineN c n : Nat) := by
 unfold lineOf lineN; split <;> omega
noncomputable def sN (stop : Nat → Bool) : List Nat → Nat → List Nat → Option (List Nat × List Nat × Nat)
 | [], _, _ => none
 | [c], n, tok => if stop c then some (tok, [], lineN c n) else none
 | c :: d :: r, n, tok => if stop c then some (tok, d :: r, lineN c n) else if c = 92 then sN stop r (lineN d (lineN c n)) (tok ++ [d]) else sN stop (d :: r) (lineN c n) (tok ++ [c])
set_option tactic.hygienic true in
theorem sN_go {stop : Nat → Bool} (l : Int) (r : List Nat) : ∀ (x : List Nat) (n : Nat) (tok t rest : List Nat) (n' : Nat), sN stop x n tok = some (t, rest, n') → sGo stop (x ++ r) (l + (n : Nat)) tok = (t, rest ++ r, l + (n' : Nat))
 | [], n, tok, t, rest, n', h => nomatch h
 | [c], n, tok, t, rest, n', h => by
  unfold sN at h
  split at h
  · rename_i hs
    cases h
    cases r with
    | nil => simp only [List.append_nil]; unfold sGo; rw [if_pos hs, lineN_of]
    | cons e r => simp only [List.cons_append, List.nil_append]; unfold sGo; rw [if_pos hs, lineN_of]
  · cases h
 | c :: d :: x, n, tok, t, rest, n', h => by
  unfold sN at h
  simp only [List.cons_append]
  unfold sGo
  split at h
  · rename_i hs
    cases h
    rw [if_pos hs, lineN_of]; rfl
  · rename_i hs
    rw [if_neg hs]
    split at h
    · rename_i hc
      rw [if_pos hc, lineN_of, lineN_of]
      exact sN_go l r x _ _ _ _ _ h
    · rename_i hc
      rw [if_neg hc, lineN_of]
      exact sN_go l r (d :: x) _ _ _ _ _ h
noncomputable def tN : List Nat → Nat → Option (List Nat × List Nat × Nat)
 | [], _ => none
 | [c], n => none
 | c :: d :: r, n => if isWs c then tN (d :: r) (lineN c n) else if c = 34 then sN (· == 34) (d :: r) (lineN c n) [] else if c = 92 then sN isWs r (lineN d (lineN c n)) [d] else sN isWs (d :: r) (lineN c n) [c]
set_option tactic.hygienic true in
theorem tN_go (l : Int) (r : List Nat) : ∀ (x : List Nat) (n : Nat) (t rest : List Nat) (n' : Nat), tN x n = some (t, rest, n') → tGo (x ++ r) (l + (n : Nat)) = (t, rest ++ r, l + (n' : Nat))
 | [], n, t, rest, n', h => nomatch h
 | [c], n, t, rest, n', h => nomatch h
 | c :: d :: x, n, t, rest, n', h => by
  unfold tN at h
  rw [List.cons_append]
  unfold tGo
  split at h
  · rename_i hs
    rw [if_pos hs, lineN_of]
    exact tN_go l r (d :: x) _ _ _ _ h
  · rename_i hs
    rw [if_neg hs]
    split at h
    · rename_i hc
      rw [if_pos hc, lineN_of]
      exact sN_go l r (d :: x) _ _ _ _ _ h
    · rename_i hc
      rw [if_neg hc]
      split at h
      · rename_i hb
        rw [if_pos hb, lineN_of]
        have : (nxt (d :: x ++ r, l + (lineN c n : Nat))).2 = l + (lineN d (lineN c n) : Nat) := by
         unfold nxt
         by_cases h1 : d = 10 <;> by_cases h2 : c = 10 <;> simp [lineN, h1, h2] <;> omega
        rw [this]
        exact sN_go l r x _ _ _ _ _ h
      · rename_i hb
        rw [if_neg hb, lineN_of]
        exact sN_go l r (d :: x) _ _ _ _ _ h
theorem piece_finA : ∀ h : Fin 5, ∀ m : Fin 8, ∀ w : Fin 41, ∀ b : Bool, fL (spelled h.val (wordMW m.val w.val)) (fun s => fL (dressed b (escOf h.val (wordMW m.val w.val)) ++ [32]) fun x => decide (tN x 0 = some (s, if b then [] else [32], x.count 10))) = true := by decide +kernel
theorem piece_fin (h : Fin 5) (m : Fin 8) (w : Fin 41) (b : Bool) : tN (dressed b (escOf h.val (wordMW m.val w.val)) ++ [32]) 0 = some (spelled h.val (wordMW m.val w.val), if b then [] else [32], (dressed b (escOf h.val (wordMW m.val w.val)) ++ [32]).count 10) := by
 have := piece_finA h m w b
 rw [fL_eq, fL_eq] at this
 exact of_decide_eq_true this
theorem tk_lex (t : Tk) : ∃ x, (x = [] ∨ x = [32]) ∧ tN t.text 0 = some (t.word, x, t.text.count 10) := by
 cases t with
 | op => exact ⟨[], .inl rfl, by decide⟩
 | cl => exact ⟨[], .inl rfl, by decide⟩
 | pc d =>
  refine ⟨if bareOf d then [] else [32], ?_, ?_⟩
  · split
    · exact .inl rfl
    · exact .inr rfl
  · exact piece_fin ⟨handOf d, hand_lt d⟩ ⟨d / 2460 % 8, Nat.mod_lt _ (by decide)⟩ ⟨d / 60 % 41, Nat.mod_lt _ (by decide)⟩ (bareOf d)
theorem tGo_sp (x r : List Nat) (l : Int) (hx : x = [] ∨ x = [32]) : tGo (x ++ r) l = tGo r l := by
 rcases hx with rfl | rfl
 · rfl
 · show tGo (32 :: r) l = _
   conv => lhs; unfold tGo
   rw [if_pos (by decide)]; rfl
theorem toks_go : ∀ (ts : List Tk) (x : List Nat) (l : Int), (x = [] ∨ x = [32]) → ∃ x', (x' = [] ∨ x' = [32]) ∧ toks ts.length (x ++ ts.flatMap Tk.text, l) = (ts.map Tk.word, x', l + ((ts.flatMap Tk.text).count 10 : Nat))
 | [], x, l, hx => ⟨x, hx, by simp [toks]⟩
 | t :: ts, x, l, hx => by
  obtain ⟨y, hy, ht⟩ := tk_lex t
  have h1 : tGo (x ++ (t :: ts).flatMap Tk.text) l = (t.word, y ++ ts.flatMap Tk.text, l + (t.text.count 10 : Nat)) := by
   rw [tGo_sp _ _ _ hx, List.flatMap_cons]
   have := tN_go l (ts.flatMap Tk.text) _ _ _ _ _ ht
   simpa using this
  obtain ⟨x', hx', h2⟩ := toks_go ts y (l + (t.text.count 10 : Nat)) hy
  refine ⟨x', hx', ?_⟩
  show ((tGo (x ++ (t :: ts).flatMap Tk.text) l).1 :: (toks ts.length (tGo (x ++ (t :: ts).flatMap Tk.text) l).2).1, (toks ts.length (tGo (x ++ (t :: ts).flatMap Tk.text) l).2).2) = _
  rw [h1]
  show (t.word :: (toks ts.length (y ++ ts.flatMap Tk.text, l + (t.text.count 10 : Nat))).1, (toks ts.length (y ++ ts.flatMap Tk.text, l + (t.text.count 10 : Nat))).2) = _
  rw [h2]
  have e : l + (t.text.count 10 : Nat) + ((ts.flatMap Tk.text).count 10 : Nat) = l + (((t :: ts).flatMap Tk.text).count 10 : Nat) := by
   rw [List.flatMap_cons, List.count_append]; omega
  rw [e]; rfl
theorem read_page (ds : List Nat) : readOf (pageOf ds) (dueOf ds).length = (dueOf ds, [], (1 : Int) + (((pageOf ds).count 10 : Nat) : Int)) := by
 obtain ⟨x, hx, h⟩ := toks_go (tksOf ds) [] 1 (.inl rfl)
 unfold readOf
 rw [due_tks, List.length_map, page_tks]
 rw [List.nil_append] at h
 rw [h]
 have : ∀ l : Int, tGo x l = ([], [], l) := fun l => by
  have := tGo_sp x [] l hx
  rw [List.append_nil] at this
  rw [this]; rfl
 simp only [this]
theorem join_count (c : Nat) : ∀ parts : List Str, parts ≠ [] → (∀ p ∈ parts, c ∉ p.cps.toList) → (Str.join ⟨#[c]⟩ parts).cps.toList.count c + 1 = parts.length
 | [], h, _ => absurd rfl h
 | [p], _, h => by
  have := List.count_eq_zero.mpr (h p (List.mem_singleton.mpr rfl))
  show p.cps.toList.count c + 1 = 1
  exact Nat.le_antisymm (dl1 1 1 0 0 (Nat.le_of_eq this) rfl) (dl1 1 1 0 0 (Nat.le_of_eq this.symm) rfl)
 | p :: q :: r, _, h => by
  have ih := join_count c (q :: r) (by simp) fun a ha => h a (List.mem_cons_of_mem _ ha)
  have h1 := List.count_eq_zero.mpr (h p (List.mem_cons_self ..))
  show (p ++ ⟨#[c]⟩ ++ Str.join ⟨#[c]⟩ (q :: r)).cps.toList.count c + 1 = _
  have h3 : (#[c] : Array Nat).toList.count c = 1 := by simp
  simp only [Str.cps_append, Array.toList_append, List.count_append, h1, h3]
  simp only [List.length_cons] at ih ⊢
  exact congrArg (· + 1) ((Nat.add_comm (0 + 1) _).trans ih)
set_option tactic.hygienic true in
theorem count_ten (x : List Nat) : Txt.count (toS x) (toS [10]) = ((x.count 10 : Nat) : Int) := by
 by_cases hx : x = []
 · subst hx; decide +kernel
 have h1 : (Txt.split (toS x) (toS [10])).length = (Builtin.Str.occurrences (toS x) (toS [10]) 0 (toS x).length ((toS x).length + 1)).length + 1 := by
  unfold Txt.split
  split
  · rename_i h
    simp only [Bool.or_eq_true, decide_eq_true_eq] at h
    rcases h with h | h
    · have : x.length < 1 := h
      exact absurd (List.length_eq_zero_iff.mp (by exact Nat.le_antisymm (dl1 0 0 1 1 this rfl) (Nat.zero_le _))) hx
    · have e : Builtin.Str.strKind (toS [10]) = 1 := by decide +kernel
      rw [e] at h
      unfold Builtin.Str.strKind at h
      split at h
      · omega
      · split at h <;> omega
  · split
    · rename_i h
      rw [List.isEmpty_iff] at h
      rw [h]; rfl
    · exact length_partsBetween _ _ _
 have h2 := join_count 10 (Txt.split (toS x) ⟨#[10]⟩) (fun e => by
  have : (Txt.split (toS x) (toS [10])).length = 0 := by rw [show Txt.split (toS x) (toS [10]) = [] from e]; rfl
  omega) (StrLaws.split_free (toS x) 10)
 rw [StrLaws.join_split] at h2
 have h3 : (toS x).cps.toList = x := by simp [toS]
 rw [h3] at h2
 have h4 : (Txt.split (toS x) ⟨#[10]⟩).length = (Txt.split (toS x) (toS [10])).length := rfl
 show (((Builtin.Str.occurrences (toS x) (toS [10]) 0 (toS x).length ((toS x).length + 1)).length : Nat) : Int) = _
 omega
theorem read_ok (ds : List Nat) : readOf (pageOf ds) (dueOf ds).length = (dueOf ds, [], 1 + Txt.count (toS (pageOf ds)) (toS [10])) := by
 rw [count_ten]; exact read_page ds
end
section
noncomputable def dueFrom : List Nat → Nat → List (List Nat)
 | [], deep => List.replicate deep [41]
 | d :: r, deep => List.replicate (d % deep) [41] ++ ([40] :: spelled (handOf d) (wordOf d) :: dueFrom r (deep - d % deep + 1))
theorem due_from : ∀ (ds : List Nat) (S : PgS), (ds.foldl pgStep S).due ++ List.replicate (ds.foldl pgStep S).deep [41] = S.due ++ dueFrom ds S.deep
 | [], S => rfl
 | d :: r, S => by
  rw [List.foldl_cons, due_from r]
  unfold pgStep
  simp only [dueFrom, List.append_assoc, List.cons_append, List.nil_append]
theorem dueOf_from (ds : List Nat) : dueOf ds = [40] :: dueFrom ds 1 := due_from ds pg0
noncomputable def shFrom : List Nat → Nat → List Nat
 | [], _ => []
 | d :: r, deep => d % deep :: shFrom r (deep - d % deep + 1)
noncomputable def shapes : Nat → Nat → List (List Nat)
 | 0, _ => [[]]
 | n + 1, deep => (List.range deep).flatMap fun s => (shapes n (deep - s + 1)).map (s :: ·)
theorem sh_in : ∀ (ds : List Nat) (deep : Nat), 1 ≤ deep → shFrom ds deep ∈ shapes ds.length deep
 | [], deep, _ => List.mem_singleton.mpr rfl
 | d :: r, deep, h => by
  rw [List.length_cons]
  unfold shapes shFrom
  rw [List.mem_flatMap]
  have h1 : d % deep < deep := Nat.mod_lt _ (by exact h)
  exact ⟨d % deep, List.mem_range.mpr h1, List.mem_map.mpr ⟨_, sh_in r _ (by exact dl1 1 1 0 0 (Nat.zero_le _) rfl), rfl⟩⟩
structure AbS where
 T : List (List (List Nat))
 A : List Nat
noncomputable def abUp (S : AbS) (s : Nat) : List Nat := S.A.take (S.A.length - s)
noncomputable def abRow (S : AbS) (s : Nat) : List (List Nat) := (S.T.getD ((abUp S s).getLastD 0) []).map (· ++ [S.T.length])
noncomputable def abStep (S : AbS) (s : Nat) : AbS := ⟨List.zipWith (fun r y => r ++ [y]) S.T (abRow S s) ++ [abRow S s ++ [[]]], abUp S s ++ [S.T.length]⟩
noncomputable def abRun (ss : List Nat) : AbS := ss.foldl abStep ⟨[[[]]], [0]⟩
structure AbOk (S : AbS) : Prop where
 pos : 1 ≤ S.T.length
 rows : ∀ r ∈ S.T, r.length = S.T.length
 ne : 1 ≤ S.A.length
 lt : ∀ a ∈ S.A, a < S.T.length
noncomputable def valL (f : Int → Int → Int) (b : Int) (W : List Int) (l : List Nat) : Int := l.foldl (fun a i => f a (W.getD (i - 1) 0)) b
theorem valL_snoc (f : Int → Int → Int) (b : Int) (W : List Int) (l : List Nat) (n : Nat) : valL f b W (l ++ [n]) = f (valL f b W l) (W.getD (n - 1) 0) := by unfold valL; rw [List.foldl_append]; rfl
noncomputable def valT (f : Int → Int → Int) (b : Int) (W : List Int) (T : List (List (List Nat))) : List (List Int) := T.map fun r => r.map (valL f b W)
theorem tab_shuts (f : Int → Int → Int) (num : List Nat → Option Int) (b : Int) (ws : List (List Nat)) (T : List (List Int)) : ∀ (s : Nat) (A : List Nat), s ≤ A.length → tabGo f num b (List.replicate s [41] ++ ws) T A = tabGo f num b ws T (A.take (A.length - s))
 | 0, A, _ => by simp
 | s + 1, A, h => by
  rw [List.replicate_succ, List.cons_append]
  conv => lhs; unfold tabGo
  rw [if_neg (by decide), if_pos rfl, if_neg (fun e => by rw [e] at h; cases h), tab_shuts f num b ws T s _ (by rw [List.length_dropLast]; exact dl2 0 0 1 0 0 1 h (@sbk A.length 1) rfl)]
  congr 1
  rw [List.dropLast_eq_take, List.take_take, List.length_take]
  congr 1
  exact sb2
theorem abUp_ok {S : AbS} (h : AbOk S) {s : Nat} (hs : s < S.A.length) : (abUp S s).length = S.A.length - s ∧ (∀ a ∈ abUp S s, a < S.T.length) ∧ ∃ a, (abUp S s).getLast? = some a ∧ (abUp S s).getLastD 0 = a ∧ a < S.T.length := by
 have h1 : (abUp S s).length = S.A.length - s := by unfold abUp; rw [List.length_take]; exact sb3
 have h2 : ∀ a ∈ abUp S s, a < S.T.length := fun a ha => h.lt a (List.mem_of_mem_take ha)
 refine ⟨h1, h2, ?_⟩
 have hne : abUp S s ≠ [] := fun e => by rw [e] at h1; exact no (Nat.le_of_sub_eq_zero h1.symm) hs
 refine ⟨(abUp S s).getLast hne, List.getLast?_eq_some_getLast hne, ?_, h2 _ (List.getLast_mem hne)⟩
 rw [List.getLastD_eq_getLast?, List.getLast?_eq_some_getLast hne]; rfl
theorem abRow_len {S : AbS} (h : AbOk S) {s : Nat} (hs : s < S.A.length) : (abRow S s).length = S.T.length := by
 obtain ⟨_, _, a, _, e, ha⟩ := abUp_ok h hs
 unfold abRow
 rw [List.length_map, e, List.getD_eq_getElem?_getD, List.getElem?_eq_getElem ha]
 exact h.rows _ (List.getElem_mem ha)
theorem abStep_ok {S : AbS} (h : AbOk S) {s : Nat} (hs : s < S.A.length) : AbOk (abStep S s) ∧ (abStep S s).T.length = S.T.length + 1 ∧ (abStep S s).A.length = S.A.length - s + 1 := by
 obtain ⟨h1, h2, _⟩ := abUp_ok h hs
 have hr := abRow_len h hs
 have hl : (abStep S s).T.length = S.T.length + 1 := by unfold abStep; simp [hr]
 refine ⟨⟨by omega, ?_, ?_, ?_⟩, hl, ?_⟩
 · rw [hl]
   intro r hr'
   unfold abStep at hr'
   rcases List.mem_append.mp hr' with hr' | hr'
   · obtain ⟨i, hi, e⟩ := List.mem_iff_getElem.mp hr'
     rw [List.getElem_zipWith] at e
     rw [← e, List.length_append, h.rows _ (List.getElem_mem _)]; rfl
   · rw [List.mem_singleton.mp hr', List.length_append, hr]; rfl
 · unfold abStep; simp
 · rw [hl]
   intro a ha
   unfold abStep at ha
   rcases List.mem_append.mp ha with ha | ha
   · have := h2 a ha; exact dl1 1 1 1 0 this rfl
   · rw [List.mem_singleton.mp ha]; exact Nat.le_refl _
 · unfold abStep; simp [h1]
theorem valT_at {f : Int → Int → Int} {b : Int} {W : List Int} {T : List (List (List Nat))} {a : Nat} (ha : a < T.length) : (valT f b W T)[a]? = some (T[a].map (valL f b W)) := by
 unfold valT
 rw [List.getElem?_map, List.getElem?_eq_getElem ha]; rfl
theorem valT_step (f : Int → Int → Int) (b : Int) (W : List Int) (S : AbS) (s : Nat) (m : Int) (hm : W.getD (S.T.length - 1) 0 = m) {a : Nat} (ea : (abUp S s).getLastD 0 = a) (ha : a < S.T.length) {row : List Int} (hr : S.T[a].map (valL f b W) = row) :
 valT f b W (abStep S s).T = List.zipWith (fun r y => r ++ [y]) (valT f b W S.T) (row.map (f · m)) ++ [row.map (f · m) ++ [b]] := by
 have e : (abRow S s).map (valL f b W) = row.map (f · m) := by
  unfold abRow
  rw [← hr, ea, List.getD_eq_getElem?_getD, List.getElem?_eq_getElem ha, List.map_map, List.map_map]
  refine List.map_congr_left fun l _ => ?_
  show valL f b W (l ++ [S.T.length]) = f (valL f b W l) m
  rw [valL_snoc, hm]
 unfold abStep valT
 rw [List.map_append, List.map_cons, List.map_nil, List.map_append, e]
 congr 1
 rw [List.map_zipWith, ← e, List.zipWith_map]
 simp
theorem tab_run (f : Int → Int → Int) (b : Int) (W : List Int) : ∀ (ds : List Nat) (S : AbS), AbOk S → W.drop (S.T.length - 1) = ds.map wayOf → tabGo f numOf b (dueFrom ds S.A.length) (valT f b W S.T) S.A = some (valT f b W ((shFrom ds S.A.length).foldl abStep S).T)
 | [], S, h, hW => by
  have := tab_shuts f numOf b [] (valT f b W S.T) S.A.length S.A (Nat.le_refl _)
  rw [List.append_nil] at this
  unfold dueFrom
  rw [this]; rfl
 | d :: r, S, h, hW => by
  have hs : d % S.A.length < S.A.length := Nat.mod_lt _ (by have := h.ne; exact this)
  obtain ⟨h1, h2, a, ea, ed, ha⟩ := abUp_ok h hs
  obtain ⟨k1, k2, k3⟩ := abStep_ok h hs
  unfold dueFrom shFrom
  rw [tab_shuts f numOf b _ _ _ _ (by exact dl1 0 0 1 0 hs rfl), List.foldl_cons, ← k3]
  have hlen : (valT f b W S.T).length = S.T.length := by unfold valT; simp
  have hm : W.getD (S.T.length - 1) 0 = wayOf d := by
   have : (W.drop (S.T.length - 1))[0]? = some (wayOf d) := by rw [hW]; rfl
   rw [List.getElem?_drop] at this
   rw [List.getD_eq_getElem?_getD, show S.T.length - 1 = S.T.length - 1 + 0 from rfl, this]; rfl
  have hW' : W.drop ((abStep S (d % S.A.length)).T.length - 1) = r.map wayOf := by
   rw [k2, show S.T.length + 1 - 1 = S.T.length - 1 + 1 from sb1' h.pos, ← List.drop_drop, hW]; rfl
  rw [← tab_run f b W r _ k1 hW']
  have hx := valT_at (f := f) (b := b) (W := W) ha
  generalize hrow : S.T[a].map (valL f b W) = row at hx
  have hrl : row.length = (valT f b W S.T).length := by
   rw [← hrow, List.length_map, hlen]; exact h.rows _ (List.getElem_mem ha)
  have hT := valT_step f b W S (d % S.A.length) _ hm ed ha hrow
  have hA : (abStep S (d % S.A.length)).A = abUp S (d % S.A.length) ++ [(valT f b W S.T).length] := by rw [hlen]; rfl
  rw [hT, hA]
  show tabGo f numOf b _ _ (abUp S (d % S.A.length)) = _
  conv => lhs; unfold tabGo
  rw [if_pos rfl]
  simp only [ea, hx, num_word, if_pos hrl]
  conv => lhs; unfold tabGo
  rw [if_neg (word_not d).1, if_neg (word_not d).2.1]
noncomputable def cellN (R : List (List Nat)) (one other : List Nat) : List Nat := (List.range' 1 (R.length - 1)).filter fun node => one.contains node != other.contains node
theorem tab_all (f : Int → Int → Int) (b : Int) (ds : List Nat) (R : List (List Nat)) (hT : (abRun (shFrom ds 1)).T = R.map fun one => R.map fun other => cellN R one other) :
 tabGo f numOf b (dueOf ds) [] [] = some (R.map fun one => R.map fun other => valL f b (waysOf ds) (cellN R one other)) := by
 rw [dueOf_from]
 conv => lhs; unfold tabGo
 rw [if_pos rfl]
 have h := tab_run f b (waysOf ds) ds ⟨[[[]]], [0]⟩ ⟨Nat.le_refl 1, fun r hr => by rw [List.mem_singleton.mp hr]; rfl, Nat.le_refl 1, fun a ha => by rw [List.mem_singleton.mp ha]; exact Nat.one_pos⟩ (by rw [waysOf_eq]; rfl)
 refine (show _ = _ from h).trans ?_
 show some (valT f b (waysOf ds) (abRun (shFrom ds 1)).T) = _
 rw [hT]
 unfold valT
 rw [List.map_map]
 congr 1
 refine List.map_congr_left fun one _ => ?_
 show List.map _ (List.map _ _) = _
 rw [List.map_map]; rfl
theorem valL_sum (b : Int) (W : List Int) (l : List Nat) : valL (· + ·) b W l = b + (l.map fun n => W.getD (n - 1) 0).sum := by
 induction l generalizing b with
 | nil => simp [valL]
 | cons n r ih =>
  show valL _ (b + W.getD (n - 1) 0) W r = _
  rw [ih, List.map_cons, List.sum_cons]; omega
theorem valL_prod (b : Int) (W : List Int) (l : List Nat) : valL (· * ·) b W l = b * prodI (l.map fun n => W.getD (n - 1) 0) := by
 have h : ∀ (l : List Int) (c : Int), l.foldl (· * ·) c = c * l.foldl (· * ·) 1 := fun l => by
  induction l with
  | nil => intro c; simp
  | cons n r ih => intro c; rw [List.foldl_cons, List.foldl_cons, ih, ih (1 * n), Int.one_mul, Int.mul_assoc]
 unfold valL prodI
 rw [← h, List.foldl_map]
theorem sums_ok (b : Int) (ds : List Nat) (R : List (List Nat)) (hT : (abRun (shFrom ds 1)).T = R.map fun one => R.map fun other => cellN R one other) : tabGo (· + ·) numOf b (dueOf ds) [] [] = some (sumsOf b (waysOf ds) R) := by
 rw [tab_all _ b ds R hT]
 unfold sumsOf apartOf
 rw [List.map_map]
 congr 1
 refine List.map_congr_left fun one _ => ?_
 show _ = List.map _ (List.map _ _)
 rw [List.map_map]
 refine List.map_congr_left fun other _ => ?_
 exact valL_sum _ _ _
theorem prods_ok (b : Int) (ds : List Nat) (R : List (List Nat)) (hT : (abRun (shFrom ds 1)).T = R.map fun one => R.map fun other => cellN R one other) : tabGo (· * ·) numOf b (dueOf ds) [] [] = some (prodsOf b (waysOf ds) R) := by
 rw [tab_all _ b ds R hT]
 unfold prodsOf apartOf
 rw [List.map_map]
 congr 1
 refine List.map_congr_left fun one _ => ?_
 show _ = List.map _ (List.map _ _)
 rw [List.map_map]
 refine List.map_congr_left fun other _ => ?_
 exact valL_prod _ _ _
noncomputable def rdStep (S : List (List Nat) × List Nat) (s : Nat) : List (List Nat) × List Nat := (S.1 ++ [(S.2.take (S.2.length - s)).drop 1 ++ [S.1.length]], S.2.take (S.2.length - s) ++ [S.1.length])
noncomputable def rdRun (ss : List Nat) : List (List Nat) := (ss.foldl rdStep ([[0]], [0])).1
theorem shape_tab : ∀ ss ∈ shapes 4 1 ++ shapes 5 1, (abRun ss).T = (rdRun ss).map fun one => (rdRun ss).map fun other => cellN (rdRun ss) one other := by decide +kernel
end
section
noncomputable def trB (R : List (List Nat)) : Bool :=
 let N := List.range R.length
 (N.all fun k => k == 0 || dlOf R k k)
 && (N.all fun m => (List.range m).all fun i => !dlOf R m i)
 && (N.all fun k => k == 0 || N.all fun i => N.all fun j => !(dlOf R k i != dlOf R k j) || N.all fun m => !decide (k < m) || !(dlOf R m i && dlOf R m j))
 && (N.all fun m => m == 0 || (List.range m).any fun a => N.all fun l => l == 0 || l == m || dlOf R l m == dlOf R l a)
theorem trB_tree {R : List (List Nat)} (h : trB R = true) : TreeR R := by
 unfold trB at h
 simp only [Bool.and_eq_true, List.all_eq_true, List.mem_range, Bool.or_eq_true, beq_iff_eq, List.any_eq_true, Bool.not_eq_true', decide_eq_false_iff_not] at h
 obtain ⟨⟨⟨h1, h2⟩, h3⟩, h4⟩ := h
 refine ⟨⟨fun k a b => (h1 k b).resolve_left (by exact Nat.ne_of_gt a), fun m i a b => h2 m b i a, fun k i j m a b c d e f => ?_⟩, fun m a b => ?_⟩
 · have := ((h3 k (by exact dl2 1 0 1 0 1 0 b c rfl)).resolve_left (by exact Nat.ne_of_gt a) i d j e).resolve_left (by rw [f]; exact Bool.noConfusion) m c
   exact this.resolve_left (by omega)
 · obtain ⟨q, hq, hl⟩ := (h4 m b).resolve_left (by exact Nat.ne_of_gt a)
   refine ⟨q, hq, fun l c d e => ?_⟩
   rcases hl l d with (x | x) | x
   · omega
   · omega
   · exact x
theorem shape_treeB : ∀ ss ∈ shapes 4 1 ++ shapes 5 1, trB (rdRun ss) = true := by decide +kernel
theorem shape_tree (ss : List Nat) (h : ss ∈ shapes 4 1 ++ shapes 5 1) : TreeR (rdRun ss) := trB_tree (shape_treeB ss h)
theorem sh_mem {ds : List Nat} (h : ds.length = 4 ∨ ds.length = 5) : shFrom ds 1 ∈ shapes 4 1 ++ shapes 5 1 := by
 have := sh_in ds 1 (Nat.le_refl 1)
 rw [List.mem_append]
 rcases h with h | h <;> rw [h] at this
 · exact .inl this
 · exact .inr this
theorem rd_len (ss : List Nat) : ∀ S : List (List Nat) × List Nat, (ss.foldl rdStep S).1.length = S.1.length + ss.length := by
 induction ss with
 | nil => intro S; rfl
 | cons s r ih => intro S; rw [List.foldl_cons, ih]; unfold rdStep; simp; omega
theorem sh_len : ∀ (ds : List Nat) (deep : Nat), (shFrom ds deep).length = ds.length
 | [], _ => rfl
 | d :: r, deep => by unfold shFrom; rw [List.length_cons, sh_len r, List.length_cons]
theorem due_len (ds : List Nat) : ∀ deep, 1 ≤ deep → (dueFrom ds deep).length ≤ deep + 3 * ds.length + 0 := by
 induction ds with
 | nil => intro deep _; unfold dueFrom; simp
 | cons d r ih =>
  intro deep h
  have h1 : d % deep < deep := Nat.mod_lt _ (by exact h)
  have := ih (deep - d % deep + 1) (by exact dl1 1 1 0 0 (Nat.zero_le _) rfl)
  unfold dueFrom
  simp only [List.length_append, List.length_replicate, List.length_cons]
  omega
theorem due_ok (ds : List Nat) : ∀ deep, ∀ w ∈ dueFrom ds deep, PyData.strOk (toS w) = true := by
 induction ds with
 | nil =>
  intro deep w hw
  unfold dueFrom at hw
  rw [(List.mem_replicate.mp hw).2]; decide +kernel
 | cons d r ih =>
  intro deep w hw
  unfold dueFrom at hw
  rcases List.mem_append.mp hw with hw | hw
  · rw [(List.mem_replicate.mp hw).2]; decide +kernel
  · rcases List.mem_cons.mp hw with rfl | hw
    · decide +kernel
    · rcases List.mem_cons.mp hw with rfl | hw
      · exact (word_not d).2.2
      · exact ih _ w hw
theorem lawF_of (ns : List Int) (hread : readOf (pageOf (dsOf ns)) (dueOf (dsOf ns)).length = (dueOf (dsOf ns), [], 1 + Txt.count (toS (pageOf (dsOf ns))) (toS [10])))
 (hroads : ∃ bare opens shuts ws, RoadOk (pageOf (dsOf ns)) bare opens shuts ws ∧ roadsOf bare opens shuts = rdRun (shFrom (dsOf ns) 1)) : LawF numOf ns (dsOf ns) (rdRun (shFrom (dsOf ns) 1)) := by
 have hf := ds_few ns
 have hm := sh_mem hf
 have hw : (waysOf (dsOf ns)).length = (dsOf ns).length := by rw [waysOf_eq, List.length_map]
 have hl : (rdRun (shFrom (dsOf ns) 1)).length = (waysOf (dsOf ns)).length + 1 := by
  unfold rdRun; rw [rd_len, sh_len, hw]; exact Nat.add_comm _ _
 have hs : ∀ w ∈ waysOf (dsOf ns), w.natAbs ≤ 20 := by
  rw [waysOf_eq]; intro w hw
  obtain ⟨d, _, rfl⟩ := List.mem_map.mp hw
  exact way_small d
 have T := shape_tree _ hm
 exact {
  draws := ds_draws ns
  few := hf
  read := hread
  duel := by
   rw [dueOf_from, List.length_cons]
   have := due_len (dsOf ns) 1 (Nat.le_refl 1)
   omega
  okw := fun w hw => by
   rw [dueOf_from] at hw
   rcases List.mem_cons.mp hw with rfl | hw
   · decide +kernel
   · exact due_ok _ _ w hw
  roads := hroads
  len := hl
  wlen := hw
  wsmall := hs
  bsmall := beg_small ns
  sums := sums_ok _ _ _ (shape_tab _ hm)
  prods := prods_ok _ _ _ (shape_tab _ hm)
  det1 := det1_ok T hl (by rw [hw]; exact hf) hs (beg_small ns)
  det2 := det2_ok T hl (by rw [hw]; exact hf) hs (beg_small ns) }
end
section
noncomputable def eS : Bool → List Nat → List (List Nat)
 | b, [] => if b then [[92]] else []
 | b, c :: r => if b then [92, c] :: eS false r else if c = 92 then eS true r else [c] :: eS false r
theorem escs_snd : ∀ (x : List Nat) (i : Nat) (b : Bool), (escs i b x).map (·.2) = eS b x
 | [], i, b => by unfold escs eS; split <;> rfl
 | c :: r, i, b => by
  unfold escs eS
  split
  · rw [List.map_cons, escs_snd]
  · split
    · exact escs_snd r _ _
    · rw [List.map_cons, escs_snd]
theorem escs_cons (i : Nat) (b : Bool) (c : Nat) (r : List Nat) : escs i b (c :: r) = if b then (i, [92, c]) :: escs (i + 1) false r else if c = 92 then escs (i + 1) true r else (i, [c]) :: escs (i + 1) false r := rfl
set_option tactic.hygienic true in
theorem escs_app : ∀ (x y : List Nat) (i : Nat) (b : Bool), escF b x = false → escs i b (x ++ y) = escs i b x ++ escs (i + x.length) false y
 | [], y, i, b, h => by
  cases b with
  | false => rfl
  | true => cases h
 | c :: r, y, i, b, h => by
  rw [List.cons_append, escs_cons i b c (r ++ y), escs_cons i b c r, List.length_cons, show i + (r.length + 1) = i + 1 + r.length by omega]
  unfold escF at h
  split
  · rename_i hb
    rw [if_pos hb] at h
    rw [escs_app r y _ _ h, List.cons_append]
  · rename_i hb
    rw [if_neg hb] at h
    split
    · rename_i hc
      rw [if_pos hc] at h
      rw [escs_app r y _ _ h]
    · rename_i hc
      rw [if_neg hc] at h
      rw [escs_app r y _ _ h, List.cons_append]
set_option tactic.hygienic true in
theorem escF_app : ∀ (x y : List Nat) (b : Bool), escF b x = false → escF b (x ++ y) = escF false y
 | [], y, b, h => by
  cases b with
  | false => rfl
  | true => cases h
 | c :: r, y, b, h => by
  rw [List.cons_append]
  unfold escF at h
  conv => lhs; unfold escF
  split
  · rename_i hb
    rw [if_pos hb] at h
    exact escF_app r y _ h
  · rename_i hb
    rw [if_neg hb] at h
    split
    · rename_i hc
      rw [if_pos hc] at h
      exact escF_app r y _ h
    · rename_i hc
      rw [if_neg hc] at h
      exact escF_app r y _ h
noncomputable def NoQ (x : List Nat) : Prop := escF false x = false ∧ [34] ∉ eS false x
theorem eS_app {x : List Nat} (y : List Nat) (h : escF false x = false) : eS false (x ++ y) = eS false x ++ eS false y := by
 rw [← escs_snd _ 0, escs_app x y 0 false h, List.map_append, escs_snd, escs_snd]
theorem NoQ.app {x y : List Nat} (h : NoQ x) (k : NoQ y) : NoQ (x ++ y) := by
 refine ⟨by rw [escF_app x y false h.1]; exact k.1, ?_⟩
 rw [eS_app y h.1, List.mem_append]
 rintro (m | m)
 · exact h.2 m
 · exact k.2 m
theorem strip_fold (x : List Nat) : ∀ (ps : List (Nat × List Nat)) (S : SS), [34] ∉ ps.map (·.2) → ps.foldl (strip1 x) S = S
 | [], S, _ => rfl
 | p :: r, S, h => by
  have h1 : ¬ p.2 = [34] := fun e => h (by rw [List.map_cons, e]; exact List.mem_cons_self ..)
  rw [List.foldl_cons, show strip1 x S p = S from if_neg h1]
  exact strip_fold x r S fun m => h (by rw [List.map_cons]; exact List.mem_cons_of_mem _ m)
theorem sl_none (x : List Nat) (a : Nat) (h : a ≤ x.length) : sl x a none = x.drop a := slice_from x h
theorem sl_some (x : List Nat) (a b : Nat) (h : a ≤ b) (hb : b ≤ x.length) : sl x a (some b) = (x.drop a).take (b - a) := slice_mid x h hb
set_option tactic.hygienic true in
theorem NoQ.stripped {x : List Nat} (h : NoQ x) : Mine.stripped x = x := by
 unfold Mine.stripped
 split
 · rw [strip_fold x _ _ (by rw [escs_snd]; exact h.2)]
   unfold stripEnd
   split
   · rw [sl_none x 0 (by exact Nat.zero_le _)]; simp
   · rename_i h0
     have : x = [] := List.length_eq_zero_iff.mp (by simpa using h0)
     rw [this]; rfl
 · rfl
noncomputable def chkS : Int → List (List Nat) → Bool
 | n, [] => n == 0
 | n, p :: r => if p = [40] then chkS (n + 1) r else if p = [41] then (if n - 1 < 0 then false else chkS (n - 1) r) else chkS n r
theorem chk_S : ∀ (ps : List (Nat × List Nat)) (n : Int), chk n ps = chkS n (ps.map (·.2))
 | [], n => rfl
 | p :: r, n => by
  rw [List.map_cons]
  unfold chk chkS
  simp only [chk_S r]
theorem NoQ.checked {x : List Nat} (h : NoQ x) : Mine.checked x = chkS 0 (eS false x) := by
 unfold Mine.checked
 rw [h.stripped, chk_S, escs_snd]
end
section
noncomputable def noSp (x : List Nat) : List Nat := x.filter fun c => !Unicode.isSpace c
theorem scan_flat : ∀ (l : List Nat) (st : KWd.St), ((l.foldl KWd.step st).1.map unS).flatten ++ unS (l.foldl KWd.step st).2 = ((st.1.map unS).flatten ++ unS st.2) ++ noSp l
 | [], st => by simp [noSp]
 | c :: r, st => by
  rw [List.foldl_cons, scan_flat r]
  unfold KWd.step noSp
  cases hc : Unicode.isSpace c with
  | true =>
   rw [if_pos rfl, List.filter_cons_of_neg (by rw [hc]; decide)]
   split
   · rfl
   · rw [List.map_append, List.flatten_append]
     simp [unS, Str.empty]
  | false =>
   rw [if_neg (by decide), List.filter_cons_of_pos (by rw [hc]; decide)]
   simp [unS, Str.cps_append]
set_option tactic.hygienic true in
theorem words_flat (x : List Nat) : ((Txt.words (toS x)).map unS).flatten = noSp x := by
 rw [KWd.words_scan]
 have h := scan_flat x ([], Str.empty)
 have h0 : ((([], Str.empty) : KWd.St).1.map unS).flatten ++ unS (([], Str.empty) : KWd.St).2 = [] := rfl
 rw [h0, List.nil_append] at h
 have e : KWd.scan (toS x) = x.foldl KWd.step ([], Str.empty) := by unfold KWd.scan; simp [toS]
 rw [e, ← h]
 unfold KWd.fin
 split
 · rename_i h1
   have : unS (x.foldl KWd.step ([], Str.empty)).2 = [] := by
    have h2 : (unS (x.foldl KWd.step ([], Str.empty)).2).length = 0 := by unfold unS; rw [Array.length_toList]; exact h1
    exact List.length_eq_zero_iff.mp h2
   rw [this, List.append_nil]
 · simp
theorem words_few (x : List Nat) (h : x.length ≤ 1000) : (Builtin.Str.spaceWords (toS x) ((toS x).length + 1)).length ≤ sizeLine := by
 have h1 := (StrLaws.sw_weight (toS x)).1
 have h2 := StrLaws.len_le_wsum (Builtin.Str.spaceWords (toS x) ((toS x).length + 1))
 have h3 : (toS x).length = x.length := toS_length x
 rw [sizeLine_eq]
 omega
theorem eS_mem : ∀ (x : List Nat) (b : Bool), [34] ∈ eS b x → 34 ∈ x
 | [], b, h => by
  unfold eS at h
  split at h
  · simp at h
  · simp at h
 | c :: r, b, h => by
  unfold eS at h
  split at h
  · rcases List.mem_cons.mp h with h | h
    · simp at h
    · exact List.mem_cons_of_mem _ (eS_mem r _ h)
  · split at h
    · exact List.mem_cons_of_mem _ (eS_mem r _ h)
    · rcases List.mem_cons.mp h with h | h
      · simp at h; rw [h]; exact List.mem_cons_self ..
      · exact List.mem_cons_of_mem _ (eS_mem r _ h)
set_option tactic.hygienic true in
theorem stripped_eq (x : List Nat) : stripped x = stripEnd x ((escs 0 false x).foldl (strip1 x) ⟨0, none, []⟩) := by
 unfold stripped
 split
 · rfl
 · rename_i h
   rw [strip_fold x _ _ (by rw [escs_snd]; exact fun m => h (List.contains_iff_mem.mpr (eS_mem x _ m)))]
   unfold stripEnd
   split
   · rw [sl_none x 0 (by exact Nat.zero_le _)]; simp
   · rename_i h0
     have : x = [] := List.length_eq_zero_iff.mp (by simpa using h0)
     rw [this]; rfl
noncomputable def innerT (d : Nat) : List Nat := ((escOf (handOf d) (wordOf d)).flatMap (dress1 (bareOf d))).flatten
theorem pc_bare {d : Nat} (h : bareOf d = true) : (Tk.pc d).text = innerT d ++ [32] := by
 show dressed _ _ ++ [32] = _
 unfold dressed innerT
 rw [if_pos h]
theorem pc_quote {d : Nat} (h : bareOf d = false) : (Tk.pc d).text = 34 :: (innerT d ++ [34, 32]) := by
 show dressed _ _ ++ [32] = _
 unfold dressed innerT
 rw [if_neg (by rw [h]; decide)]
 have q : unS "\"" = [34] := by decide
 rw [q]; simp
noncomputable def Tk.strp : Tk -> List Nat
 | .pc d => (if bareOf d then innerT d else []) ++ [32]
 | t => t.text
noncomputable def Tk.bt (t : Tk) : List Nat := noSp t.strp
noncomputable def noqB (x : List Nat) : Bool := !escF false x && !(eS false x).contains [34]
theorem noq_of {x : List Nat} (h : noqB x = true) : NoQ x := by
 unfold noqB at h
 simp only [Bool.and_eq_true, Bool.not_eq_true'] at h
 refine ⟨h.1, fun m => ?_⟩
 have := List.contains_iff_mem.mpr m
 rw [h.2] at this; cases this
noncomputable def neuB (x : List Nat) : Bool := noqB x && !(eS false x).contains [40] && !(eS false x).contains [41]
theorem inner_fin : ∀ h : Fin 5, ∀ m : Fin 8, ∀ w : Fin 41, ∀ b : Bool, fL (((escOf h.val (wordMW m.val w.val)).flatMap (dress1 b)).flatten) noqB = true := by decide +kernel
theorem inner_noq (d : Nat) : NoQ (innerT d) := noq_of ((fL_eq _ _).symm.trans (inner_fin ⟨handOf d, hand_lt d⟩ ⟨d / 2460 % 8, Nat.mod_lt _ (by decide)⟩ ⟨d / 60 % 41, Nat.mod_lt _ (by decide)⟩ (bareOf d)))
theorem neu_fin : ∀ h : Fin 5, ∀ m : Fin 8, ∀ w : Fin 41, fL (noSp (((escOf h.val (wordMW m.val w.val)).flatMap (dress1 true)).flatten ++ [32])) neuB = true := by decide +kernel
theorem inner_neu {d : Nat} (h : bareOf d = true) : neuB (Tk.pc d).bt = true := by
 have := (fL_eq _ _).symm.trans (neu_fin ⟨handOf d, hand_lt d⟩ ⟨d / 2460 % 8, Nat.mod_lt _ (by decide)⟩ ⟨d / 60 % 41, Nat.mod_lt _ (by decide)⟩)
 unfold Tk.bt Tk.strp
 simp only [h, if_true]
 unfold innerT
 rw [h]; exact this
set_option tactic.hygienic true in
theorem strip_tks (page : List Nat) : ∀ (ts : List Tk) (u : List Nat) (S : SS), page = u ++ ts.flatMap Tk.text -> S.opn = none -> S.start ≤ u.length ->
 ∃ S', (escs u.length false (ts.flatMap Tk.text)).foldl (strip1 page) S = S' ∧ S'.start ≤ page.length ∧ S'.res.flatten ++ page.drop S'.start = (S.res.flatten ++ u.drop S.start) ++ ts.flatMap Tk.strp
 | [], u, S, h, h1, h2 => by
  simp only [List.flatMap_nil, List.append_nil] at h ⊢
  subst h
  exact ⟨S, rfl, h2, rfl⟩
 | t :: ts, u, S, h, h1, h2 => by
  rw [List.flatMap_cons] at h
  have go : (NoQ t.text ∧ t.strp = t.text) -> ∃ S', (escs u.length false ((t :: ts).flatMap Tk.text)).foldl (strip1 page) S = S' ∧ S'.start ≤ page.length ∧ S'.res.flatten ++ page.drop S'.start = (S.res.flatten ++ u.drop S.start) ++ (t :: ts).flatMap Tk.strp := by
   rintro ⟨hn, he⟩
   obtain ⟨S', k1, k2, k3⟩ := strip_tks page ts (u ++ t.text) S (by rw [h, List.append_assoc]) h1 (by rw [List.length_append]; omega)
   refine ⟨S', ?_, k2, ?_⟩
   · rw [List.flatMap_cons, escs_app _ _ _ _ hn.1, List.foldl_append, strip_fold page (escs u.length false t.text) S (by rw [escs_snd]; exact hn.2), ← List.length_append]
     exact k1
   · rw [k3, List.drop_append_of_le_length h2, List.flatMap_cons, he]
     simp only [List.append_assoc]
  cases t with
  | op => exact go ⟨noq_of (by decide), rfl⟩
  | cl => exact go ⟨noq_of (by decide), rfl⟩
  | pc d =>
   cases hb : bareOf d with
   | true =>
    refine go ⟨?_, ?_⟩
    · rw [pc_bare hb]; exact (inner_noq d).app (noq_of (by decide))
    · rw [pc_bare hb]; unfold Tk.strp; simp only [hb, if_true]
   | false =>
    have hy := inner_noq d
    have htx := pc_quote hb
    have hst : (Tk.pc d).strp = [32] := by unfold Tk.strp; simp only [hb]; rfl
    rw [List.flatMap_cons, List.flatMap_cons, hst, htx]
    rw [htx] at h
    generalize innerT d = y at *
    have e1 : escs u.length false (34 :: (y ++ [34, 32]) ++ ts.flatMap Tk.text) = (u.length, [34]) :: (escs (u.length + 1) false y ++ ((u.length + 1 + y.length, [34]) :: (u.length + 1 + y.length + 1, [32]) :: escs (u.length + 1 + y.length + 1 + 1) false (ts.flatMap Tk.text))) := by
     rw [List.cons_append, List.append_assoc, escs_cons, if_neg (by decide), if_neg (by decide), escs_app _ _ _ _ hy.1]
     rfl
    have hsl : sl page S.start (some u.length) = u.drop S.start := by
     rw [sl_some page _ _ h2 (by rw [h, List.length_append]; omega), h, List.drop_append_of_le_length h2, List.take_append_of_le_length (by rw [List.length_drop]; exact Nat.le_refl _), List.take_of_length_le (by rw [List.length_drop]; exact Nat.le_refl _)]
    have hlen : (u ++ 34 :: (y ++ [34, 32])).length = u.length + 1 + y.length + 1 + 1 := by simp; omega
    obtain ⟨S', k1, k2, k3⟩ := strip_tks page ts (u ++ 34 :: (y ++ [34, 32])) ⟨u.length + 1 + y.length + 1, none, if S.start ≠ u.length then S.res ++ [sl page S.start (some u.length)] else S.res⟩ (by rw [h, List.append_assoc]) rfl (by rw [hlen]; exact Nat.le_succ _)
    refine ⟨S', ?_, k2, ?_⟩
    · rw [e1, List.foldl_cons, List.foldl_append]
      have s1 : strip1 page S (u.length, [34]) = { S with opn := some u.length } := by
       unfold strip1; rw [if_pos rfl, h1]
      rw [s1, strip_fold page (escs (u.length + 1) false y) _ (by rw [escs_snd]; exact hy.2), List.foldl_cons, List.foldl_cons]
      have s2 : strip1 page { S with opn := some u.length } (u.length + 1 + y.length, [34]) = ⟨u.length + 1 + y.length + 1, none, if S.start ≠ u.length then S.res ++ [sl page S.start (some u.length)] else S.res⟩ := by
       unfold strip1; rw [if_pos rfl]
      rw [s2]
      have s3 : ∀ Z : SS, strip1 page Z (u.length + 1 + y.length + 1, [32]) = Z := fun Z => by
       unfold strip1; exact if_neg (by simp)
      rw [s3, ← hlen]
      exact k1
    · rw [k3]
      have d1 : (u ++ 34 :: (y ++ [34, 32])).drop (u.length + 1 + y.length + 1) = [32] := by
       have : u ++ 34 :: (y ++ [34, 32]) = (u ++ 34 :: (y ++ [34])) ++ [32] := by simp
       rw [this, List.drop_append_of_le_length (by simp; omega), List.drop_of_length_le (by simp; omega)]; rfl
      have d2 : (if S.start ≠ u.length then S.res ++ [sl page S.start (some u.length)] else S.res).flatten = S.res.flatten ++ u.drop S.start := by
       split
       · rw [hsl, List.flatten_append]; simp
       · rename_i hh
         have : S.start = u.length := by omega
         rw [this, List.drop_length, List.append_nil]
      show (if S.start ≠ u.length then S.res ++ [sl page S.start (some u.length)] else S.res).flatten ++ (u ++ 34 :: (y ++ [34, 32])).drop (u.length + 1 + y.length + 1) ++ _ = _
      rw [d1, d2]
      simp only [List.append_assoc]
set_option tactic.hygienic true in
theorem stripped_tks (ts : List Tk) : stripped (ts.flatMap Tk.text) = ts.flatMap Tk.strp := by
 obtain ⟨S, h1, h2, h3⟩ := strip_tks (ts.flatMap Tk.text) ts [] ⟨0, none, []⟩ rfl rfl (Nat.le_refl _)
 rw [stripped_eq, show escs 0 false (ts.flatMap Tk.text) = escs ([] : List Nat).length false (ts.flatMap Tk.text) from rfl, h1]
 unfold stripEnd
 have h4 : S.res.flatten ++ (ts.flatMap Tk.text).drop S.start = ts.flatMap Tk.strp := by rw [h3]; rfl
 rw [← h4]
 split
 · rw [sl_none _ _ h2, List.flatten_append]; simp
 · rename_i hh
   rw [List.drop_of_length_le (by exact Nat.le_of_not_lt hh), List.append_nil]
end
section
theorem noSp_app (x y : List Nat) : noSp (x ++ y) = noSp x ++ noSp y := List.filter_append ..
theorem bare_tks : ∀ ts : List Tk, noSp (ts.flatMap Tk.strp) = ts.flatMap Tk.bt
 | [] => rfl
 | t :: r => by rw [List.flatMap_cons, noSp_app, bare_tks r, List.flatMap_cons]; rfl
noncomputable def Tk.kd : Tk -> Option Bool
 | .op => some true
 | .cl => some false
 | .pc _ => none
theorem bt_op : Tk.op.bt = [40] := by decide +kernel
theorem bt_cl : Tk.cl.bt = [41] := by decide +kernel
theorem bt_pc (d : Nat) : neuB (Tk.pc d).bt = true := by
 cases h : bareOf d with
 | true => exact inner_neu h
 | false =>
  have : (Tk.pc d).bt = noSp [32] := by unfold Tk.bt Tk.strp; simp only [h]; rfl
  rw [this]; decide +kernel
theorem bt_noq (t : Tk) : NoQ t.bt := by
 cases t with
 | op => rw [bt_op]; exact noq_of (by decide)
 | cl => rw [bt_cl]; exact noq_of (by decide)
 | pc d =>
  have := bt_pc d
  unfold neuB at this
  simp only [Bool.and_eq_true] at this
  exact noq_of this.1.1
theorem pc_none (d : Nat) : [40] ∉ eS false (Tk.pc d).bt ∧ [41] ∉ eS false (Tk.pc d).bt := by
 have := bt_pc d
 unfold neuB at this
 simp only [Bool.and_eq_true, Bool.not_eq_true'] at this
 refine ⟨fun m => ?_, fun m => ?_⟩
 · have h := List.contains_iff_mem.mpr m
   rw [this.1.2] at h; cases h
 · have h := List.contains_iff_mem.mpr m
   rw [this.2] at h; cases h
theorem tks_noq : ∀ ts : List Tk, NoQ (ts.flatMap Tk.bt)
 | [] => ⟨rfl, by simp [eS]⟩
 | t :: r => by rw [List.flatMap_cons]; exact (bt_noq t).app (tks_noq r)
noncomputable def sgn (s : Bool) : Nat := if s then 40 else 41
noncomputable def posOf (s : Bool) : Nat -> List Tk -> List Nat
 | _, [] => []
 | i, t :: r => if t.kd = some s then i :: posOf s (i + t.bt.length) r else posOf s (i + t.bt.length) r
theorem posOf_cons (s : Bool) (i : Nat) (t : Tk) (r : List Tk) : posOf s i (t :: r) = if t.kd = some s then i :: posOf s (i + t.bt.length) r else posOf s (i + t.bt.length) r := rfl
theorem pos_esc (s : Bool) : ∀ (ts : List Tk) (i : Nat), ((escs i false (ts.flatMap Tk.bt)).filter fun p => p.2 == [sgn s]).map (·.1) = posOf s i ts
 | [], i => rfl
 | t :: r, i => by
  rw [List.flatMap_cons, escs_app _ _ _ _ (bt_noq t).1, List.filter_append, List.map_append, pos_esc s r, posOf_cons]
  cases t with
  | op => rw [bt_op]; cases s <;> rfl
  | cl => rw [bt_cl]; cases s <;> rfl
  | pc d =>
   rw [if_neg (by unfold Tk.kd; exact nofun)]
   have : (escs i false (Tk.pc d).bt).filter (fun p => p.2 == [sgn s]) = [] := by
    rw [List.filter_eq_nil_iff]
    intro p hp e
    have h1 : p.2 ∈ eS false (Tk.pc d).bt := by rw [← escs_snd _ i]; exact List.mem_map_of_mem hp
    rw [beq_iff_eq.mp e] at h1
    cases s
    · exact (pc_none d).2 h1
    · exact (pc_none d).1 h1
   rw [this]; rfl
noncomputable def chkK : Int -> List Bool -> Bool
 | n, [] => n == 0
 | n, b :: r => if b then chkK (n + 1) r else (if n - 1 < 0 then false else chkK (n - 1) r)
theorem chkS_skip : ∀ (a b : List (List Nat)) (n : Int), [40] ∉ a -> [41] ∉ a -> chkS n (a ++ b) = chkS n b
 | [], b, n, _, _ => rfl
 | p :: a, b, n, h1, h2 => by
  rw [List.cons_append]
  conv => lhs; unfold chkS
  rw [if_neg (fun e => h1 (by rw [e]; exact List.mem_cons_self ..)), if_neg (fun e => h2 (by rw [e]; exact List.mem_cons_self ..))]
  exact chkS_skip a b n (fun m => h1 (List.mem_cons_of_mem _ m)) fun m => h2 (List.mem_cons_of_mem _ m)
theorem chk_tks : ∀ (ts : List Tk) (n : Int), chkS n (eS false (ts.flatMap Tk.bt)) = chkK n (ts.filterMap Tk.kd)
 | [], n => rfl
 | t :: r, n => by
  rw [List.flatMap_cons, eS_app _ (bt_noq t).1]
  cases t with
  | op =>
   rw [bt_op]
   show chkS n ([40] :: eS false (r.flatMap Tk.bt)) = chkK n (true :: r.filterMap Tk.kd)
   unfold chkS chkK
   rw [if_pos rfl, if_pos rfl]; exact chk_tks r _
  | cl =>
   rw [bt_cl]
   show chkS n ([41] :: eS false (r.flatMap Tk.bt)) = chkK n (false :: r.filterMap Tk.kd)
   unfold chkS chkK
   rw [if_neg (by decide), if_pos rfl, if_neg (show ¬ (false = true) from Bool.noConfusion), chk_tks r]
  | pc d =>
   rw [chkS_skip _ _ _ (pc_none d).1 (pc_none d).2]; exact chk_tks r n
theorem checked_tks (ts : List Tk) : checked (ts.flatMap Tk.bt) = chkK 0 (ts.filterMap Tk.kd) := by
 rw [(tks_noq ts).checked]; exact chk_tks ts 0
noncomputable def preT : Nat -> List Tk -> List Tk
 | _, [] => []
 | k, t :: r => if t.kd = some true then (match k with | 0 => [] | k + 1 => t :: preT k r) else t :: preT k r
noncomputable def postT : Nat -> List Tk -> List Tk
 | _, [] => []
 | k, t :: r => if t.kd = some true then (match k with | 0 => r | k + 1 => postT k r) else postT k r
set_option tactic.hygienic true in
theorem cut_at : ∀ (ts : List Tk) (k i : Nat), k < (posOf true i ts).length -> ts = preT k ts ++ Tk.op :: postT k ts ∧ (posOf true i ts).getD k 0 = i + ((preT k ts).flatMap Tk.bt).length
 | [], k, i, h => by cases h
 | t :: r, k, i, h => by
  rw [posOf_cons] at h ⊢
  unfold preT postT
  split
  · rename_i ht
    have ho : t = Tk.op := by cases t <;> first | rfl | cases ht
    subst ho
    rw [if_pos ht] at h
    cases k with
    | zero => exact ⟨rfl, rfl⟩
    | succ k =>
     obtain ⟨h1, h2⟩ := cut_at r k _ (by simpa using h)
     refine ⟨by show _ = _ :: (preT k r ++ _); rw [← h1], ?_⟩
     show (posOf true (i + Tk.op.bt.length) r).getD k 0 = _
     rw [h2]
     show _ = i + ((Tk.op :: preT k r).flatMap Tk.bt).length
     rw [List.flatMap_cons, List.length_append]; omega
  · rename_i ht
    rw [if_neg ht] at h
    obtain ⟨h1, h2⟩ := cut_at r k _ h
    refine ⟨by rw [List.cons_append, ← h1], ?_⟩
    rw [h2, List.flatMap_cons, List.length_append]; omega
end
section
noncomputable def preK : Nat -> List Bool -> List Bool
 | _, [] => []
 | k, b :: r => if b then (match k with | 0 => [] | k + 1 => b :: preK k r) else b :: preK k r
noncomputable def postK : Nat -> List Bool -> List Bool
 | _, [] => []
 | k, b :: r => if b then (match k with | 0 => r | k + 1 => postK k r) else postK k r
noncomputable abbrev kds (ts : List Tk) : List Bool := ts.filterMap Tk.kd
theorem pre_kds : ∀ (ts : List Tk) (k : Nat), kds (preT k ts) = preK k (kds ts)
 | [], k => rfl
 | .op :: r, 0 => rfl
 | .op :: r, k + 1 => by
  show true :: kds (preT k r) = true :: preK k (kds r)
  rw [pre_kds r k]
 | .cl :: r, k => by
  show false :: kds (preT k r) = false :: preK k (kds r)
  rw [pre_kds r k]
 | .pc d :: r, k => pre_kds r k
theorem post_kds : ∀ (ts : List Tk) (k : Nat), kds (postT k ts) = postK k (kds ts)
 | [], k => rfl
 | .op :: r, 0 => rfl
 | .op :: r, k + 1 => post_kds r k
 | .cl :: r, k => post_kds r k
 | .pc d :: r, k => post_kds r k
theorem pos_len (s : Bool) : ∀ (ts : List Tk) (i : Nat), (posOf s i ts).length = (kds ts).count s
 | [], i => rfl
 | t :: r, i => by
  rw [posOf_cons]
  cases t with
  | op => cases s <;> (show _ = (true :: kds r).count _) <;> simp [Tk.kd, pos_len, List.count_cons]
  | cl => cases s <;> (show _ = (false :: kds r).count _) <;> simp [Tk.kd, pos_len, List.count_cons]
  | pc d => show _ = (kds r).count s; simp [Tk.kd, pos_len]
theorem pos_app (s : Bool) : ∀ (a b : List Tk) (i : Nat), posOf s i (a ++ b) = posOf s i a ++ posOf s (i + (a.flatMap Tk.bt).length) b
 | [], b, i => rfl
 | t :: a, b, i => by
  rw [List.cons_append, posOf_cons, posOf_cons, List.flatMap_cons, List.length_append, pos_app s a b, ← Nat.add_assoc]
  split <;> rfl
set_option tactic.hygienic true in
theorem pos_in (s : Bool) : ∀ (a : List Tk) (i : Nat), ∀ p ∈ posOf s i a, i ≤ p ∧ p < i + (a.flatMap Tk.bt).length
 | [], i, p, h => by cases h
 | t :: a, i, p, h => by
  rw [posOf_cons] at h
  rw [List.flatMap_cons, List.length_append]
  split at h
  · rename_i ht
    have hl : t.bt.length = 1 := by
     cases t with
     | op => rw [bt_op]; rfl
     | cl => rw [bt_cl]; rfl
     | pc d => cases ht
    rcases List.mem_cons.mp h with rfl | h
    · omega
    · have := pos_in s a _ p h; omega
  · have := pos_in s a _ p h; omega
theorem pre_pre : ∀ (ts : List Tk) (u n : Nat), u < n -> n < (kds ts).count true -> preT n ts = preT u ts ++ Tk.op :: preT (n - u - 1) (postT u ts)
 | [], u, n, h, h2 => by cases h2
 | .op :: r, 0, n + 1, h, h2 => rfl
 | .op :: r, u + 1, n + 1, h, h2 => by
  have h3 : n < (kds r).count true := by
   have : (kds (.op :: r)).count true = (kds r).count true + 1 := by show (true :: kds r).count true = _; simp
   exact dl2 1 0 2 0 0 1 h2 (Nat.le_of_eq this) rfl
  show Tk.op :: preT n r = Tk.op :: (preT u r ++ _)
  rw [pre_pre r u n (by exact dl1 1 0 2 1 h rfl) h3]
  congr 4
  exact sb7
 | .cl :: r, u, n, h, h2 => by
  have h3 : n < (kds r).count true := by
   have : (kds (.cl :: r)).count true = (kds r).count true := by show (false :: kds r).count true = _; simp
   exact dl2 1 0 1 0 0 0 h2 (Nat.le_of_eq this) rfl
  show Tk.cl :: preT n r = Tk.cl :: (preT u r ++ _)
  rw [pre_pre r u n h h3]; rfl
 | .pc d :: r, u, n, h, h2 => by
  show Tk.pc d :: preT n r = Tk.pc d :: (preT u r ++ _)
  rw [pre_pre r u n h h2]; rfl
end
section
noncomputable abbrev btS (ts : List Tk) : List Nat := ts.flatMap Tk.bt
noncomputable def midT (u n : Nat) (ts : List Tk) : List Tk := preT (n - u - 1) (postT u ts)
noncomputable def midK (u n : Nat) (sq : List Bool) : List Bool := preK (n - u - 1) (postK u sq)
theorem mid_kds (u n : Nat) (ts : List Tk) : kds (midT u n ts) = midK u n (kds ts) := by unfold midT midK; rw [pre_kds, post_kds]
noncomputable def leftK (u n : Nat) (sq : List Bool) : Int := ((n : Int) - (u : Int)) - 1 - (((midK u n sq).count false : Nat) : Int)
theorem kds_app (a b : List Tk) : kds (a ++ b) = kds a ++ kds b := List.filterMap_append ..
theorem slTo_eq (x : List Nat) (b : Nat) (h : b ≤ x.length) : slTo x b = x.take b := slice_to x h
theorem pre_text {ts : List Tk} {k : Nat} (h : k < (kds ts).count true) : slTo (btS ts) ((posOf true 0 ts).getD k 0) = btS (preT k ts) := by
 obtain ⟨h1, h2⟩ := cut_at ts k 0 (by rw [pos_len]; exact h)
 rw [h2, Nat.zero_add]
 have h3 : btS ts = btS (preT k ts) ++ btS (Tk.op :: postT k ts) := by
  conv => lhs; rw [h1]
  exact List.flatMap_append ..
 rw [slTo_eq _ _ (by rw [h3, List.length_append]; exact Nat.le_add_right _ _), h3, List.take_left']
 rfl
theorem mid_text {ts : List Tk} {u n : Nat} (hu : u < n) (h : n < (kds ts).count true) : sl2 (btS ts) ((posOf true 0 ts).getD u 0 + 1) ((posOf true 0 ts).getD n 0) = btS (midT u n ts) := by
 obtain ⟨h1, h2⟩ := cut_at ts n 0 (by rw [pos_len]; exact h)
 obtain ⟨_, h4⟩ := cut_at ts u 0 (by rw [pos_len]; exact dl2 1 0 1 0 1 0 hu h rfl)
 rw [h2, h4, Nat.zero_add, Nat.zero_add]
 have h3 : btS ts = btS (preT n ts) ++ btS (Tk.op :: postT n ts) := by
  conv => lhs; rw [h1]
  exact List.flatMap_append ..
 have h5 : btS (preT n ts) = (btS (preT u ts) ++ [40]) ++ btS (midT u n ts) := by
  rw [pre_pre ts u n hu h]
  show List.flatMap _ _ = _
  rw [List.flatMap_append, List.flatMap_cons, bt_op, List.append_assoc]; rfl
 have h6 : ((preT u ts).flatMap Tk.bt).length + 1 = (btS (preT u ts) ++ [40]).length := by simp
 unfold sl2
 rw [h6, sl_some _ _ _ (by show _ ≤ (btS (preT n ts)).length; rw [h5]; simp only [List.length_append]; omega) (by rw [h3, List.length_append]; exact Nat.le_add_right _ _)]
 rw [h3, h5, List.append_assoc (btS (preT u ts) ++ [40]), List.drop_left' rfl]
 show List.take ((btS (preT n ts)).length - _) _ = _
 rw [h5, List.length_append, Nat.add_sub_cancel_left, List.take_left' rfl]
theorem left_eq {ts : List Tk} {u n : Nat} (hu : u < n) (h : n < (kds ts).count true) : leftOf (posOf true 0 ts) (posOf false 0 ts) n u = leftK u n (kds ts) := by
 obtain ⟨h1, h2⟩ := cut_at ts n 0 (by rw [pos_len]; exact h)
 obtain ⟨_, h4⟩ := cut_at ts u 0 (by rw [pos_len]; exact dl2 1 0 1 0 1 0 hu h rfl)
 unfold leftOf leftK
 rw [h2, h4, Nat.zero_add, Nat.zero_add]
 congr 2
 have h5 : ts = preT u ts ++ (Tk.op :: (midT u n ts ++ Tk.op :: postT n ts)) := by
  conv => lhs; rw [h1, pre_pre ts u n hu h]
  rw [List.append_assoc]; rfl
 have hn : ((preT n ts).flatMap Tk.bt).length = ((preT u ts).flatMap Tk.bt).length + 1 + ((midT u n ts).flatMap Tk.bt).length := by
  rw [pre_pre ts u n hu h, List.flatMap_append, List.flatMap_cons, bt_op]
  simp only [List.length_append, List.length_cons, List.length_nil]
  unfold midT; omega
 rw [hn, ← mid_kds, ← pos_len false (midT u n ts) (((preT u ts).flatMap Tk.bt).length + 1)]
 have h6 : posOf false 0 ts = posOf false 0 (preT u ts) ++ (posOf false (((preT u ts).flatMap Tk.bt).length + 1) (midT u n ts) ++ posOf false (((preT u ts).flatMap Tk.bt).length + 1 + ((midT u n ts).flatMap Tk.bt).length + 1) (postT n ts)) := by
  conv => lhs; rw [h5]
  rw [pos_app, posOf_cons, if_neg (by decide), pos_app, posOf_cons, if_neg (by decide), bt_op, Nat.zero_add]
  rfl
 rw [h6, List.filter_append, List.filter_append]
 have f1 : ∀ p ∈ posOf false 0 (preT u ts), ¬ ((decide (((((preT u ts).flatMap Tk.bt).length : Nat) : Int) < (p : Int)) && decide ((p : Int) < ((((preT u ts).flatMap Tk.bt).length + 1 + ((midT u n ts).flatMap Tk.bt).length : Nat) : Int))) = true) := fun p hp => by
  have := pos_in false _ _ p hp
  simp only [Bool.and_eq_true, decide_eq_true_eq]; omega
 have f2 : ∀ p ∈ posOf false (((preT u ts).flatMap Tk.bt).length + 1) (midT u n ts), (decide (((((preT u ts).flatMap Tk.bt).length : Nat) : Int) < (p : Int)) && decide ((p : Int) < ((((preT u ts).flatMap Tk.bt).length + 1 + ((midT u n ts).flatMap Tk.bt).length : Nat) : Int))) = true := fun p hp => by
  have := pos_in false _ _ p hp
  simp only [Bool.and_eq_true, decide_eq_true_eq]; exact ⟨Int.ofNat_lt.2 this.1, Int.ofNat_lt.2 this.2⟩
 have f3 : ∀ p ∈ posOf false (((preT u ts).flatMap Tk.bt).length + 1 + ((midT u n ts).flatMap Tk.bt).length + 1) (postT n ts), ¬ ((decide (((((preT u ts).flatMap Tk.bt).length : Nat) : Int) < (p : Int)) && decide ((p : Int) < ((((preT u ts).flatMap Tk.bt).length + 1 + ((midT u n ts).flatMap Tk.bt).length : Nat) : Int))) = true) := fun p hp => by
  have := pos_in false _ _ p hp
  simp only [Bool.and_eq_true, decide_eq_true_eq]; omega
 rw [List.filter_eq_nil_iff.mpr f1, List.filter_eq_self.mpr f2, List.filter_eq_nil_iff.mpr f3]
 simp
theorem mulS_rep : ∀ n : Int, -20 ≤ n -> n ≤ 20 -> mulS n = List.replicate n.toNat 41 := by
 intro n h1 h2
 have : ∀ m : _root_.Fin 41, mulS ((m.val : Int) - 20) = List.replicate ((m.val : Int) - 20).toNat 41 := by decide +kernel
 obtain ⟨m, rfl⟩ := t20 h1 h2
 exact this m
theorem cl_text (n : Nat) : btS (List.replicate n Tk.cl) = List.replicate n 41 := by
 induction n with
 | zero => rfl
 | succ n ih => rw [List.replicate_succ]; show List.flatMap _ _ = _; rw [List.flatMap_cons, bt_cl]; show 41 :: btS _ = _; rw [ih]; rfl
theorem cl_kds (n : Nat) : kds (List.replicate n Tk.cl) = List.replicate n false := by
 induction n with
 | zero => rfl
 | succ n ih => rw [List.replicate_succ]; show false :: kds _ = _; rw [ih]; rfl
end
section
noncomputable def segK (u n : Nat) (sq : List Bool) : List Bool := midK u n sq ++ List.replicate (leftK u n sq).toNat false
theorem seg_tks {ts : List Tk} {u n : Nat} (hu : u < n) (h : n < (kds ts).count true) (hb : (kds ts).length ≤ 20) (hl : -20 ≤ leftK u n (kds ts) ∧ leftK u n (kds ts) ≤ 20) :
 segOf (btS ts) (posOf true 0 ts) (posOf false 0 ts) n u = btS (midT u n ts ++ List.replicate (leftK u n (kds ts)).toNat Tk.cl) := by
 unfold segOf
 rw [left_eq hu h, mid_text hu h, mulS_rep _ hl.1 hl.2, ← cl_text]
 exact (List.flatMap_append ..).symm
noncomputable def roadsK (sq : List Bool) : List (List Nat) := (List.range (sq.count true)).map fun n => ((List.range' 1 (n - 1)).filter fun u => chkK 0 (segK u n sq)) ++ [n]
noncomputable def sqFrom : List Nat -> Nat -> List Bool
 | [], deep => List.replicate deep false
 | s :: r, deep => List.replicate s false ++ true :: sqFrom r (deep - s + 1)
noncomputable def sqOf (ss : List Nat) : List Bool := true :: sqFrom ss 1
theorem sq_run : ∀ (ds : List Nat) (T : List Tk × Nat), kds ((ds.foldl tkStep T).1 ++ List.replicate (ds.foldl tkStep T).2 Tk.cl) = kds T.1 ++ sqFrom (shFrom ds T.2) T.2
 | [], T => by show kds (T.1 ++ _) = _; rw [kds_app, cl_kds]; rfl
 | d :: r, T => by
  rw [List.foldl_cons, sq_run r]
  unfold tkStep
  show kds (T.1 ++ _) ++ _ = kds T.1 ++ (List.replicate (d % T.2) false ++ true :: sqFrom _ _)
  rw [kds_app, kds_app, cl_kds, List.append_assoc, List.append_assoc]
  rfl
theorem sq_tks (ds : List Nat) : kds (tksOf ds) = sqOf (shFrom ds 1) := sq_run ds ([.op], 1)
noncomputable def shapeB (sq : List Bool) : Bool :=
 decide (sq.length ≤ 20) && decide (1 ≤ sq.count true) && decide (sq.count true ≤ 6) && decide (sq.count false ≤ 6)
 && ((List.range (sq.count true)).map fun n => chkK 0 (preK n sq)) == (true :: List.replicate (sq.count true - 1) false)
 && (List.range (sq.count true)).all fun n => (List.range n).all fun u => decide (-20 ≤ leftK u n sq) && decide (leftK u n sq ≤ 20)
theorem shape_sq : ∀ ss ∈ shapes 4 1 ++ shapes 5 1, shapeB (sqOf ss) = true ∧ roadsK (sqOf ss) = rdRun ss := by decide +kernel
end
section
theorem text_esc (t : Tk) : escF false t.text = false := by
 cases t with
 | op => decide
 | cl => decide
 | pc d =>
  cases hb : bareOf d with
  | true => rw [pc_bare hb, escF_app _ _ _ (inner_noq d).1]; decide
  | false =>
   rw [pc_quote hb]
   show escF false (innerT d ++ [34, 32]) = false
   rw [escF_app _ _ _ (inner_noq d).1]; decide
theorem tks_esc : ∀ ts : List Tk, escF false (ts.flatMap Tk.text) = false
 | [] => rfl
 | t :: r => by rw [List.flatMap_cons, escF_app _ _ _ (text_esc t)]; exact tks_esc r
theorem strp_le (t : Tk) : t.strp.length ≤ t.text.length := by
 cases t with
 | op => exact Nat.le_refl _
 | cl => exact Nat.le_refl _
 | pc d =>
  cases hb : bareOf d with
  | true => rw [pc_bare hb]; unfold Tk.strp; simp only [hb, if_true]; exact Nat.le_refl _
  | false => rw [pc_quote hb]; unfold Tk.strp; simp only [hb]; simp
theorem tks_le : ∀ ts : List Tk, (ts.flatMap Tk.strp).length ≤ (ts.flatMap Tk.text).length
 | [] => Nat.le_refl _
 | t :: r => by
  rw [List.flatMap_cons, List.flatMap_cons, List.length_append, List.length_append]
  have := strp_le t
  have := tks_le r
  omega
theorem page_len (ds : List Nat) (h : ds.length ≤ 5) : (pageOf ds).length ≤ 1000 := by
 have := pgB_run ds h ds.length (Nat.le_refl _)
 rw [List.take_length] at this
 have h1 := this.lp
 have h2 := this.dp
 unfold pageOf
 rw [List.length_append, shutsP_len]
 omega
theorem roads_ok (ds : List Nat) (h : ds.length = 4 ∨ ds.length = 5) : ∃ bare opens shuts ws, RoadOk (pageOf ds) bare opens shuts ws ∧ roadsOf bare opens shuts = rdRun (shFrom ds 1) := by
 obtain ⟨hs, hr⟩ := shape_sq _ (sh_mem h)
 have hlen := page_len ds (by omega)
 rw [page_tks] at hlen ⊢
 rw [← sq_tks] at hs hr
 generalize tksOf ds = ts at *
 unfold shapeB at hs
 simp only [Bool.and_eq_true, decide_eq_true_eq, beq_iff_eq, List.all_eq_true, List.mem_range] at hs
 obtain ⟨⟨⟨⟨⟨k1, k2⟩, k3⟩, k4⟩, k5⟩, k6⟩ := hs
 have hst := stripped_tks ts
 have hsl : (stripped (ts.flatMap Tk.text)).length ≤ 1000 := by rw [hst]; exact Nat.le_trans (tks_le ts) hlen
 have hbl : (btS ts).length ≤ 1000 := by
  show (ts.flatMap Tk.bt).length ≤ 1000
  rw [← bare_tks, ← hst]
  exact Nat.le_trans (List.length_filter_le ..) hsl
 have hol : (posOf true 0 ts).length = (kds ts).count true := pos_len true ts 0
 have hopen : ∀ p ∈ posOf true 0 ts, ∃ k, k < (kds ts).count true ∧ (posOf true 0 ts).getD k 0 = p := fun p hp => by
  obtain ⟨k, hk, e⟩ := List.mem_iff_getElem.mp hp
  exact ⟨k, by exact dl2 1 0 1 0 0 0 hk (Nat.le_of_eq hol) rfl, by rw [List.getD_eq_getElem?_getD, List.getElem?_eq_getElem hk, e]; rfl⟩
 have hplen : ∀ p ∈ posOf true 0 ts, p ≤ 1000 := fun p hp => by
  have := pos_in true ts 0 p hp
  have h2 : (ts.flatMap Tk.bt).length ≤ 1000 := hbl
  omega
 have hseg : ∀ n u, u < n -> n < (kds ts).count true -> segOf (btS ts) (posOf true 0 ts) (posOf false 0 ts) n u = btS (midT u n ts ++ List.replicate (leftK u n (kds ts)).toNat Tk.cl) := fun n u h1 h2 => seg_tks h1 h2 k1 (k6 n h2 u h1)
 refine ⟨btS ts, posOf true 0 ts, posOf false 0 ts, (Txt.words (toS (stripped (ts.flatMap Tk.text)))).map unS, {
  pl := hlen
  pe := tks_esc ts
  sl := hsl
  hw := by rw [List.map_map]; exact (List.map_id'' (fun x => toS_unS x) _).symm
  hz := words_few _ hsl
  hb := by rw [words_flat, hst, bare_tks]
  bl := hbl
  be := (tks_noq ts).1
  ho := (pos_esc true ts 0).symm
  hs := (pos_esc false ts 0).symm
  few := ⟨by exact dl2 1 0 1 0 0 0 k2 (Nat.le_of_eq hol.symm) rfl, by exact dl2 0 6 0 0 0 6 (Nat.le_of_eq hol) k3 rfl, by rw [pos_len]; exact k4⟩
  lt := hplen
  pre := fun p hp => by
   obtain ⟨k, hk, e⟩ := hopen p hp
   rw [← e, pre_text hk]
   refine ⟨?_, (tks_noq _).1, by rw [(tks_noq _).stripped]; exact (tks_noq _).1⟩
   obtain ⟨h1, _⟩ := cut_at ts k 0 (by exact dl2 1 0 1 0 0 0 hk (Nat.le_of_eq hol.symm) rfl)
   have h2 : btS ts = btS (preT k ts) ++ btS (Tk.op :: postT k ts) := by
    conv => lhs; rw [h1]
    exact List.flatMap_append ..
   rw [h2, List.length_append] at hbl
   omega
  first := by
   rw [hol, ← k5]
   refine List.ext_getElem (by simp [hol]) fun i h1 h2 => ?_
   have hi : i < (kds ts).count true := by simpa using h2
   rw [List.getElem_map, List.getElem_map, List.getElem_range, ← pre_kds, ← checked_tks]
   have e : (posOf true 0 ts)[i]'(by exact dl2 1 0 1 0 0 0 hi (Nat.le_of_eq hol.symm) rfl) = (posOf true 0 ts).getD i 0 := by rw [List.getD_eq_getElem?_getD, List.getElem?_eq_getElem (by exact dl2 1 0 1 0 0 0 hi (Nat.le_of_eq hol.symm) rfl)]; rfl
   rw [e, pre_text hi]
  seg := fun n u h1 _ h3 => by
   rw [hseg n u h3 (by exact dl2 1 0 1 0 0 0 h1 (Nat.le_of_eq hol) rfl)]
   exact ⟨(tks_noq _).1, by rw [(tks_noq _).stripped]; exact (tks_noq _).1⟩ }, ?_⟩
 rw [← hr]
 unfold roadsOf roadsK
 rw [hol]
 refine List.map_congr_left fun n hn => ?_
 unfold roadOf
 congr 1
 refine List.filter_congr fun u hu => ?_
 have hn' := List.mem_range.mp hn
 have hu' := List.mem_range'_1.mp hu
 rw [hseg n u (by omega) hn', checked_tks]
 show chkK 0 (kds (_ ++ _)) = _
 rw [kds_app, mid_kds, cl_kds]; rfl
end
section
theorem law_done : PySem.Challenge.rw_wo0044_01.Holds :=
 law_holds (num := numOf) (fun ns _ => ⟨dsOf ns, _, lawF_of ns (read_ok _) (roads_ok _ (ds_few ns))⟩) hnum_ok
end
end Mine
theorem PySem.Challenge.cw_wo0044_01_holds : PySem.Challenge.rw_wo0044_01.Holds :=
 Mine.law_done
