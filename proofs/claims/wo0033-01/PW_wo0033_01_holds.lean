import PyProof.Rows.All
import Wide.All
import OpenK.AllK
import Wide.FinOn
import KE.KTab
import KE.KParD
import Lean
import PySem.Challenge.RW_wo0033_01
open PySem PySem.W PyProof.Rows PySem.Calls PySem.Spec
set_option Elab.async false
set_option maxRecDepth 100000
set_option maxHeartbeats 8000000
set_option rowWalk.seconds 0
set_option linter.unusedVariables false
namespace Mine
local macro_rules | `(tactic| walk_at "my mem") => `(tactic| first | assumption | exact List.Mem.head _ | (refine List.Mem.tail _ ?_; walk_at "my mem") | (refine List.mem_append_right _ ?_; walk_at "my mem"))
-- A0
section
theorem lt3 {x : Nat} (h : x < 3) : x = 0 ∨ x = 1 ∨ x = 2 := by
  rcases Nat.lt_or_eq_of_le (Nat.le_of_lt_succ h) with h | h
  · rcases Nat.lt_or_eq_of_le (Nat.le_of_lt_succ h) with h | h
    · exact .inl (Nat.lt_one_iff.mp h)
    · exact .inr (.inl h)
  · exact .inr (.inr h)
theorem lt3s {x : Nat} (h : x < 3) : x + 1 < 3 ∨ x = 2 :=
  (Nat.lt_or_eq_of_le (Nat.le_of_lt_succ h)).imp Nat.succ_lt_succ id
theorem last3F : ∀ p0 p1 p2 v : Fin 3, ¬ p0 = p1 → ¬ p1 = p2 → ¬ p2 = v → ¬ p0 = p2 → ¬ p1 = v → p0 = v := by decide
theorem last3 (p0 : Nat) (a : p0 < 3) (p1 : Nat) (b : p1 < 3) (p2 : Nat) (c : p2 < 3) (v : Nat) (d : v < 3) (h1 : ¬ p0 = p1) (h2 : ¬ p1 = p2) (h3 : ¬ p2 = v) (h4 : ¬ p0 = p2) (h5 : ¬ p1 = v) : p0 = v :=
  Fin.mk.inj (last3F ⟨p0, a⟩ ⟨p1, b⟩ ⟨p2, c⟩ ⟨v, d⟩ (fun e => h1 (Fin.mk.inj e)) (fun e => h2 (Fin.mk.inj e)) (fun e => h3 (Fin.mk.inj e)) (fun e => h4 (Fin.mk.inj e)) (fun e => h5 (Fin.mk.inj e)))
theorem q61 : (6 / (3 - 2 : Nat) : Int) = 6 := by decide
theorem q31 : (6 / (3 - 1 : Nat) : Int) = 3 := by decide
theorem q20 : (6 / (3 - 0 : Nat) : Int) = 2 := by decide
theorem sub_a {a b c x : Int} (h : 0 + b + c ≤ x) : 0 + a + b + c - x ≤ a := by omega
theorem a61 {a b c x : Int} (h : 0 + b + c ≤ x) : (6 / (3 - 2 : Nat) : Int) * (0 + a + b + c - x) ≤ 6 * a := by
  rw [q61]; exact Int.mul_le_mul_of_nonneg_left (sub_a h) (by decide)
theorem a62 {a b c x : Int} (h : 0 + a + c ≤ x) : (6 / (3 - 2 : Nat) : Int) * (0 + a + b + c - x) ≤ 6 * b := by
  rw [show (0 : Int) + a + b + c = 0 + b + a + c by rw [Int.zero_add, Int.zero_add, Int.add_comm a b]]; exact a61 h
theorem a63 {a b c x : Int} (h : 0 + a + b ≤ x) : (6 / (3 - 2 : Nat) : Int) * (0 + a + b + c - x) ≤ 6 * c := by
  rw [show (0 : Int) + a + b + c = 0 + c + a + b by rw [Int.zero_add, Int.zero_add, Int.add_comm (a + b) c, Int.add_assoc c]]; exact a61 h
theorem a31 {a b c x : Int} (h : 0 + c ≤ x) : (6 / (3 - 1 : Nat) : Int) * (0 + a + b + c - x) ≤ 3 * (a + b) := by
  rw [q31]; exact Int.mul_le_mul_of_nonneg_left (by omega) (by decide)
theorem a32 {a b c x : Int} (h : 0 + a ≤ x) : (6 / (3 - 1 : Nat) : Int) * (0 + a + b + c - x) ≤ 3 * (b + c) := by
  rw [show (0 : Int) + a + b + c = 0 + b + c + a by rw [Int.zero_add, Int.zero_add, Int.add_assoc, Int.add_comm a]]; exact a31 h
theorem a20 {a b c : Int} : (6 / (3 - 0 : Nat) : Int) * (0 + a + b + c - 0) ≤ 2 * (a + b + c) := by
  rw [q20, Int.zero_add, Int.sub_zero]; exact Int.le_refl _
theorem suc_mul (j : Nat) (l : Int) : ((j + 1 : Nat) : Int) * l = (j : Int) * l + l := by rw [Int.natCast_succ, Int.add_mul, Int.one_mul]
theorem adn {x1 x' w x2 l : Int} {j k : Nat} (hle : 6 * x1 - j * l ≤ 6 * x' - k * l) (h : x' + w ≤ x2) : 6 * (x1 + w) - ((j + 1 : Nat) : Int) * l ≤ 6 * x2 - ((k + 1 : Nat) : Int) * l := by
  rw [suc_mul, suc_mul]
  generalize (j : Int) * l = a at *
  generalize (k : Int) * l = b at *
  omega
theorem adn3 {x2 x3 l ρ : Int} {k3 : Nat} (hk : k3 < 3) (h : ρ ≤ l) (h3 : (6 / (3 - k3 : Nat) : Int) * (x2 - x3) ≤ ρ) : 6 * x2 - ((2 + 1 : Nat) : Int) * l ≤ 6 * x3 - k3 * l := by
  have h3 := Int.le_trans h3 h
  clear h
  obtain rfl | rfl | rfl := lt3 hk
  all_goals (simp only [Nat.reduceSub] at h3; omega)
theorem afin {x y z a : Int} {b : Int} (h : x ≤ y) (h2 : 6 * y - a ≤ z - b) : 6 * x - a ≤ z - b :=
  Int.le_trans (Int.sub_le_sub_right (Int.mul_le_mul_of_nonneg_left h (by decide)) a) h2
theorem aend0 {x y l : Int} {k : Nat} (hk : k < 3) (h : 6 * x + 3 * l - k * l ≤ 6 * y) : l ≤ (6 / (3 - k : Nat) : Int) * (y - x) := by
  obtain rfl | rfl | rfl := lt3 hk
  all_goals (simp only [Nat.reduceSub]; omega)
theorem aend {x y p l S T : Int} {k : Nat} (hk : k < 3) (ks : Nat) (hs : S + T = l) (hy : p + S ≤ y) (z : 6 * (x + T) - ((k + (3 + ks) : Nat) : Int) * l ≤ 6 * p - ks * l) : l ≤ (6 / (3 - k : Nat) : Int) * (y - x) := by
  refine aend0 hk ?_
  have e : ((k + (3 + ks) : Nat) : Int) * l = k * l + (3 * l + ks * l) := by rw [Int.natCast_add, Int.natCast_add, Int.add_mul, Int.add_mul]; rfl
  rw [e] at z
  generalize (ks : Int) * l = b at *
  generalize (k : Int) * l = a at *
  omega
section
variable {a b c d e f l x p y K : Int}
theorem s3 (h : a + b + c + d + e + f = l) : (a + b + c) + (d + e + f) = l := by rw [← h]; simp only [Int.add_assoc]
theorem s4 (h : a + b + c + d + e + f = l) : (a + b) + (c + d + e + f) = l := by rw [← h]; simp only [Int.add_assoc]
theorem s5 (h : a + b + c + d + e + f = l) : a + (b + c + d + e + f) = l := by rw [← h]; simp only [Int.add_assoc]
theorem s3a (h : p + a + b + c ≤ y) : p + (a + b + c) ≤ y := by simp only [Int.add_assoc] at h ⊢; exact h
theorem s4a (h : p + a + b ≤ y) : p + (a + b) ≤ y := by rw [← Int.add_assoc]; exact h
theorem s3b {u : Int} (h : 6 * (x + d + e + f) - u ≤ K) : 6 * (x + (d + e + f)) - u ≤ K := by simp only [Int.add_assoc] at h ⊢; exact h
theorem s4b {u : Int} (h : 6 * (x + c + d + e + f) - u ≤ K) : 6 * (x + (c + d + e + f)) - u ≤ K := by simp only [Int.add_assoc] at h ⊢; exact h
theorem s5b {u : Int} (h : 6 * (x + b + c + d + e + f) - u ≤ K) : 6 * (x + (b + c + d + e + f)) - u ≤ K := by simp only [Int.add_assoc] at h ⊢; exact h
end
theorem tn0 (i : Nat) : (0 + (i : Int)).toNat = i := by rw [Int.zero_add]; rfl
theorem nab {x : Int} {k : Nat} (h0 : 0 ≤ x) (h : x < k) : x.natAbs < k := Int.ofNat_lt.mp ((Int.natAbs_of_nonneg h0).symm ▸ h)
theorem nabK {x y : Int} {k : Nat} (h0 : 0 ≤ x) (h : x < y) (hy : y ≤ k) : x.natAbs < k := nab h0 (Int.lt_of_lt_of_le h hy)
theorem rm1 {d a lim : Nat} (h : d + a < lim) : d < lim := Nat.lt_of_le_of_lt (Nat.le_add_right d a) h
theorem rm2 {d a c lim : Nat} (h : d + a < lim) (hc : c ≤ a) : d + c < lim := Nat.lt_of_le_of_lt (Nat.add_le_add_left hc d) h
theorem rm3 {d a c e lim : Nat} (h : d + a < lim) (hc : c + e ≤ a) : d + c + e < lim := by rw [Nat.add_assoc]; exact rm2 h hc
theorem rm4 {d a c e f lim : Nat} (h : d + a < lim) (hc : c + (e + f) ≤ a) : d + c + e + f < lim := by rw [Nat.add_assoc, Nat.add_assoc]; exact rm2 h hc
theorem rmK {d k lim : Nat} (h : d + (k + 1) + 2 < lim) : d + 1 + k + 2 < lim := by rw [Nat.add_assoc d 1 k, Nat.add_comm 1 k]; exact h
theorem rmU {d k lim : Nat} (h : d + 8 * (k + 1) + 16 < lim) : d + 3 + 8 * k + 16 < lim := by omega
theorem rmZ {d k lim : Nat} (h : d + (k + 1) + 2 < lim) : d < lim := rm1 (rm1 h)
section
variable {l r m : Int} {k N V : Nat}
theorem mdL (a : 2 * m ≤ l + r) (b : l + r < 2 * m + 2) (h : l < r) : l ≤ m := by omega
theorem mdR (a : 2 * m ≤ l + r) (b : l + r < 2 * m + 2) (h : l < r) : m < r := by omega
theorem mdG (a : 2 * m ≤ l + r) (b : l + r < 2 * m + 2) (h : l < r) (hne : l + 1 ≠ r) : l < m := by omega
theorem md0 (a : 2 * m ≤ l + r) (b : l + r < 2 * m + 2) (h : l < r) (h0 : 0 ≤ l) : 0 ≤ m := Int.le_trans h0 (mdL a b h)
theorem mdS (a : 2 * m ≤ l + r) (b : l + r < 2 * m + 2) (h : l < r) : 0 ≤ m - l := Int.sub_nonneg_of_le (mdL a b h)
theorem mdN (a : 2 * m ≤ l + r) (b : l + r < 2 * m + 2) (h : l < r) (h3 : r ≤ N) : m ≤ N := Int.le_trans (Int.le_of_lt (mdR a b h)) h3
theorem mdK (a : 2 * m ≤ l + r) (b : l + r < 2 * m + 2) (h : l < r) (h4 : r - l ≤ (k + 1 : Nat)) : m - l ≤ k := by omega
theorem mdQ (a : 2 * m ≤ l + r) (b : l + r < 2 * m + 2) (h : l < r) (hne : l + 1 ≠ r) (h4 : r - l ≤ (k + 1 : Nat)) : r - m ≤ k := by omega
theorem mdT (a : 2 * m ≤ l + r) (b : l + r < 2 * m + 2) (h : l < r) (h0 : 0 ≤ l) (h3 : r ≤ N) (hN : N ≤ 1000) : m - l ≤ 1000 :=
  Int.le_trans (Int.sub_le_self m h0) (Int.le_trans (mdN a b h h3) (Int.ofNat_le.mpr hN))
theorem mdV (a : 2 * m ≤ l + r) (b : l + r < 2 * m + 2) (h : l < r) (h0 : 0 ≤ l) (h3 : r ≤ N) (e : V = N) (hN : V ≤ 1000) : m - l ≤ 1000 := mdT a b h h0 h3 (e ▸ hN)
theorem mdW (a : 2 * m ≤ l + r) (b : l + r < 2 * m + 2) (h : l < r) (h0 : 0 ≤ l) (h3 : r ≤ N) (hN : N ≤ 64) : m - l ≤ 1000 := mdT a b h h0 h3 (Nat.le_trans hN (by decide))
theorem no0 (h : l < r) (h4 : r - l ≤ (0 : Nat)) : False := Int.not_lt.mpr h4 (Int.sub_pos_of_lt h)
theorem on2 (h : k ≤ 2) : (k : Int) ≤ 1000 := Int.ofNat_le.mpr (Nat.le_trans h (by decide))
theorem leC (e : V = N) (h : r ≤ N) : r ≤ V := by rw [e]; exact h
theorem er1 (h0 : 0 ≤ l) (h : l + 1 = r) : r.toNat = l.toNat + 1 := by rw [← h, Int.toNat_add h0 (by decide)]; rfl
theorem lt1 (h0 : 0 ≤ l) (h : l + 1 = r) (h3 : r ≤ N) : l.toNat < N := by
  rw [Nat.lt_iff_add_one_le, ← er1 h0 h]; exact Int.toNat_le.mpr h3
theorem ltE (h : l + 1 = r) (h3 : r ≤ N) : l < N := Int.lt_of_lt_of_le (h ▸ Int.lt_succ l) h3
theorem lt63 (h : l + 1 = r) (h3 : r ≤ N) (hN : N ≤ 1000) : l < 2 ^ 63 := Int.lt_of_lt_of_le (ltE h h3) (Int.le_trans (Int.ofNat_le.mpr hN) (by decide))
theorem len1 {x : Int} (h : l + 1 = r) : (([x] : List Int).length : Int) = r - l := by rw [← h, Int.add_comm l 1, Int.add_sub_cancel]; rfl
theorem tn1 (h : l + 1 = r) : (r - l).toNat = 1 := by rw [← h, Int.add_comm l 1, Int.add_sub_cancel]; rfl
theorem sb3 : m - l + (r - m) = r - l := by omega
end
theorem tn_sum {a b c : Nat} (h1 : a ≤ b) (h2 : b ≤ c) : (b - a) + (c - b) = c - a := by rw [Nat.add_comm]; exact Nat.sub_add_sub_cancel h2 h1
section
variable {a b : Nat}
theorem neF (h : (a = b) = False) : a ≠ b := of_eq_false h
theorem neAll : (a < b → a ≠ b) ∧ (b < a → a ≠ b) ∧ (a < b → a ≠ b + 1) ∧ (a < b → a ≠ b + 1 + 1) ∧ (a < b → a ≠ b + 1 + 1 + 1) ∧ (a < b → b + 1 ≠ a) ∧ (a < b → b + 1 + 1 ≠ a) ∧ (a < b → b + 1 + 1 + 1 ≠ a) ∧ a ≠ a + 1 ∧ a ≠ a + 1 + 1 ∧ a + 1 ≠ a ∧ a + 1 + 1 ≠ a := by
  refine ⟨?_, ?_, ?_, ?_, ?_, ?_, ?_, ?_, ?_, ?_, ?_, ?_⟩ <;> omega
end
theorem tn3 (a b : Nat) : (3 * (a : Int) + (b : Int)).toNat = 3 * a + b := rfl
theorem tn33 (i j : Nat) : (3 * (0 + (i : Int)) + (0 + (j : Int))).toNat = 3 * i + j := by rw [Int.zero_add, Int.zero_add]; rfl
theorem tnP (i : Nat) : (0 + (i : Int) - 1).toNat = i - 1 := by rw [Int.zero_add]; exact Int.toNat_sub i 1
theorem tnL (n : Nat) : (-1 + (n : Int)).toNat = n - 1 := by rw [Int.add_comm]; exact Int.toNat_sub n 1
theorem z0 (i : Nat) : 0 ≤ 0 + (i : Int) := by rw [Int.zero_add]; exact Int.natCast_nonneg i
theorem zlt {i k : Nat} (h : i < k) : 0 + (i : Int) < k := by rw [Int.zero_add]; exact Int.ofNat_lt.mpr h
theorem ix9 {i j n : Nat} (hi : i < 3) (hj : j < 3) (h : n = 9) : 3 * i + j < n := by
  rw [h]; exact Nat.lt_of_lt_of_le (Nat.add_lt_add_left hj (3 * i)) (Nat.mul_le_mul_left 3 (Nat.succ_le_of_lt hi))
theorem tnS {v : Int} (h : 0 ≤ v) : (v + 4).toNat = (v + 3).toNat + 1 := by obtain ⟨n, rfl⟩ := Int.eq_ofNat_of_zero_le h; rfl
theorem tnM {v M : Int} (h : v < M) : (v + 4).toNat ≤ (M + 3).toNat :=
  Int.toNat_le_toNat (by rw [show v + 4 = v + 1 + 3 by rw [Int.add_assoc]; rfl]; exact Int.add_le_add_right h 3)
theorem tn4 (n : Nat) : ((n : Int) + 4).toNat = n + 4 := rfl
theorem tn3' (n : Nat) : ((n : Int) + 3).toNat = n + 3 := rfl
theorem oneTwo {n : Nat} (h1 : 1 ≤ n) (h2 : n ≤ 2) : n = 1 ∨ n = 2 := (Nat.lt_or_eq_of_le h2).imp (fun h => Nat.le_antisymm (Nat.le_of_lt_succ h) h1) id
theorem oneThree {n : Nat} (h1 : 1 ≤ n) (h2 : n ≤ 3) : n = 1 ∨ n = 2 ∨ n = 3 := by
  rcases Nat.lt_or_eq_of_le h2 with h | h
  · exact (oneTwo h1 (Nat.le_of_lt_succ h)).imp id .inl
  · exact .inr (.inr h)
theorem oneThreeI {b : Int} (h1 : 1 ≤ b) (h2 : b ≤ 3) : b = 1 ∨ b = 2 ∨ b = 3 := by
  obtain ⟨n, rfl⟩ := Int.eq_ofNat_of_zero_le (Int.le_trans (by decide) h1)
  exact (oneThree (Int.ofNat_le.mp h1) (Int.ofNat_le.mp h2)).imp (congrArg _) (Or.imp (congrArg _) (congrArg _))
theorem ng (z : Nat) : -(-(z : Int) - 1) - 1 = z := by rw [Int.neg_sub, Int.sub_neg, Int.add_comm 1, Int.add_sub_cancel]
theorem tnC {b k : Int} (h : k ≤ b) : k.toNat < b.toNat + 1 := Nat.lt_succ_of_le (Int.toNat_le_toNat h)
theorem dn2 (n : Nat) : ((n : Int) + ((2 : Nat) : Int) - 1) / ((2 : Nat) : Int) = ((n + 1) / 2 : Nat) := by
  rw [show (n : Int) + ((2 : Nat) : Int) - 1 = ((n + 1 : Nat) : Int) from Int.add_sub_assoc n 2 1, Int.natCast_ediv]
theorem dn1 (n : Nat) : ((n : Int) + ((1 : Nat) : Int) - 1) / ((1 : Nat) : Int) = n := by
  rw [show (n : Int) + ((1 : Nat) : Int) - 1 = n from Int.add_sub_cancel _ _]; exact Int.ediv_one _
theorem sh3 {A q : Int} : 6 * q + 2 * (A - 3 * q) = 2 * A := by omega
theorem sh2 {A q : Int} : 6 * q + 3 * (A - 2 * q) = 3 * A := by omega
theorem sh1 {A q : Int} : 6 * q + 6 * (A - 1 * q) = 6 * A := by omega
theorem hr2L {r P d a b : Int} (z1 : r * P ≤ r * 4) (z2 : d ≤ a) (h7 : r < b) (hb : b < 100) (ha : a < 1000000) : r * P + d < 10000000 := by
  generalize r * P = x at *
  omega
theorem fsz {n i : Nat} (h : i < n) : n + 1 - (i + 1) < n + 1 - i := Nat.sub_lt_sub_left (Nat.lt_succ_of_lt h) (Nat.lt_succ_self i)

end
-- B1
section
noncomputable abbrev Led := List (Addr × Obj)
noncomputable abbrev Names := Str → Option Value

inductive Ex7 {a b c d e f g : Type} (P : a → b → c → d → e → f → g → Prop) : Prop
  | mk (x1 : a) (x2 : b) (x3 : c) (x4 : d) (x5 : e) (x6 : f) (x7 : g) : P x1 x2 x3 x4 x5 x6 x7 → Ex7 P
inductive An11 (a b c d e f g h i j k : Prop) : Prop
  | mk : a → b → c → d → e → f → g → h → i → j → k → An11 a b c d e f g h i j k
inductive TEnd (h₀ : Heap) (L : Addr) (J : Names → Led → Prop) (own : Led) (bad : List Addr) (s₁ s₂ : Shared) : Prop
  | mk (h' : Heap) (tk : Nat) (m' : Names) (news' : Led) : s₂ = { s₁ with heap := h', toks := tk } → Fr h₀ L h' m' → News h₀ L h' (own ++ news') → (∀ p ∈ news', p.1 ∉ bad) → J m' news' → TEnd h₀ L J own bad s₁ s₂
noncomputable def TurnEnd (h₀ : Heap) (L : Addr) (J : Names → Led → Prop) (own : Led) (bad : List Addr) (s₁ : Shared) (Q : Flow → Shared → Prop) (f : Flow) (s₂ : Shared) : Prop :=
  match f with
  | .ret v => Q (.ret v) s₂
  | .brk => Q .next s₂
  | _ => TEnd h₀ L J own bad s₁ s₂

section
variable {prog : Program} {w : World} {A : Around} {E : Value → Shared → Prop} {s : Shared} {env : Env} {h₀ : Heap} {x : Str} {body : List Stmt} {Q : Flow → Shared → Prop}

theorem loopList {l : Addr} {vs : List Value} {nn : Nat} {m₀ : Names} {news : Led} (J : Nat → Names → Led → Prop)
    (hh : A.handled = none) (hl : (l, listOf vs.toArray nn) ∈ news) (hJl : ∀ i m nx, J i m nx → (l, listOf vs.toArray nn) ∈ nx) (F : Fr h₀ env.locals s.heap m₀) (N : News h₀ env.locals s.heap news) (hj : J 0 m₀ news)
    (turn : ∀ (i : Nat) v m₁ news₁ h tk I oI, vs[i]? = some v → J i m₁ news₁ → (∀ p ∈ news₁, p.1 ≠ I) → Fr h₀ env.locals h (fun y => if y = x then some v else m₁ y) → News h₀ env.locals h ((I, oI) :: news₁) →
      wpAny (model prog w) A (execs body env) (TurnEnd h₀ env.locals (J (i + 1)) [(I, oI)] [I] { s with heap := h, toks := tk } Q) E { s with heap := h, toks := tk })
    (done : ∀ m' news' h tk, J vs.length m' news' → Fr h₀ env.locals h m' → News h₀ env.locals h news' → Q .next { s with heap := h, toks := tk }) :
    wpAny (model prog w) A (pyIter (.ref l)) (fun it s₂ => LoopAtV prog w A h₀ env x body Q E it s₂) E s := by
  have hol : s.heap.get? l = some (listOf vs.toArray nn) := (N _ hl).1
  have hls : s.heap.IsList l vs.toArray := ⟨_, hol, rfl, nn, rfl⟩
  have hne : l ≠ s.heap.objs.size := Nat.ne_of_lt (Heap.lt_size hol)
  refine wpAny_pyIter_list hls ?_
  have W := Walks.list (prog := prog) (w := w) hh s.heap.objs.size l hne vs.toArray
  have hlen : vs.toArray.size = vs.length := by simp
  rw [hlen] at W
  refine ⟨_, _, _, vs.length, _, _, m₀, news, J, rfl, W, ?_, ?_, ?_, ⟨⟨_, Heap.get?_push_size _ rfl, rfl, rfl⟩, hls.at fun o e => Heap.get?_push_of_some _ e⟩, F.push _, (fun p hp => ⟨Heap.get?_push_of_some _ (N p hp).1, (N p hp).2⟩), hj, ?_, ?_⟩
  · intro hm
    rcases List.mem_cons.mp hm with e | hm
    · exact absurd F.ns.lt (e ▸ Nat.lt_irrefl _)
    · exact (N _ hl).2.1 ((List.mem_singleton.mp hm).symm)
  · intro b hb
    rw [List.mem_singleton.mp hb]
    exact next_is_new F
  · intro p hp hI
    exact absurd (Heap.lt_size (N p hp).1) ((List.mem_singleton.mp hI) ▸ Nat.lt_irrefl _)
  · rintro i v m₁ news₁ s₁ own ⟨hh', tk', rfl⟩ hin hP hJ hoff hown hget hall hst F₁ N₁
    have hP' : vs[i]? = some v := by simpa using hP
    obtain ⟨oI, hst', _⟩ := hst.1
    have hmem := hall s.heap.objs.size (by simp) (next_is_new F) _ hst'
    have hI : ∀ p ∈ news₁, p.1 ≠ s.heap.objs.size := fun p hp q => hoff p hp (by simp [q])
    have hlm := hJl _ _ _ hJ
    have hlo : hh'.get? l = some (listOf vs.toArray nn) := (N₁ _ (List.mem_append.mpr (.inr hlm))).1
    have N₂ : News h₀ env.locals hh' ((s.heap.objs.size, oI) :: news₁) := fun p hp => by
      rcases List.mem_cons.mp hp with rfl | hp
      · exact N₁ _ (List.mem_append_left _ hmem)
      · exact N₁ _ (List.mem_append_right _ hp)
    refine wpAny_mono (turn i v m₁ news₁ hh' tk' _ oI hP' hJ hI F₁ N₂) (fun f s₂ p => ?_) fun _ _ e => e
    have fin : TEnd h₀ env.locals (J (i + 1)) [(s.heap.objs.size, oI)] [s.heap.objs.size] { s with heap := hh', toks := tk' } s₂ →
        LoopStepU h₀ env.locals [s.heap.objs.size] own (J (i + 1)) { s with heap := hh', toks := tk' } .next s₂ := by
      rintro ⟨h', tk, m', news', e, F', N', hn', hJ'⟩
      refine ⟨rfl, h', tk, m', news', e, F', fun p hp => ?_, hn', hJ'⟩
      rcases List.mem_append.mp hp with hp | hp
      · have e2 := hget p hp
        rcases List.mem_cons.mp (hown p hp) with e1 | e1
        · have e3 : p = (s.heap.objs.size, p.2) := by rw [← e1]
          have e4 : some p.2 = some oI := (by rw [← e2, e1]; exact hst')
          rw [e3, Option.some.inj e4]
          exact N' _ (by simp)
        · have e1 := List.mem_singleton.mp e1
          have e3 : p = (l, p.2) := by rw [← e1]
          have e4 : some p.2 = some (listOf vs.toArray nn) := (by rw [← e2, e1]; exact hlo)
          rw [e3, Option.some.inj e4]
          exact N' _ (List.mem_append_right _ (hJl _ _ _ hJ'))
      · exact N' _ (List.mem_append_right _ hp)
    cases f with
    | ret v => exact .ret p
    | brk => exact .brk p
    | next => exact .next (fin p)
    | cont => exact .cont (fin p)
  · rintro h' tk m' news' F' N' _ hJ
    exact done m' news' h' tk hJ F' N'
end

end
-- B1i
section
noncomputable def NoStr (o : Obj) : Prop := ∀ vs q t, o.data = .fields vs → vs[1]? ≠ some (.str q t)
section
variable {prog : Program} {w : World} {A : Around} {E : Value → Shared → Prop} {s : Shared} {env : Env} {h₀ : Heap} {x : Str} {body : List Stmt} {Q : Flow → Shared → Prop}

theorem loopRangeI {r : Addr} {a₀ b₀ : Int} {t₀ u₀ v₀ : Tok} {n : Nat} {m₀ : Names} {news : Led} (J : Nat → Names → Led → Prop)
    (hh : A.handled = none) (hr : IsRange s.heap r a₀ b₀ 1 t₀ u₀ v₀) (hsmall : Builtin.Range.small a₀ b₀ 1 = true) (hn : Builtin.Range.rangeSize a₀ b₀ 1 = (n : Int))
    (F : Fr h₀ env.locals s.heap m₀) (N : News h₀ env.locals s.heap news) (hj : J 0 m₀ news)
    (turn : ∀ (i : Nat) m₁ news₁ t h tk I oI, NoStr oI → i < n → J i m₁ news₁ → (∀ p ∈ news₁, p.1 ≠ I) → Fr h₀ env.locals h (fun y => if y = x then some (.int (a₀ + (i : Int)) t) else m₁ y) → News h₀ env.locals h ((I, oI) :: news₁) →
      wpAny (model prog w) A (execs body env) (TurnEnd h₀ env.locals (J (i + 1)) [(I, oI)] [I] { s with heap := h, toks := tk } Q) E { s with heap := h, toks := tk })
    (done : ∀ m' news' h tk, J n m' news' → Fr h₀ env.locals h m' → News h₀ env.locals h news' → Q .next { s with heap := h, toks := tk }) :
    wpAny (model prog w) A (pyIter (.ref r)) (fun it s₂ => LoopAtV prog w A h₀ env x body Q E it s₂) E s := by
  refine wpAny_pyIter_range hr hsmall ?_
  have W : Walks prog w A s.heap.objs.size [s.heap.objs.size] [s.heap.objs.size] n (fun i v => i < n ∧ ∃ t, v = .int (a₀ + i * 1) t)
      (fun i h => IsRangeIter h s.heap.objs.size (a₀ + (i : Nat) * 1) ((n : Int) - (i : Nat)) 1) := (Walks.range hh _ a₀ 1 n).bound
  refine ⟨s.heap.objs.size, _, _, n, _, _, m₀, news, J, rfl, W, ?_, ?_, ?_, (by show IsRangeIter _ _ _ _ _; rw [hn]; simpa using Heap.get?_push_size _ rfl), F.push _,
    (fun p hp => ⟨Heap.get?_push_of_some _ (N p hp).1, (N p hp).2⟩), hj, ?_, ?_⟩
  · intro hm
    exact absurd F.ns.lt ((List.mem_singleton.mp hm) ▸ Nat.lt_irrefl _)
  · intro b hb
    rw [List.mem_singleton.mp hb]
    exact next_is_new F
  · intro p hp hI
    exact absurd (Heap.lt_size (N p hp).1) ((List.mem_singleton.mp hI) ▸ Nat.lt_irrefl _)
  · rintro i v m₁ news₁ s₁ own ⟨hh', tk', rfl⟩ hin ⟨_, t, rfl⟩ hJ hoff hown hget hall hst F₁ N₁
    have e1 : a₀ + (i : Int) * 1 = a₀ + (i : Int) := by omega
    rw [e1] at F₁
    obtain ⟨oI, hst'⟩ : ∃ oI, hh'.get? s.heap.objs.size = some oI := ⟨_, hst⟩
    have hmem := hall s.heap.objs.size (by simp) (next_is_new F) _ hst'
    have hI : ∀ p ∈ news₁, p.1 ≠ s.heap.objs.size := fun p hp q => hoff p hp (by simp [q])
    have N₂ : News h₀ env.locals hh' ((s.heap.objs.size, oI) :: news₁) := fun p hp => by
      rcases List.mem_cons.mp hp with rfl | hp
      · exact N₁ _ (List.mem_append_left _ hmem)
      · exact N₁ _ (List.mem_append_right _ hp)
    have hno : NoStr oI := by
      have e9 : some oI = some _ := hst'.symm.trans hst
      rw [Option.some.inj e9]
      intro vs q t hd hv
      injection hd with hd
      subst hd
      simp [rawInt] at hv
    refine wpAny_mono (turn i m₁ news₁ t hh' tk' _ _ hno hin hJ hI F₁ N₂) (fun f s₂ p => ?_) fun _ _ e => e
    have fin : TEnd h₀ env.locals (J (i + 1)) [(s.heap.objs.size, oI)] [s.heap.objs.size] { s with heap := hh', toks := tk' } s₂ →
        LoopStepU h₀ env.locals [s.heap.objs.size] own (J (i + 1)) { s with heap := hh', toks := tk' } .next s₂ := by
      rintro ⟨h', tk, m', news', e, F', N', hn', hJ'⟩
      refine ⟨rfl, h', tk, m', news', e, F', fun p hp => ?_, hn', hJ'⟩
      rcases List.mem_append.mp hp with hp | hp
      · have e1 : p.1 = s.heap.objs.size := by simpa using hown p hp
        have e2 := hget p hp
        have e3 : p = (s.heap.objs.size, p.2) := by rw [← e1]
        have e4 : some p.2 = some oI := (by rw [← e2, e1]; exact hst')
        rw [e3, Option.some.inj e4]
        exact N' _ (by simp)
      · exact N' _ (List.mem_append_right _ hp)
    cases f with
    | ret v => exact .ret p
    | brk => exact .brk p
    | next => exact .next (fin p)
    | cont => exact .cont (fin p)
  · rintro h' tk m' news' F' N' _ hJ
    exact done m' news' h' tk hJ F' N'

theorem loopRange {r : Addr} {a₀ b₀ : Int} {t₀ u₀ v₀ : Tok} {n : Nat} {m₀ : Names} {news : Led} (J : Nat → Names → Led → Prop)
    (hh : A.handled = none) (hr : IsRange s.heap r a₀ b₀ 1 t₀ u₀ v₀) (hsmall : Builtin.Range.small a₀ b₀ 1 = true) (hn : Builtin.Range.rangeSize a₀ b₀ 1 = (n : Int))
    (F : Fr h₀ env.locals s.heap m₀) (N : News h₀ env.locals s.heap news) (hj : J 0 m₀ news)
    (turn : ∀ (i : Nat) m₁ news₁ t h tk I oI, i < n → J i m₁ news₁ → (∀ p ∈ news₁, p.1 ≠ I) → Fr h₀ env.locals h (fun y => if y = x then some (.int (a₀ + (i : Int)) t) else m₁ y) → News h₀ env.locals h ((I, oI) :: news₁) →
      wpAny (model prog w) A (execs body env) (TurnEnd h₀ env.locals (J (i + 1)) [(I, oI)] [I] { s with heap := h, toks := tk } Q) E { s with heap := h, toks := tk })
    (done : ∀ m' news' h tk, J n m' news' → Fr h₀ env.locals h m' → News h₀ env.locals h news' → Q .next { s with heap := h, toks := tk }) :
    wpAny (model prog w) A (pyIter (.ref r)) (fun it s₂ => LoopAtV prog w A h₀ env x body Q E it s₂) E s :=
  loopRangeI J hh hr hsmall hn F N hj (fun i m₁ news₁ t h tk I oI _ => turn i m₁ news₁ t h tk I oI) done
end

end
-- B2
section
open LCg LCt
section
variable {prog : Program} {w : World} {A : Around} {E : Value → Shared → Prop} {s : Shared} {h₀ : Heap} {L : Addr} {m : Names} {env : Env}

theorem restU {elt : Expr} {x : Str} {scope : Scope} {cl : List (Str × Addr)} {S : Led → Prop} {P : Nat → Value → Prop} {Fin : List Value → Led → Prop} {n : Nat} {news : Led} (J : Nat → List Value → Led → Prop)
    (h0 : J 0 [] news)
    (turn : ∀ (i : Nat) v I oI C oC D m₂ ys h tk nw (E' : Value → Shared → Prop), i < n → P i v → J i ys nw → NsObj oC m₂ → m₂ x = some v → Fr h₀ L h m → News h₀ L h ((I, oI) :: (C, oC) :: (D, lst ys) :: nw) → Off3 I C D nw → ((@Ne Nat I C) ∧ (@Ne Nat I D) ∧ (@Ne Nat C D)) →
      wpAny (model prog w) A (eval elt (compEnvC scope cl C env)) (CompEnd h₀ L m { s with heap := h, toks := tk } I oI C oC D (lst ys) S (fun y nw' => J (i + 1) (ys ++ [y]) nw')) E' { s with heap := h, toks := tk })
    (fin : ∀ ys nw, J n ys nw → Fin ys nw) : CompRest prog w A h₀ L m env elt x scope cl s S P Fin n 0 [] news := by
  have key : ∀ (j i : Nat) (ys : List Value) (nw : Led), i + j = n → J i ys nw → CompRest prog w A h₀ L m env elt x scope cl s S P Fin j i ys nw := by
    intro j
    induction j with
    | zero =>
      intro i ys nw hi hy
      have e : i = n := by omega
      subst e
      exact CompRest.zero (fin ys nw hy)
    | succ j ih =>
      intro i ys nw hi hy
      refine CompRest.succ ?_
      intro v I oI C oC D m₂ h tk E' hv hC hx F N off ne
      refine wpAny_mono (turn i v I oI C oC D m₂ ys h tk nw E' (by omega) hv hy hC hx F N off ne) (fun y s₂ hq => ?_) fun _ _ e => e
      obtain ⟨h', tk', nw', e, F', N', off', hS, hJ⟩ := hq
      exact ⟨h', tk', nw', e, F', N', off', hS, ih (i + 1) _ _ (by omega) hJ⟩
  exact key n 0 [] news (by omega) h0

theorem restT {ct elt : Expr} {x : Str} {scope : Scope} {cl : List (Str × Addr)} {S : Led → Prop} {P : Nat → Value → Prop} {Fin : List Value → Led → Prop} {n : Nat} {news : Led} (J : Nat → List Value → Led → Prop)
    (h0 : J 0 [] news)
    (turn : ∀ (i : Nat) v I oI C oC D m₂ ys h tk nw (E' : Value → Shared → Prop), i < n → P i v → J i ys nw → NsObj oC m₂ → m₂ x = some v → Fr h₀ L h m → News h₀ L h ((I, oI) :: (C, oC) :: (D, lst ys) :: nw) → Off3 I C D nw → ((@Ne Nat I C) ∧ (@Ne Nat I D) ∧ (@Ne Nat C D)) →
      wpAny (model prog w) A (isTrue ct (compEnvC scope cl C env) (eval ct (compEnvC scope cl C env))) (fun ok s' => if ok = true then
        wpAny (model prog w) A (eval elt (compEnvC scope cl C env)) (CompEnd h₀ L m { s with heap := h, toks := tk } I oI C oC D (lst ys) S (fun y nw' => J (i + 1) (ys ++ [y]) nw')) E' s'
        else CompEnd h₀ L m { s with heap := h, toks := tk } I oI C oC D (lst ys) S (fun _ nw' => J (i + 1) ys nw') Value.none s') E' { s with heap := h, toks := tk })
    (fin : ∀ ys nw, J n ys nw → Fin ys nw) : CompRestT prog w A h₀ L m env ct elt x scope cl s S P Fin n 0 [] news := by
  have key : ∀ (j i : Nat) (ys : List Value) (nw : Led), i + j = n → J i ys nw → CompRestT prog w A h₀ L m env ct elt x scope cl s S P Fin j i ys nw := by
    intro j
    induction j with
    | zero =>
      intro i ys nw hi hy
      have e : i = n := by omega
      subst e
      exact CompRestT.zero (fin ys nw hy)
    | succ j ih =>
      intro i ys nw hi hy
      refine CompRestT.succ ?_
      intro v I oI C oC D m₂ h tk E' hv hC hx F N off ne
      refine wpAny_mono (turn i v I oI C oC D m₂ ys h tk nw E' (by omega) hv hy hC hx F N off ne) (fun ok s₂ hq => ?_) fun _ _ e => e
      cases ok with
      | true =>
        simp only [if_true] at hq ⊢
        refine wpAny_mono hq (fun y s₃ hq => ?_) fun _ _ e => e
        obtain ⟨h', tk', nw', e, F', N', off', hS, hJ⟩ := hq
        exact ⟨h', tk', nw', e, F', N', off', hS, ih (i + 1) _ _ (by omega) hJ⟩
      | false =>
        simp only [Bool.false_eq_true, if_false] at hq ⊢
        obtain ⟨h', tk', nw', e, F', N', off', hS, hJ⟩ := hq
        exact ⟨h', tk', nw', e, F', N', off', hS, ih (i + 1) _ _ (by omega) hJ⟩
  exact key n 0 [] news (by omega) h0

noncomputable def DTurn (prog : Program) (w : World) (A : Around) {K : Type} [DecidableEq K] (knd : KeyKind prog w K) (h₀ : Heap) (L : Addr) (m : Names) (env : Env) (kx vx : Expr) (ifs : List Expr) (x : Str) (scope : Scope) (cl : List (Str × Addr)) (s : Shared) (n : Nat) (P : Nat → Value → Prop)
    (J : Nat → List (K × Value) → Led → Prop) : Prop :=
  ∀ (i : Nat) v I oI C oC D oD m₂ kvs h tk nw (E' : Value → Shared → Prop), i < n → P i v → J i kvs nw → oD.IsDictOf knd kvs → NsObj oC m₂ → m₂ x = some v → Fr h₀ L h m → News h₀ L h ((I, oI) :: (C, oC) :: (D, oD) :: nw) → Off3 I C D nw → ((@Ne Nat I C) ∧ (@Ne Nat I D) ∧ (@Ne Nat C D)) →
      wpAny (model prog w) A (forIn ifs true fun c r => if r = true then do let ok ← isTrue c (compEnvC scope cl C env) (eval c (compEnvC scope cl C env)); pure (ForInStep.yield ok) else pure (ForInStep.yield r)) (fun ok s' => if ok = true then
        wpAny (model prog w) A (eval kx (compEnvC scope cl C env)) (fun kv s₄ => wpAny (model prog w) A (eval vx (compEnvC scope cl C env)) (fun vv s₅ => ∃ k, knd.is k kv = true ∧
          CompEnd h₀ L m { s with heap := h, toks := tk } I oI C oC D oD (fun _ => True) (fun y nw' => J (i + 1) (stored kvs k y) nw') vv s₅) E' s₄) E' s'
        else CompEnd h₀ L m { s with heap := h, toks := tk } I oI C oC D oD (fun _ => True) (fun _ nw' => J (i + 1) kvs nw') Value.none s') E' { s with heap := h, toks := tk }

theorem stored_len {K : Type} [DecidableEq K] (kvs : List (K × Value)) (k : K) (v : Value) : (stored kvs k v).length ≤ kvs.length + 1 := by
  unfold stored; split <;> simp

theorem block_D {K : Type} [DecidableEq K] {knd : KeyKind prog w K} {kx vx iter : Expr} {ifs : List Expr} {x : Str} {px : Pos} {scope : Scope} {cl : List (Str × Addr)} {pos : Pos} {s₂ : Shared} {I : Addr} {fp : List Addr} {n : Nat} {P : Nat → Value → Prop} {St : Nat → Heap → Prop} {news : Led}
    {RR : Value → Addr → Result → Shared → Prop} (J : Nat → List (K × Value) → Led → Prop)
    (W : Walks prog w A I fp [I] n P St) (hsz : n ≤ sizeLine) (hIo : ∀ i h, St i h → ∃ o, h.get? I = some o)
    (hSt : ∀ i h h' o nw, St i h → h.get? I = some o → h'.get? I = some o → (∀ b o, h₀.get? b = some o → h'.get? b = some o) → News h₀ L h' nw → St i h')
    (hcell : ∀ y ∈ scope.names, y.2 ≠ .cell) (hkind : scope.kind = .function) (hx : scope.names.lookup x = some .local) (hst : St 0 s₂.heap) (hfp : ∀ b ∈ fp, b < s₂.heap.objs.size)
    (F : Fr h₀ L s₂.heap m) (N : News h₀ L s₂.heap news) (hIL : L ≠ I) (hI₀ : h₀.get? I = none) (off : ∀ p ∈ news, p.1 ≠ I) (h0 : J 0 [] news)
    (turn : DTurn prog w A knd h₀ L m env kx vx ifs x scope cl s₂ n P J)
    (hRR : ∀ D C h tk m' kvs oD news', Fr h₀ L h m → News h₀ L h ((D, oD) :: news') → oD.IsDictOf knd kvs → Off1 D news' → h.Ns C m' → h₀.get? C = none → h₀.get? D = none → C ≠ L → D ≠ L → C ≠ D → (∀ p ∈ news', p.1 ≠ C) → J n kvs news' → D = s₂.heap.objs.size → RR (.ref D) C (.ok .next) { s₂ with heap := h, toks := tk }) :
    wpAny (model prog w) A newDict (fun acc s₃ => wpAny (model prog w) A (newFunctionEnv scope env.globals cl [] env.qual none .none (some env)) (fun cenv s₄ =>
      codeAny (model prog w) A (.compStart (.DictComp kx vx [⟨.Name x px, iter, ifs, 0⟩] scope pos) 0 (.ref I) acc { cenv with scope := relabel scope env }) (RR acc cenv.locals) s₄) E s₃) E s₂ := by
  refine wpAny_newObj_type (wpAny_newFunctionEnv hcell (by intro y hy; simp at hy) (fun h₁ hns₁ hsb₁ => ?_) hkind)
  dsimp only at hns₁ hsb₁ ⊢
  have hnew : (s₂.heap.push { cls := .type "dict", dict := none, data := .dict #[] }).DictOf knd s₂.heap.objs.size [] := Heap.DictOf.new s₂.heap
  generalize hH2 : s₂.heap.push { cls := .type "dict", dict := none, data := .dict #[] } = H2 at hns₁ hsb₁ hnew ⊢
  have hC : H2.objs.size = s₂.heap.objs.size + 1 := by rw [← hH2, Heap.size_push]
  have hDC : s₂.heap.objs.size ≠ H2.objs.size := by rw [hC]; exact Nat.ne_of_lt (Nat.lt_succ_self _)
  have below : ∀ b, b < s₂.heap.objs.size → b ≠ H2.objs.size ∧ b ≠ s₂.heap.objs.size := fun b hb => ⟨by rw [hC]; exact Nat.ne_of_lt (Nat.lt_succ_of_lt hb), Nat.ne_of_lt hb⟩
  have hDf : s₂.heap.objs.size ∉ fp := fun hm => Nat.lt_irrefl _ (hfp _ hm)
  have hCf : H2.objs.size ∉ fp := fun hm => by have := hfp _ hm; rw [hC] at this; exact Nat.lt_irrefl _ (Nat.lt_of_succ_lt this)
  have hIf : I ∈ fp := W.sub I (List.mem_singleton.mpr rfl)
  have hIlt : I < s₂.heap.objs.size := hfp I hIf
  have old : ∀ b o, s₂.heap.get? b = some o → h₁.get? b = some o := fun b o e => hsb₁.extBut b o (below b (Heap.lt_size e)).1 (Heap.get?_push_of_some _ (hH2 ▸ Heap.get?_push_of_some _ e))
  have hacc : h₁.DictOf knd s₂.heap.objs.size [] := hnew.at fun o e => hsb₁.extBut _ _ hDC (Heap.get?_push_of_some _ e)
  have hst₁ : St 0 h₁ := W.frame _ _ _ hst fun b _ o e => old b o e
  have fresh : ∀ a, s₂.heap.objs.size ≤ a → s₂.heap.get? a = none := fun a ha => by
    cases e : s₂.heap.get? a with
    | none => rfl
    | some o' => exact absurd (Heap.lt_size e) (Nat.not_lt.mpr ha)
  have fresh₀ : ∀ a, s₂.heap.objs.size ≤ a → h₀.get? a = none := fun a ha => by
    cases e : h₀.get? a with
    | none => rfl
    | some o' => have := F.keep a o' e; rw [fresh a ha] at this; cases this
  have hD₀ : h₀.get? s₂.heap.objs.size = none := fresh₀ _ (Nat.le_refl _)
  have hC₀ : h₀.get? H2.objs.size = none := fresh₀ _ (by rw [hC]; exact Nat.le_succ _)
  have hLlt : L < s₂.heap.objs.size := F.ns.lt
  have hDL : s₂.heap.objs.size ≠ L := Ne.symm (below L hLlt).2
  have hCL : H2.objs.size ≠ L := Ne.symm (below L hLlt).1
  have hCI : I ≠ H2.objs.size := (below I hIlt).1
  have hDI : I ≠ s₂.heap.objs.size := (below I hIlt).2
  have off₀ : Off3 I H2.objs.size s₂.heap.objs.size news := Off3.of fun p hp => ⟨off p hp, (below _ (Heap.lt_size (N p hp).1)).1, (below _ (Heap.lt_size (N p hp).1)).2⟩
  obtain ⟨oD₀, hoD₀, hdD₀⟩ := Heap.dictOf_iff.mp hacc
  have loop : ∀ s₃ : Shared, s₃ = { s₂ with heap := h₁, toks := s₂.toks + ([] : List (Str × Value)).length } →
      codeAny (model prog w) A (.compLoop (.DictComp kx vx [⟨.Name x px, iter, ifs, 0⟩] scope pos) 0 (.ref I) (.ref s₂.heap.objs.size) (compEnvC scope cl H2.objs.size env))
        (RR (.ref s₂.heap.objs.size) H2.objs.size) s₃ := by
    rintro s₃ rfl
    refine codeAny_compLoop_testsD
      (fun k s' => Ex7 fun h' tk i kvs oD m' news' => An11 (s' = { s₂ with heap := h', toks := tk }) (i ≤ n) (k = n + 1 - i) (kvs.length ≤ i) (St i h') (Fr h₀ L h' m) (h'.Ns H2.objs.size m') (News h₀ L h' ((s₂.heap.objs.size, oD) :: news')) (oD.IsDictOf knd kvs) (Off3 I H2.objs.size s₂.heap.objs.size news') (J i kvs news')) ?_ (n + 1)
      ⟨h₁, _, 0, [], oD₀, _, news, rfl, Nat.zero_le _, rfl, Nat.le_refl _, hst₁, F.keeps old, hns₁, fun p hp => ?_, hdD₀, off₀, h0⟩
    · rintro k s' ⟨h', tk, i, kvs, oD, m', news', rfl, hi, rfl, hyl, hst', F', hn', N', hdD, off', R'⟩
      by_cases hlt : i < n
      · refine W.item i _ _ _ hlt hst' fun v h₂ tk₂ hPv hst₂ hk₂ => ?_
        refine wpAny_assign_Name (wpAny_storeName_local (lookup_relabel_local hx) (hn'.at' fun o e => hk₂ _ o (by simpa using Ne.symm hCI) e) (fun h₃ hn₃ hs₃ => ?_) (by simp [compEnvC, relabel, hkind]))
        have hst₃ : St (i + 1) h₃ := W.frame _ _ _ hst₂ fun b hb o e => hs₃.extBut b o (fun q => hCf (by have q' : b = H2.objs.size := q; rw [← q']; exact hb)) e
        obtain ⟨oI, heI⟩ := hIo _ _ hst₃
        obtain ⟨oC, heC, hoC⟩ := ns_obj hn₃
        have F₃ : Fr h₀ L h₃ m := (fr_but F' hk₂ hIL hI₀).change hs₃ hCL hC₀
        have off3 := off'.mem
        have N₂ : News h₀ L h₂ ((s₂.heap.objs.size, oD) :: news') := news_but N' hk₂ fun p hp => by
          rcases List.mem_cons.mp hp with rfl | hp
          · exact Ne.symm hDI
          · exact (off3 p hp).1
        have N₃ : News h₀ L h₃ ((I, oI) :: (H2.objs.size, oC) :: (s₂.heap.objs.size, oD) :: news') := fun p hp => by
          rcases List.mem_cons.mp hp with rfl | hp
          · exact ⟨heI, Ne.symm hIL, hI₀⟩
          · rcases List.mem_cons.mp hp with rfl | hp
            · exact ⟨heC, hCL, hC₀⟩
            · have z := N₂ p hp
              refine ⟨hs₃.extBut _ _ ?_ z.1, z.2⟩
              rcases List.mem_cons.mp hp with rfl | hp
              · exact hDC
              · exact (off3 p hp).2.1
        refine wpAny_mono (turn i v I oI H2.objs.size oC s₂.heap.objs.size oD _ kvs h₃ _ news' _ hlt hPv R' hdD hoC (by simp) F₃ N₃ off' ⟨hCI, hDI, Ne.symm hDC⟩) (fun ok s₄ h₄ => ?_) fun _ _ e => e
        cases ok with
        | true =>
          simp only [if_true] at h₄ ⊢
          refine wpAny_mono h₄ (fun kv s₅ h₅ => wpAny_mono h₅ (fun vv s₆ h₆ => ?_) fun _ _ e => e) fun _ _ e => e
          obtain ⟨kk, hkk, h₄, tk₄, news₄, rfl, F₄, N₄, off₄, _, R₄⟩ := h₆
          have zI := (N₄ (I, oI) List.mem_cons_self).1
          have zC := (N₄ (H2.objs.size, oC) (List.mem_cons_of_mem _ List.mem_cons_self)).1
          have zD := (N₄ (s₂.heap.objs.size, oD) (List.mem_cons_of_mem _ (List.mem_cons_of_mem _ List.mem_cons_self))).1
          have N₄' : News h₀ L h₄ news₄ := fun p hp => N₄ p (List.mem_cons_of_mem _ (List.mem_cons_of_mem _ (List.mem_cons_of_mem _ hp)))
          have hst₄ : St (i + 1) h₄ := hSt _ _ _ _ _ hst₃ heI zI F₄.keep N₄'
          have hD₄ : h₄.DictOf knd s₂.heap.objs.size kvs := Heap.dictOf_iff.mpr ⟨oD, zD, hdD⟩
          refine wpAny_dictSet_pairs (hsz := Nat.le_trans (Nat.le_trans hyl hi) hsz) hkk hD₄ fun h₅ hl₅ hs₅ => ?_
          obtain ⟨oD', hoD', hdD'⟩ := Heap.dictOf_iff.mp hl₅
          have off4 := off₄.mem
          refine ⟨n + 1 - (i + 1), by omega, h₅, _, i + 1, stored kvs kk vv, oD', _, news₄, rfl, hlt, rfl, Nat.le_trans (stored_len _ _ _) (Nat.succ_le_succ hyl), W.frame _ _ _ hst₄ fun b hb o e => hs₅.extBut b o (fun q => hDf (q ▸ hb)) e, F₄.change hs₅ hDL hD₀,
            (hoC.ns zC).sameBut hs₅ (Ne.symm hDC), fun p hp => ?_, hdD', off₄, R₄⟩
          rcases List.mem_cons.mp hp with rfl | hp
          · exact ⟨hoD', hDL, hD₀⟩
          · exact ⟨hs₅.extBut _ _ (off4 p hp).2.2 (N₄' p hp).1, (N₄' p hp).2⟩
        | false =>
          simp only [Bool.false_eq_true, if_false] at h₄ ⊢
          obtain ⟨h₅, tk₄, news₄, rfl, F₄, N₄, off₄, _, R₄⟩ := h₄
          have zI := (N₄ (I, oI) List.mem_cons_self).1
          have zC := (N₄ (H2.objs.size, oC) (List.mem_cons_of_mem _ List.mem_cons_self)).1
          have N₄' : News h₀ L h₅ news₄ := fun p hp => N₄ p (List.mem_cons_of_mem _ (List.mem_cons_of_mem _ (List.mem_cons_of_mem _ hp)))
          have hst₄ : St (i + 1) h₅ := hSt _ _ _ _ _ hst₃ heI zI F₄.keep N₄'
          refine ⟨n + 1 - (i + 1), by omega, h₅, tk₄, i + 1, kvs, oD, _, news₄, rfl, hlt, rfl, Nat.le_succ_of_le hyl, hst₄, F₄, hoC.ns zC, fun p hp => ?_, hdD, off₄, R₄⟩
          rcases List.mem_cons.mp hp with rfl | hp
          · exact N₄ _ (List.mem_cons_of_mem _ (List.mem_cons_of_mem _ List.mem_cons_self))
          · exact N₄' p hp
      · obtain rfl : i = n := Nat.le_antisymm hi (Nat.not_lt.mp hlt)
        refine W.done _ _ _ hst' fun h₂ tk₂ hk₂ => ?_
        have off3 := off'.mem
        exact hRR _ _ h₂ tk₂ _ kvs oD news' (fr_but F' hk₂ hIL hI₀) (news_but N' hk₂ fun p hp => by
          rcases List.mem_cons.mp hp with rfl | hp
          · exact Ne.symm hDI
          · exact (off3 p hp).1) hdD off'.one (hn'.at' fun o e => hk₂ _ o (by simpa using Ne.symm hCI) e) hC₀ hD₀ hCL hDL (Ne.symm hDC) (fun p hp => (off3 p hp).2.1) R' rfl
    · rcases List.mem_cons.mp hp with rfl | hp
      · exact ⟨hoD₀, hDL, hD₀⟩
      · exact ⟨old _ _ (N p hp).1, (N p hp).2⟩
  exact codeAny_compStart_dict (loop _ rfl) (W.self 0 _ _ _ hst₁ (loop _ rfl))

noncomputable def DSrc (prog : Program) (w : World) (A : Around) {K : Type} [DecidableEq K] (knd : KeyKind prog w K) (h₀ : Heap) (L : Addr) (m : Names) (env : Env) (kx vx : Expr) (ifs : List Expr) (x : Str) (scope : Scope) (cl : List (Str × Addr)) (Q : Value → Shared → Prop) (xv : Value) (s₁ : Shared) : Prop :=
  ∃ r a b t u v n news J, xv = .ref r ∧ A.handled = none ∧ Fr h₀ L s₁.heap m ∧ News h₀ L s₁.heap news ∧ IsRange s₁.heap r a b 1 t u v ∧ Builtin.Range.small a b 1 = true ∧ Builtin.Range.rangeSize a b 1 = ((n : Nat) : Int) ∧ n ≤ sizeLine ∧ J 0 [] news ∧
    ∀ s₂ : Shared, (∃ h, s₂ = { s₁ with heap := h }) → DTurn prog w A knd h₀ L m env kx vx ifs x scope cl s₂ n (fun i v => ∃ t, v = .int (a + (i : Int)) t) J ∧
      (∀ D h tk kvs oD news', Fr h₀ L h m → News h₀ L h ((D, oD) :: news') → oD.IsDictOf knd kvs → Off1 D news' → J n kvs news' → (sysModules < h₀.objs.size → (D == sysModules) = false) → Q (.ref D) { s₂ with heap := h, toks := tk })

theorem DSrc.range {K : Type} [DecidableEq K] {knd : KeyKind prog w K} {kx vx : Expr} {ifs : List Expr} {x : Str} {scope : Scope} {cl : List (Str × Addr)} {Q : Value → Shared → Prop} {r : Addr} {a b : Int} {t u v : Tok} {n : Nat} {news : Led} {s₁ : Shared} (J : Nat → List (K × Value) → Led → Prop)
    (hh : A.handled = none) (F : Fr h₀ L s₁.heap m) (N : News h₀ L s₁.heap news) (hr : IsRange s₁.heap r a b 1 t u v) (hsm : Builtin.Range.small a b 1 = true) (hn : Builtin.Range.rangeSize a b 1 = ((n : Nat) : Int)) (hsz : n ≤ sizeLine) (h0 : J 0 [] news)
    (turn : ∀ g, DTurn prog w A knd h₀ L m env kx vx ifs x scope cl { s₁ with heap := g } n (fun i v => ∃ t, v = .int (a + (i : Int)) t) J)
    (fin : ∀ D h tk kvs oD news', Fr h₀ L h m → News h₀ L h ((D, oD) :: news') → oD.IsDictOf knd kvs → Off1 D news' → J n kvs news' → (sysModules < h₀.objs.size → (D == sysModules) = false) → Q (.ref D) { s₁ with heap := h, toks := tk }) :
    DSrc prog w A knd h₀ L m env kx vx ifs x scope cl Q (.ref r) s₁ :=
  ⟨r, a, b, t, u, v, n, news, J, rfl, hh, F, N, hr, hsm, hn, hsz, h0, fun _ ⟨g, e⟩ => e ▸ ⟨turn g, fin⟩⟩

theorem DictComp_J {K : Type} [DecidableEq K] (knd : KeyKind prog w K) {kx vx iter : Expr} {ifs : List Expr} {x : Str} {px : Pos} {scope : Scope} {cl : List (Str × Addr)} {pos : Pos} {Q : Value → Shared → Prop} (_F₀ : Fr h₀ L s.heap m)
    (hclos : closureFor scope env = pure cl) (hcell : ∀ y ∈ scope.names, y.2 ≠ .cell) (hkind : scope.kind = .function)
    (hnames : ∀ y ∈ scope.names, y.2 = .local → scope.names.lookup y.1 = some .local) (hx : scope.names.lookup x = some .local)
    (h : wpAny (model prog w) A (eval iter env) (DSrc prog w A knd h₀ L m env kx vx ifs x scope cl Q) E s)
    (hs : ∀ x, foldedSetIterable iter env x = pure x := by intro _; rfl) :
    wpAny (model prog w) A (eval (.DictComp kx vx [⟨.Name x px, iter, ifs, 0⟩] scope pos) env) Q E s := by
  rw [arm_eval_DictComp]
  refine wpAny_comprehension_free (use := none) rfl hs hclos hkind hnames (wpAny_mono h (fun xv s₁ h₁ => ?_) fun _ _ e => e)
  obtain ⟨r, a, b, t, u, v, n, news, J, rfl, hh, F, N, hr, hsm, hn, hsz, h0, R⟩ := h₁
  refine wpAny_pyIter_range hr hsm ?_
  obtain ⟨R1, R2⟩ := R _ ⟨_, rfl⟩
  refine block_D J (range_walks hh a n) hsz (fun i h st => ⟨_, st⟩) (fun i h h' o nw st e e' k N' => range_st i h h' o nw st e e' k N' trivial) hcell hkind hx (by show IsRangeIter _ _ _ _ _; rw [hn]; simpa using Heap.get?_push_size _ rfl) (fun b hb => ?_)
    (F.keeps fun _ _ e => Heap.get?_push_of_some _ e) (N.grown fun _ _ e => Heap.get?_push_of_some _ e) (Nat.ne_of_lt F.ns.lt) (next_is_new F) (fun p hp => Nat.ne_of_lt (Heap.lt_size (N p hp).1)) h0 R1 ?_
  · rw [List.mem_singleton.mp hb]
    show s₁.heap.objs.size < (s₁.heap.push _).objs.size
    rw [Heap.size_push]; exact Nat.lt_succ_self _
  · intro D C h tk m' kvs oD news' F' N' hd o1 hn hC₀ hD₀ hCL hDL hCD offC fin hDe
    refine ⟨m', hn, fun h'' hs'' => R2 D h'' tk kvs oD news' (F'.change hs'' hCL hC₀) (fun p hp => ?_) hd o1 fin fun hb => by subst hDe; exact (F.keeps fun _ _ e => Heap.get?_push_of_some _ e).notModules hb⟩
    refine ⟨hs''.extBut _ _ ?_ (N' p hp).1, (N' p hp).2⟩
    rcases List.mem_cons.mp hp with rfl | hp
    · exact Ne.symm hCD
    · exact offC p hp
end

end
-- B2c
section
open LCg LCt
section
variable {prog : Program} {w : World} {A : Around} {E : Value → Shared → Prop} {s : Shared} {h₀ : Heap} {L : Addr} {m : Names} {env : Env}
noncomputable def DSrcA (prog : Program) (w : World) (A : Around) {K : Type} [DecidableEq K] (knd : KeyKind prog w K) (h₀ : Heap) (L : Addr) (m : Names) (env : Env) (kx vx : Expr) (ifs : List Expr) (x y : Str) (scope : Scope) (cl : List (Str × Addr)) (Q : Flow → Shared → Prop) (xv : Value) (s₁ : Shared) : Prop :=
  ∃ r a b t u v n news J, xv = .ref r ∧ A.handled = none ∧ Fr h₀ L s₁.heap m ∧ News h₀ L s₁.heap news ∧ IsRange s₁.heap r a b 1 t u v ∧ Builtin.Range.small a b 1 = true ∧ Builtin.Range.rangeSize a b 1 = ((n : Nat) : Int) ∧ n ≤ sizeLine ∧ J 0 [] news ∧
    ∀ s₂ : Shared, (∃ h, s₂ = { s₁ with heap := h }) → DTurn prog w A knd h₀ L m env kx vx ifs x scope cl s₂ n (fun i v => ∃ t, v = .int (a + (i : Int)) t) J ∧
      (∀ D h tk kvs oD news', Fr h₀ L h (fun z => if z = y then some (.ref D) else m z) → News h₀ L h ((D, oD) :: news') → oD.IsDictOf knd kvs → Off1 D news' → J n kvs news' → (sysModules < h₀.objs.size → (D == sysModules) = false) → Q .next { s₂ with heap := h, toks := tk })

theorem DSrcA.range {K : Type} [DecidableEq K] {knd : KeyKind prog w K} {kx vx : Expr} {ifs : List Expr} {x y : Str} {scope : Scope} {cl : List (Str × Addr)} {Q : Flow → Shared → Prop} {r : Addr} {a b : Int} {t u v : Tok} {n : Nat} {news : Led} {s₁ : Shared} (J : Nat → List (K × Value) → Led → Prop)
    (hh : A.handled = none) (F : Fr h₀ L s₁.heap m) (N : News h₀ L s₁.heap news) (hr : IsRange s₁.heap r a b 1 t u v) (hsm : Builtin.Range.small a b 1 = true) (hn : Builtin.Range.rangeSize a b 1 = ((n : Nat) : Int)) (hsz : n ≤ sizeLine) (h0 : J 0 [] news)
    (turn : ∀ g, DTurn prog w A knd h₀ L m env kx vx ifs x scope cl { s₁ with heap := g } n (fun i v => ∃ t, v = .int (a + (i : Int)) t) J)
    (fin : ∀ D h tk kvs oD news', Fr h₀ L h (fun z => if z = y then some (.ref D) else m z) → News h₀ L h ((D, oD) :: news') → oD.IsDictOf knd kvs → Off1 D news' → J n kvs news' → (sysModules < h₀.objs.size → (D == sysModules) = false) → Q .next { s₁ with heap := h, toks := tk }) :
    DSrcA prog w A knd h₀ L m env kx vx ifs x y scope cl Q (.ref r) s₁ :=
  ⟨r, a, b, t, u, v, n, news, J, rfl, hh, F, N, hr, hsm, hn, hsz, h0, fun _ ⟨g, e⟩ => e ▸ ⟨turn g, fin⟩⟩

theorem Assign_DictComp_J {K : Type} [DecidableEq K] (knd : KeyKind prog w K) {kx vx iter : Expr} {ifs : List Expr} {x y : Str} {px py : Pos} {scope : Scope} {cl : List (Str × Addr)} {pos spos : Pos} {Q : Flow → Shared → Prop} (_F₀ : Fr h₀ L s.heap m) (hLe : env.locals = L)
    (hsw : swapsWith (.DictComp kx vx [⟨.Name x px, iter, ifs, 0⟩] scope pos) (some (.Name y py)) spos.line env = pure true)
    (hclos : closureFor scope env = pure cl) (hcell : ∀ z ∈ scope.names, z.2 ≠ .cell) (hkind : scope.kind = .function)
    (hnames : ∀ z ∈ scope.names, z.2 = .local → scope.names.lookup z.1 = some .local) (hx : scope.names.lookup x = some .local)
    (hy : env.kindOf y = some .local) (hp : (env.scope.kind == .class || (env.scope.kind == .module && env.locals != env.globals)) = false)
    (h : wpAny (model prog w) A (eval iter env) (DSrcA prog w A knd h₀ L m env kx vx ifs x y scope cl Q) E s)
    (hs : ∀ x, foldedSetIterable iter env x = pure x := by intro _; rfl) :
    wpAny (model prog w) A (exec (.Assign [.Name y py] (.DictComp kx vx [⟨.Name x px, iter, ifs, 0⟩] scope pos) spos) env) Q E s := by
  subst hLe
  rw [exec_Assign_Name_used _ _ _ _ hsw]
  refine wpAny_bind (wpAny_standAt (wpAny_bind ?_))
  show wpAny _ A (do let _ ← comprehension (.DictComp kx vx [⟨.Name x px, iter, ifs, 0⟩] scope pos) scope env _ newDict false (eval iter env) (some (assign (.Name y py) env))) _ _ s
  refine wpAny_bind (wpAny_mono (wpAny_comprehension_free (use := some (assign (.Name y py) env)) (Q := fun _ s' => Q .next s') rfl hs hclos hkind hnames
    (wpAny_mono h (fun xv s₁ h₁ => ?_) fun _ _ e => e)) (fun _ s' hq => wpAny_pure (wpAny_pure hq)) fun _ _ e => e)
  obtain ⟨r, a, b, t, u, v, n, news, J, rfl, hh, F, N, hr, hsm, hn, hsz, h0, R⟩ := h₁
  refine wpAny_pyIter_range hr hsm ?_
  obtain ⟨R1, R2⟩ := R _ ⟨_, rfl⟩
  refine block_D J (range_walks hh a n) hsz (fun i h st => ⟨_, st⟩) (fun i h h' o nw st e e' k N' => range_st i h h' o nw st e e' k N' trivial) hcell hkind hx (by show IsRangeIter _ _ _ _ _; rw [hn]; simpa using Heap.get?_push_size _ rfl) (fun b hb => ?_)
    (F.keeps fun _ _ e => Heap.get?_push_of_some _ e) (N.grown fun _ _ e => Heap.get?_push_of_some _ e) (Nat.ne_of_lt F.ns.lt) (next_is_new F) (fun p hp => Nat.ne_of_lt (Heap.lt_size (N p hp).1)) h0 R1 ?_
  · rw [List.mem_singleton.mp hb]
    show s₁.heap.objs.size < (s₁.heap.push _).objs.size
    rw [Heap.size_push]; exact Nat.lt_succ_self _
  · intro D C h' tk m' kvs oD news' F' N' hd o1 hn hC₀ hD₀ hCL hDL hCD offC fin hDe
    show wpAny _ A (assign (.Name y py) env (.ref D)) _ _ _
    refine wpAny_assign_Name (wpAny_storeName_local hy F'.ns (fun h₂ hn₂ hs₂ => ?_) hp)
    have hL₀ : h₀.get? env.locals = none := Heap.get?_none_of_le F'.above
    have F₂ : Fr h₀ env.locals h₂ (fun z => if z = y then some (.ref D) else m z) := ⟨hn₂, fun b o e => hs₂.extBut b o (fun q => by rw [q, hL₀] at e; cases e) (F'.keep b o e), F'.above⟩
    refine ⟨m', hn.sameBut hs₂ hCL, fun h'' hs'' => R2 D h'' _ kvs oD news' (F₂.change hs'' hCL hC₀) (fun p hp => ?_) hd o1 fin fun hb => by subst hDe; exact (F.keeps fun _ _ e => Heap.get?_push_of_some _ e).notModules hb⟩
    have z : h₂.get? p.1 = some p.2 := hs₂.extBut _ _ (N' p hp).2.1 (N' p hp).1
    refine ⟨hs''.extBut _ _ ?_ z, (N' p hp).2⟩
    rcases List.mem_cons.mp hp with rfl | hp
    · exact Ne.symm hCD
    · exact offC p hp
end

end
-- B3a
section
theorem owner_filter : Manifest.owners.lookup (String.ofList ['r', 'e', 't', 'l', 'i', 'f'].reverse) = some Manifest.sig_filter := by kernel_rfl
theorem slot_filter_next : Slot "filter" "__next__" "filter.__next__" :=
  .of (owner := "filter") (n := "__next__") (by rw [typeLookup_type, builtinLookup_eq_fast]; kernel_rfl) (by decide +kernel) (by decide +kernel) (by decide +kernel)
    (by first | exact .inl (by decide +kernel) | exact .inr (by decide +kernel)) (by rw [isSubtype_type]; kernel_rfl)
theorem entry_filter_next : entryFor table "filter.__next__" = some Builtin.«filter.__next__» := entryFor_of_tree (by kernel_rfl)
theorem args_filter_next_1 (a : Value) : argsOk "filter.__next__" ⟨[a], []⟩ := by
  unfold argsOk; rw [signature?_of (id := "filter.__next__") (n := ['_', '_', 't', 'x', 'e', 'n', '_', '_']) (o := ['r', 'e', 't', 'l', 'i', 'f']) (by kernel_rfl) owner_filter]; kernel_rfl
theorem slot_filter_iter : Slot "filter" "__iter__" "filter.__iter__" :=
  .of (owner := "filter") (n := "__iter__") (by rw [typeLookup_type, builtinLookup_eq_fast]; kernel_rfl) (by decide +kernel) (by decide +kernel) (by decide +kernel)
    (by first | exact .inl (by decide +kernel) | exact .inr (by decide +kernel)) (by rw [isSubtype_type]; kernel_rfl)
theorem args_filter_iter_1 (a : Value) : argsOk "filter.__iter__" ⟨[a], []⟩ := by
  unfold argsOk; rw [signature?_of (id := "filter.__iter__") (n := ['_', '_', 'r', 'e', 't', 'i', '_', '_']) (o := ['r', 'e', 't', 'l', 'i', 'f']) (by kernel_rfl) owner_filter]; kernel_rfl
theorem entry_filter_iter : entryFor table "filter.__iter__" = some Builtin.«dict_keyiterator.__iter__» :=
  entryFor_alias (id' := "dict_keyiterator.__iter__") (by kernel_rfl) (by first | rfl | decide +kernel | (unfold String.splitOn; simp +decide [String.splitOnAux])) (by decide +kernel) (by kernel_rfl)
theorem slot_filter_init : Slot "filter" "__init__" "object.__init__" :=
  .of (owner := "object") (n := "__init__") (by rw [typeLookup_type, builtinLookup_eq_fast]; kernel_rfl) (by decide +kernel) (by decide +kernel) (by decide +kernel)
    (by first | exact .inl (by decide +kernel) | exact .inr (by decide +kernel)) (by rw [isSubtype_type]; kernel_rfl)
theorem mro_filter : mroOf (.type "filter") = pure [.type "filter", .type "object"] := by rw [mroOf_type]; kernel_rfl
theorem lookup_filter_new : typeLookup (.type "filter") "__new__" = pure (some (.builtin "filter.__new__")) := by rw [typeLookup_type, builtinLookup_eq_fast]; kernel_rfl
theorem called_filter : TypeCalled "filter" "filter.__new__" "object.__init__" :=
  ⟨by decide +kernel, by decide +kernel, ⟨_, _, mro_filter⟩, madeBy_type mro_filter lookup_filter_new (by decide +kernel), by decide +kernel, by rw [isSubtype_type]; kernel_rfl, slot_filter_init⟩
theorem typeCall_filter_2 (a b : Value) : checkTypeCall "filter" ⟨[a, b], []⟩ = pure () := by kernel_rfl
theorem newCall_filter_2 (a b : Value) : checkBuiltinCall "filter.__new__" ⟨[.type "filter", a, b], []⟩ = pure () := by kernel_rfl
theorem entry_filter_new : entryFor table "filter.__new__" = some Builtin.«filter.__new__» := entryFor_of_tree (by kernel_rfl)
theorem plain_filter_next : plainId "filter.__next__" = true := by decide +kernel
theorem sub_filter : isSubtype (.type "filter") (.type "filter") = pure true := by rw [isSubtype_type]; kernel_rfl
theorem no_contains_values : typeLookup (.type "dict_values") "__contains__" = pure none := by rw [typeLookup_type, builtinLookup_eq_fast]; kernel_rfl
theorem newClass_filter (a b : Value) : Builtin.SmallTypes.newClass "filter" ⟨[.type "filter", a, b], []⟩ = pure (.type "filter", [a, b]) := by
  unfold Builtin.SmallTypes.newClass
  simp only [isType, sub_filter, pure_bind, Bool.not_true, Bool.false_eq_true, if_false]

end
-- B3
section
noncomputable def ov : Option Int → Tok → Value
  | none, _ => .none
  | some i, t => .int i t
inductive OvL : List (Option Int) → List Value → Prop
  | nil : OvL [] []
  | cons {o t os vs} : OvL os vs → OvL (o :: os) (ov o t :: vs)
theorem OvL.length {os vs} (h : OvL os vs) : os.length = vs.length := by
  induction h with
  | nil => rfl
  | cons _ ih => simp [ih]
theorem OvL.get {os vs} (h : OvL os vs) : ∀ {i : Nat} {o}, os[i]? = some o → ∃ t, vs[i]? = some (ov o t) := by
  induction h with
  | nil => intro i o e; simp at e
  | @cons o t os vs h ih =>
    intro i o' e
    cases i with
    | zero => simp at e; subst e; exact ⟨t, rfl⟩
    | succ i => simpa using ih (by simpa using e)
theorem OvL.snoc {os vs} (h : OvL os vs) (o : Option Int) (t : Tok) : OvL (os ++ [o]) (vs ++ [ov o t]) := by
  induction h with
  | nil => exact .cons .nil
  | cons _ ih => exact .cons ih

noncomputable def nextT : List (Option Int) → Option (Int × List (Option Int))
  | [] => none
  | none :: r => nextT r
  | some x :: r => if x = 0 then nextT r else some (x, r)
noncomputable def up (b : Option Int) (x : Int) : Int := match b with | none => x | some y => if x > y then x else y
noncomputable def maxF : Option Int → List (Option Int) → Option Int
  | b, [] => b
  | b, none :: r => maxF b r
  | b, some x :: r => if x = 0 then maxF b r else maxF (some (up b x)) r
theorem maxF_next (b : Option Int) (os : List (Option Int)) : maxF b os = match nextT os with | none => b | some (x, r) => maxF (some (up b x)) r := by
  induction os with
  | nil => rfl
  | cons o r ih =>
    cases o with
    | none => simpa [maxF, nextT] using ih
    | some x =>
      by_cases hx : x = 0
      · simpa [maxF, nextT, hx] using ih
      · simp [maxF, nextT, hx]
theorem nextT_len {os : List (Option Int)} {x : Int} {r : List (Option Int)} (h : nextT os = some (x, r)) : r.length < os.length := by
  induction os with
  | nil => simp [nextT] at h
  | cons o s ih =>
    cases o with
    | none => have := ih (by simpa [nextT] using h); simp; omega
    | some y =>
      by_cases hy : y = 0
      · have := ih (by simpa [nextT, hy] using h); simp; omega
      · simp only [nextT, hy, if_false, Option.some.injEq, Prod.mk.injEq] at h
        obtain ⟨_, rfl⟩ := h
        simp

section
variable {prog : Program} {w : World} {K : Type} [DecidableEq K] {knd : KeyKind prog w K} {A : Around} {E : Value → Shared → Prop} {s : Shared}

theorem valiter_call_item {it d : Addr} {i ep : Nat} {kvs : List (K × Value)} {k : K} {v : Value} {Q : Option Value → Shared → Prop} (hit : s.heap.IsValIter it d i kvs.length ep)
    (hm : s.heap.DictAt knd d kvs ep) (hx : kvs[i]? = some (k, v))
    (hQ : ∀ h', h'.IsValIter it d (i + 1) kvs.length ep → Heap.SameBut it s.heap h' → Q (some v) { s with heap := h' }) :
    wpAny (model prog w) A (callSpecial? (.ref it) (Str.ofString "__next__")) Q E s := by
  obtain ⟨o, ho, hc, hd⟩ := id hit
  obtain ⟨od, es, hod, hcd, hdd, hk, hp, hn⟩ := id hm
  refine wpAny_callSpecial?_slot (name := Str.ofString "__next__") hit.typeIs F.slot_dict_valueiterator_next
    (wpAny_call_entry F.slot_dict_valueiterator_next hit.typeIs F.entry_dict_valueiterator_next ?_ (F.args_dict_valueiterator_next_1 _))
  refine wpAny_bind (wpAny_pure ?_)
  refine wpAny_bind ?_
  refine wpAny_bind ?_
  first | refine wpAny_bind (wpAny_typeNameOfWhole_valiter hit.typeIs (wpAny_pure ?_)) | refine wpAny_bind (wpAny_typeNameOf_valiter hit.typeIs (wpAny_pure ?_))
  refine wpAny_bind (wpAny_fieldsOf ho hd ?_)
  rw [if_neg (show ¬ (Builtin.Dict_items.ownsTuple "dict_valueiterator" = true) from by decide)]
  show wpAny _ _ (if (Value.ref d == Value.none) = true then _ else _) _ _ s
  rw [if_neg (show ¬ ((Value.ref d == Value.none) = true) from Bool.false_ne_true)]
  refine wpAny_bind (wpAny_pure ?_)
  refine wpAny_bind (wpAny_dictEntries hod hdd ?_)
  have hsz : es.size = kvs.length := by rw [← hp.length]; simp
  rw [if_neg (by rw [hsz]; simp)]
  refine wpAny_bind (wpAny_pure ?_)
  refine wpAny_bind (wpAny_dictEpoch hod hdd ?_)
  rw [if_neg (by simp)]
  refine wpAny_pure ?_
  have hlt : i < kvs.length := by
    rcases Nat.lt_or_ge i kvs.length with h | h
    · exact h
    · simp [List.getElem?_eq_none h] at hx
  have hlt' : i < es.size := by rw [hsz]; exact hlt
  have hval : es[i].val = v := (hp.get? (e := es[i]) (by simp [hlt']) hx).2
  simp only [show ¬ ((i : Int) < 0) from by omega, if_false, Int.toNat_natCast, Array.getElem?_eq_getElem hlt']
  refine wpAny_bind ?_
  first | refine wpAny_bind (wpAny_typeNameOfWhole_valiter hit.typeIs (wpAny_pure ?_)) | refine wpAny_bind (wpAny_typeNameOf_valiter hit.typeIs (wpAny_pure ?_))
  refine wpAny_bind (wpAny_isOneOf_valiter hit.typeIs ?_)
  show wpAny _ _ (setField (.ref it) 1 (rawInt ((i : Int) + 1)) >>= _) _ _ s
  refine wpAny_bind (wpAny_setField ho hd (by simp) ?_)
  have hit' : (s.heap.update it (Obj.mapFields (·.setIfInBounds 1 (rawInt ((i : Int) + 1))))).IsValIter it d (i + 1) kvs.length ep :=
    ⟨_, Heap.get?_update_self _ ho (Obj.isFreed_of_fields (Obj.data_mapFields hd _)), (Obj.cls_mapFields ..).trans hc, by rw [Obj.data_mapFields hd]; simp [rawInt]⟩
  refine wpAny_bind (wpAny_holding ?_)
  refine wpAny_bind (wpAny_isOneOf_valiter (s := { s with heap := s.heap.update it (Obj.mapFields (·.setIfInBounds 1 (rawInt ((i : Int) + 1)))) }) hit'.typeIs ?_)
  refine wpAny_bind (wpAny_isOneOf_valiter (s := { s with heap := s.heap.update it (Obj.mapFields (·.setIfInBounds 1 (rawInt ((i : Int) + 1)))) }) hit'.typeIs ?_)
  show wpAny _ _ (pure es[i].val) _ _ _
  exact wpAny_pure (wpAny_pure ⟨_, rfl, hval ▸ hQ _ hit' (Heap.SameBut.update ..)⟩)

theorem valiter_call_end {it d : Addr} {i ep : Nat} {kvs : List (K × Value)} {Q : Option Value → Shared → Prop} (hh : A.handled = none) (hit : s.heap.IsValIter it d i kvs.length ep)
    (hm : s.heap.DictAt knd d kvs ep) (hx : kvs[i]? = none)
    (hE : ∀ a h', Heap.ExtBut it s.heap h' → Shared.TypeIs { s with heap := h' } (.ref a) "StopIteration" → E (.ref a) { s with heap := h' }) :
    wpAny (model prog w) A (callSpecial? (.ref it) (Str.ofString "__next__")) Q E s := by
  obtain ⟨o, ho, hc, hd⟩ := id hit
  obtain ⟨od, es, hod, hcd, hdd, hk, hp, hn⟩ := id hm
  refine wpAny_callSpecial?_slot (name := Str.ofString "__next__") hit.typeIs F.slot_dict_valueiterator_next
    (wpAny_call_entry F.slot_dict_valueiterator_next hit.typeIs F.entry_dict_valueiterator_next ?_ (F.args_dict_valueiterator_next_1 _))
  refine wpAny_bind (wpAny_pure ?_)
  refine wpAny_bind ?_
  refine wpAny_bind ?_
  first | refine wpAny_bind (wpAny_typeNameOfWhole_valiter hit.typeIs (wpAny_pure ?_)) | refine wpAny_bind (wpAny_typeNameOf_valiter hit.typeIs (wpAny_pure ?_))
  refine wpAny_bind (wpAny_fieldsOf ho hd ?_)
  rw [if_neg (show ¬ (Builtin.Dict_items.ownsTuple "dict_valueiterator" = true) from by decide)]
  show wpAny _ _ (if (Value.ref d == Value.none) = true then _ else _) _ _ s
  rw [if_neg (show ¬ ((Value.ref d == Value.none) = true) from Bool.false_ne_true)]
  refine wpAny_bind (wpAny_pure ?_)
  refine wpAny_bind (wpAny_dictEntries hod hdd ?_)
  have hsz : es.size = kvs.length := by rw [← hp.length]; simp
  rw [if_neg (by rw [hsz]; simp)]
  refine wpAny_bind (wpAny_pure ?_)
  refine wpAny_bind (wpAny_dictEpoch hod hdd ?_)
  rw [if_neg (by simp)]
  refine wpAny_pure ?_
  have hge : es.size ≤ i := by rw [hsz]; simpa using hx
  simp only [show ¬ ((i : Int) < 0) from by omega, if_false, Int.toNat_natCast, Array.getElem?_eq_none hge]
  refine wpAny_bind ?_
  first | refine wpAny_bind (wpAny_typeNameOfWhole_valiter hit.typeIs (wpAny_pure ?_)) | refine wpAny_bind (wpAny_typeNameOf_valiter hit.typeIs (wpAny_pure ?_))
  show wpAny _ _ (setField (.ref it) 0 .none >>= _) _ _ s
  refine wpAny_bind (wpAny_setField ho hd (by simp) ?_)
  show wpAny _ _ (newExc (.type "StopIteration") [] >>= _) _ _ _
  refine wpAny_bind ?_
  unfold newExc newTuple
  refine wpAny_bind (wpAny_newObj_type ?_ (by size_fits))
  refine wpAny_bind (m := firstArgMember _ _) (wpAny_of_eq (a := Value.none) (by first | rfl | (simp only [firstArgMember]; rfl)) ?_)
  refine wpAny_newObj_type ?_ (by size_fits)
  unfold raiseNew
  dsimp only
  refine wpAny_bind (wpAny_handled ?_)
  rw [show A.in1.handled = none from hh]
  refine wpAny_bind (wpAny_pure (wpAny_throw ?_))
  exact hE _ _ (((Heap.SameBut.update ..).extBut.push _).push _) ⟨_, Heap.get?_push_size _ rfl, rfl⟩
end

end
-- B4
section
noncomputable abbrev filtObj (it : Addr) : Obj := { cls := .type "filter", data := .fields #[.none, .ref it] }
noncomputable abbrev valObj (d : Addr) (n ep : Nat) : Obj := { cls := .type "dict_valueiterator", data := .fields #[.ref d, .int 0 0, .int n 0, .int ep 0] }
theorem dictAt_same {prog : Program} {w : World} {K : Type} [DecidableEq K] {knd : KeyKind prog w K} {h h' : Heap} {d it : Addr} {kvs : List (K × Value)} {ep : Nat} (x : h.DictAt knd d kvs ep) (hs : Heap.SameBut it h h') (hne : d ≠ it) : h'.DictAt knd d kvs ep :=
  let ⟨o, es, ho, r⟩ := x; ⟨o, es, (hs.2 d hne).trans ho, r⟩
section
variable {prog : Program} {w : World} {K : Type} [DecidableEq K] {knd : KeyKind prog w K} {A : Around} {E : Value → Shared → Prop} {s : Shared} {Ff It d : Addr} {ep : Nat} {kvs : List (K × Value)} {os : List (Option Int)}

noncomputable def TreeAny (prog : Program) (w : World) (A : Around) (R : Result → Shared → Prop) (t : Sem Fin) (s : Shared) : Prop :=
  wpAny (model prog w) A.in1 t (fun fin s' => match fin with | .done f => R (.ok f) s' | .again c' => c'.quiet = true ∧ codeAny (model prog w) A c' R s') (fun e s' => R (.error e) s') s

theorem filter_tree {R : Result → Shared → Prop} (hh : A.handled = none) (hFI : Ff ≠ It) (hdI : d ≠ It) (hlen : os.length = kvs.length) (hkv : ∀ (i : Nat) (o : Option Int), os[i]? = some o → ∃ k t, kvs[i]? = some (k, ov o t)) :
    ∀ (rest : List (Option Int)) (i : Nat) (hp : Heap), os.drop i = rest → i ≤ os.length → hp.get? Ff = some (filtObj It) → hp.IsValIter It d i kvs.length ep → hp.DictAt knd d kvs ep →
    (∀ x r t h' j, nextT rest = some (x, r) → os.drop j = r → j ≤ os.length → h'.IsValIter It d j kvs.length ep → Heap.SameBut It hp h' → R (.ok (.ret (.int x t))) { s with heap := h' }) →
    (nextT rest = none → ∀ a h', Heap.ExtBut It hp h' → Shared.TypeIs { s with heap := h' } (.ref a) "StopIteration" → R (.error (.ref a)) { s with heap := h' }) →
    TreeAny prog w A R (Builtin.«filter.__next__» ⟨[.ref Ff], []⟩) { s with heap := hp } := by
  have toC : ∀ (h' : Heap), TreeAny prog w A R (Builtin.«filter.__next__» ⟨[.ref Ff], []⟩) { s with heap := h' } → codeAny (model prog w) A (.builtin "filter.__next__" ⟨[.ref Ff], []⟩) R { s with heap := h' } := fun h' ht => by
    refine codeAny_builtin entry_filter_next ?_
    rw [Around.under_plainId plain_filter_next _]
    exact ht
  intro rest
  induction rest with
  | nil =>
    intro i hp hdrop hi hF hit hm hret hstop
    have hin : os.length ≤ i := by
      have := congrArg List.length hdrop
      simp at this; omega
    unfold TreeAny
    unfold Builtin.«filter.__next__»
    refine wpAny_bind (wpAny_of_eq (a := (Value.ref Ff, [])) rfl ?_)
    dsimp only
    refine wpAny_bind (wpAny_field hF rfl (x := .none) rfl ?_)
    refine wpAny_bind (wpAny_field hF rfl (x := .ref It) rfl ?_)
    refine wpAny_bind (valiter_call_end (s := { s with heap := hp }) (by exact hh) hit hm (by simp; omega) ?_)
    intro a h' hs hT
    exact hstop rfl a h' hs hT
  | cons o r ih =>
    intro i hp hdrop hi hF hit hm hret hstop
    have hlt : i < os.length := by
      have := congrArg List.length hdrop
      simp at this; omega
    have hoi : os[i]? = some o := by
      have := congrArg (·[0]?) hdrop
      simpa using this
    have hd1 : os.drop (i + 1) = r := by
      have := congrArg List.tail hdrop
      simpa using this
    obtain ⟨k, t, hk⟩ := hkv i o hoi
    unfold TreeAny
    unfold Builtin.«filter.__next__»
    refine wpAny_bind (wpAny_of_eq (a := (Value.ref Ff, [])) rfl ?_)
    dsimp only
    refine wpAny_bind (wpAny_field hF rfl (x := .none) rfl ?_)
    refine wpAny_bind (wpAny_field hF rfl (x := .ref It) rfl ?_)
    refine wpAny_bind (valiter_call_item (s := { s with heap := hp }) hit hm hk ?_)
    intro h' hit' hs'
    dsimp only
    have hF' : h'.get? Ff = some (filtObj It) := (hs'.2 Ff hFI).trans hF
    have hm' := dictAt_same hm hs' hdI
    refine wpAny_bind (wpAny_holding ?_)
    rw [if_pos (by rfl)]
    refine wpAny_bind (wpAny_rule ?_)
    cases o with
    | none =>
      show wpAny _ _ (truthy Value.none) _ _ _
      refine wpAny_of_eq (a := false) rfl ?_
      rw [if_neg (by simp)]
      refine wpAny_pure ⟨plainId_quiet plain_filter_next _, ?_⟩
      refine toC h' ?_
      exact ih (i + 1) h' hd1 hlt hF' hit' hm' (fun x r' t' h'' j h1 h2 h3 h4 h5 => hret x r' t' h'' j h1 h2 h3 h4 (hs'.trans h5)) (fun h1 a h'' h2 h3 => hstop h1 a h'' (fun b o hb e => h2 b o hb ((hs'.2 b hb).trans e)) h3)
    | some x =>
      show wpAny _ _ (truthy (Value.int x t)) _ _ _
      refine PySem.P.truthy_int ?_
      by_cases hx : x = 0
      · subst hx
        rw [if_neg (by simp)]
        refine wpAny_pure ⟨plainId_quiet plain_filter_next _, ?_⟩
        refine toC h' ?_
        exact ih (i + 1) h' hd1 hlt hF' hit' hm' (fun x r' t' h'' j h1 h2 h3 h4 h5 => hret x r' t' h'' j (by simpa [nextT] using h1) h2 h3 h4 (hs'.trans h5)) (fun h1 a h'' h2 h3 => hstop (by simpa [nextT] using h1) a h'' (fun b o hb e => h2 b o hb ((hs'.2 b hb).trans e)) h3)
      · rw [if_pos (by simpa using hx)]
        refine wpAny_pure ?_
        exact hret x r t h' (i + 1) (by simp [nextT, hx]) hd1 hlt hit' hs'
end

end
-- B5
section
section
variable {prog : Program} {w : World} {K : Type} [DecidableEq K] {knd : KeyKind prog w K} {A : Around} {E : Value → Shared → Prop} {s : Shared} {Ff It S d : Addr} {ep : Nat} {kvs : List (K × Value)} {os : List (Option Int)}

theorem call_filter_next {Q : Value → Shared → Prop} {i : Nat} (hh : A.handled = none) (hFI : Ff ≠ It) (hdI : d ≠ It) (hlen : os.length = kvs.length) (hkv : ∀ (i : Nat) (o : Option Int), os[i]? = some o → ∃ k t, kvs[i]? = some (k, ov o t))
    (hi : i ≤ os.length) (hF : s.heap.get? Ff = some (filtObj It)) (hit : s.heap.IsValIter It d i kvs.length ep) (hm : s.heap.DictAt knd d kvs ep)
    (hret : ∀ x r t h' j, nextT (os.drop i) = some (x, r) → os.drop j = r → j ≤ os.length → h'.IsValIter It d j kvs.length ep → Heap.SameBut It s.heap h' → Q (.int x t) { s with heap := h' })
    (hstop : nextT (os.drop i) = none → ∀ a h', Heap.ExtBut It s.heap h' → Shared.TypeIs { s with heap := h' } (.ref a) "StopIteration" → E (.ref a) { s with heap := h' }) :
    wpAny (model prog w) A (call (.builtin "filter.__next__") [.ref Ff]) Q E s := by
  have hT : s.TypeIs (.ref Ff) "filter" := ⟨_, hF, rfl⟩
  refine wpAny_call (codeAny_call_builtin slot_filter_next.plain entry_filter_next (slot_filter_next.check _ _ _ _ _ _ _ _ hT (args_filter_next_1 _) ?_))
  exact filter_tree (s := s) (R := fun r s' => match r with | .ok (.ret v) => Q v s' | .ok _ => False | .error e => E e s') hh hFI hdI hlen hkv (os.drop i) i s.heap rfl hi hF hit hm hret hstop

theorem next_filter {Q : Option Value → Shared → Prop} {i : Nat} (hh : A.handled = none) (hFI : Ff ≠ It) (hdI : d ≠ It) (hlen : os.length = kvs.length) (hkv : ∀ (i : Nat) (o : Option Int), os[i]? = some o → ∃ k t, kvs[i]? = some (k, ov o t))
    (hi : i ≤ os.length) (hF : s.heap.get? Ff = some (filtObj It)) (hit : s.heap.IsValIter It d i kvs.length ep) (hm : s.heap.DictAt knd d kvs ep)
    (hret : ∀ x r t h' j, nextT (os.drop i) = some (x, r) → os.drop j = r → j ≤ os.length → h'.IsValIter It d j kvs.length ep → Heap.SameBut It s.heap h' → Q (some (.int x t)) { s with heap := h' })
    (hstop : nextT (os.drop i) = none → ∀ h', Heap.ExtBut It s.heap h' → Q none { s with heap := h' }) :
    wpAny (model prog w) A (pyNext (.ref Ff)) Q E s := by
  unfold pyNext
  have hT : s.TypeIs (.ref Ff) "filter" := ⟨_, hF, rfl⟩
  refine wpAny_bind (wpAny_attempt (wpAny_callSpecial?_slot (name := Str.ofString "__next__") hT slot_filter_next (call_filter_next hh hFI hdI hlen hkv hi hF hit hm ?_ ?_)))
  · intro x r t h' j h1 h2 h3 h4 h5
    exact wpAny_pure (hret x r t h' j h1 h2 h3 h4 h5)
  · intro h1 a h' h2 h3
    dsimp only
    refine wpAny_bind (wpAny_isInstance (T := "StopIteration") (b := true) h3 isSubtype_stop ?_)
    exact wpAny_pure (hstop h1 h' h2)

noncomputable def bestArr (b : Option (Int × Tok)) : Array Value := match b with | none => #[] | some (x, t) => #[.int x t, .int x t]

theorem max_filt_loop {R : Result → Shared → Prop} {dv : Int} {td : Tok} (hh : A.handled = none) (hFI : Ff ≠ It) (hdI : d ≠ It) (hSI : S ≠ It) (hSF : S ≠ Ff) (hSd : S ≠ d) (hlen : os.length = kvs.length) (hkv : ∀ (i : Nat) (o : Option Int), os[i]? = some o → ∃ k t, kvs[i]? = some (k, ov o t)) :
    ∀ (r i : Nat) (best : Option (Int × Tok)) (hp : Heap) (tk : Nat) (c : Nat), os.length - i ≤ r → i ≤ os.length → hp.get? Ff = some (filtObj It) → hp.IsValIter It d i kvs.length ep → hp.DictAt knd d kvs ep → hp.get? S = some (seqObj "list" (bestArr best) c) →
    (∀ t h' tk', (∀ b o, b ≠ It → b ≠ S → hp.get? b = some o → h'.get? b = some o) → R (.ok (.ret (.int ((maxF (best.map (·.1)) (os.drop i)).getD dv) t))) { s with heap := h', toks := tk' }) →
    codeAny (model prog w) A (.builtin "max.loop" ⟨[.ref Ff, .none, .ref S], [(Str.ofString "default", .int dv td)]⟩) R { s with heap := hp, toks := tk } := by
  have hname : (toString "max" ++ toString ".loop" : String) = "max.loop" := by decide
  intro r
  induction r with
  | zero =>
    intro i best hp tk c hr hi hF hit hm hS hR
    have hin : os.drop i = [] := by simp; omega
    refine codeAny_builtin PySem.F.entry_max_loop ?_
    rw [Around.under_plainId PySem.F.plain_max_loop _]
    show wpAny _ A.in1 (seqItems? (.ref S) >>= _) _ _ _
    refine wpAny_bind (wpAny_seqItems hS rfl ?_)
    show wpAny _ A.in1 (tryCatch (pyNext (.ref Ff)) _ >>= _) _ _ _
    refine wpAny_bind (wpAny_tryCatch (next_filter (s := { s with heap := hp, toks := tk }) (by exact hh) hFI hdI hlen hkv hi hF hit hm ?_ ?_))
    · intro x r t h' j h1 _ _ _ _
      rw [hin] at h1
      simp [nextT] at h1
    · intro _ h' he
      have hS' : h'.get? S = some (seqObj "list" (bestArr best) c) := he S _ hSI hS
      cases best with
      | none =>
        refine wpAny_bind (wpAny_rule (wpAny_pure ?_))
        have := hR td h' tk (fun b o hb _ e => he b o hb e)
        rw [hin] at this
        exact this
      | some b =>
        obtain ⟨x, t⟩ := b
        show wpAny _ A.in1 (updateSeq S (fun _ => #[]) >>= _) _ _ _
        refine wpAny_bind ?_
        refine wpAny_updateSeq (hz := by rw [PySem.sizeLine_eq]; simp [bestArr]) hS' rfl (wpAny_bind (wpAny_letGo (wpAny_pure ?_)))
        have s1 := Heap.SameBut.update h' S (Obj.mapSeq fun _ => (#[] : Array Value))
        have := hR t (h'.update S (Obj.mapSeq fun _ => (#[] : Array Value))) tk (fun b o hb hb' e => (s1.2 b hb').trans (he b o hb e))
        rw [hin] at this
        exact this
  | succ r ih =>
    intro i best hp tk c hr hi hF hit hm hS hR
    refine codeAny_builtin PySem.F.entry_max_loop ?_
    rw [Around.under_plainId PySem.F.plain_max_loop _]
    show wpAny _ A.in1 (seqItems? (.ref S) >>= _) _ _ _
    refine wpAny_bind (wpAny_seqItems hS rfl ?_)
    show wpAny _ A.in1 (tryCatch (pyNext (.ref Ff)) _ >>= _) _ _ _
    refine wpAny_bind (wpAny_tryCatch (next_filter (s := { s with heap := hp, toks := tk }) (by exact hh) hFI hdI hlen hkv hi hF hit hm ?_ ?_))
    · intro x rest t h' j h1 h2 h3 hit' hs'
      have hlt := nextT_len h1
      have hj : os.length - j < os.length - i := by
        have e1 := congrArg List.length h2
        simp only [List.length_drop] at e1 hlt
        omega
      have hF' : h'.get? Ff = some (filtObj It) := (hs'.2 Ff hFI).trans hF
      have hm' := dictAt_same hm hs' hdI
      have hS' : h'.get? S = some (seqObj "list" (bestArr best) c) := (hs'.2 S hSI).trans hS
      have emax : maxF (best.map (·.1)) (os.drop i) = maxF (some (up (best.map (·.1)) x)) rest := by rw [maxF_next, h1]
      dsimp only
      refine wpAny_bind (wpAny_pure ?_)
      cases best with
      | none =>
        show wpAny _ A.in1 (updateSeq S (fun _ => #[.int x t, .int x t]) >>= _) _ _ _
        refine wpAny_bind ?_
        refine wpAny_updateSeq (hz := by rw [PySem.sizeLine_eq]; simp [bestArr]) hS' rfl ?_
        have s1 := Heap.SameBut.update h' S (Obj.mapSeq fun _ => #[Value.int x t, .int x t])
        obtain ⟨c2, hc2⟩ : ∃ c2, (h'.update S (Obj.mapSeq fun _ => #[Value.int x t, .int x t])).get? S = some (seqObj "list" (bestArr (some (x, t))) c2) := ⟨_, get?_update_seq hS' fun _ => #[Value.int x t, .int x t]⟩
        rw [hname]
        refine wpAny_pure ⟨plainId_quiet PySem.F.plain_max_loop _, ih j (some (x, t)) _ _ c2 (by omega) h3 ((s1.2 Ff (Ne.symm hSF)).trans hF') ?_ (dictAt_same hm' s1 (Ne.symm hSd)) hc2 ?_⟩
        · obtain ⟨oI, hoI, hr2⟩ := hit'
          exact ⟨oI, (s1.2 It (Ne.symm hSI)).trans hoI, hr2⟩
        · intro t' h'' tk'' hk
          rw [h2]
          have := hR t' h'' tk'' (fun b o hb hb' e => hk b o hb hb' ((s1.2 b hb').trans ((hs'.2 b hb).trans e)))
          rw [emax] at this
          exact this
      | some b =>
        obtain ⟨y, ty⟩ := b
        show wpAny _ A.in1 (tryCatch (holding [.int x t, .int x t] (richCompare .Gt (.int x t) (.int y ty) >>= _)) _ >>= _) _ _ _
        refine wpAny_bind (wpAny_tryCatch (wpAny_holding (wpAny_bind ?_)))
        show wpAny _ A.in1 (compareOp .Gt (.int x t) (.int y ty)) _ _ _
        refine PySem.P.gt_int ?_
        refine wpAny_bind (wpAny_holding (wpAny_truthy_bool ?_))
        refine wpAny_bind (wpAny_letGo (wpAny_pure ?_))
        by_cases hb' : x > y
        · have s1 := Heap.SameBut.update h' S (Obj.mapSeq fun _ => #[Value.int x t, .int x t])
          obtain ⟨c2, hc2⟩ : ∃ c2, (h'.update S (Obj.mapSeq fun _ => #[Value.int x t, .int x t])).get? S = some (seqObj "list" (bestArr (some (x, t))) c2) := ⟨_, get?_update_seq hS' fun _ => #[Value.int x t, .int x t]⟩
          simp only [hb', decide_true, if_true]
          refine wpAny_bind ?_
          refine wpAny_updateSeq (hz := by rw [PySem.sizeLine_eq]; simp [bestArr]) hS' rfl (wpAny_bind (wpAny_letGo ?_))
          rw [hname]
          refine wpAny_pure ⟨plainId_quiet PySem.F.plain_max_loop _, ih j (some (x, t)) _ _ c2 (by omega) h3 ((s1.2 Ff (Ne.symm hSF)).trans hF') ?_ (dictAt_same hm' s1 (Ne.symm hSd)) hc2 ?_⟩
          · obtain ⟨oI, hoI, hr2⟩ := hit'
            exact ⟨oI, (s1.2 It (Ne.symm hSI)).trans hoI, hr2⟩
          · intro t' h'' tk'' hk
            rw [h2]
            have := hR t' h'' tk'' (fun b o hb hb' e => hk b o hb hb' ((s1.2 b hb').trans ((hs'.2 b hb).trans e)))
            rw [emax] at this
            simpa [up, hb'] using this
        · simp only [hb', decide_false, Bool.false_eq_true, if_false]
          refine wpAny_bind (wpAny_letGo ?_)
          rw [hname]
          refine wpAny_pure ⟨plainId_quiet PySem.F.plain_max_loop _, ih j (some (y, ty)) _ _ c (by omega) h3 hF' hit' hm' hS' ?_⟩
          intro t' h'' tk'' hk
          rw [h2]
          have := hR t' h'' tk'' (fun b o hb hb' e => hk b o hb hb' ((hs'.2 b hb).trans e))
          rw [emax] at this
          simpa [up, hb'] using this
    · intro h1 h' he
      have hS' : h'.get? S = some (seqObj "list" (bestArr best) c) := he S _ hSI hS
      have emax : maxF (best.map (·.1)) (os.drop i) = best.map (·.1) := by rw [maxF_next, h1]
      cases best with
      | none =>
        refine wpAny_bind (wpAny_rule (wpAny_pure ?_))
        have := hR td h' tk (fun b o hb _ e => he b o hb e)
        rw [emax] at this
        exact this
      | some b =>
        obtain ⟨x, t⟩ := b
        show wpAny _ A.in1 (updateSeq S (fun _ => #[]) >>= _) _ _ _
        refine wpAny_bind ?_
        refine wpAny_updateSeq (hz := by rw [PySem.sizeLine_eq]; simp [bestArr]) hS' rfl (wpAny_bind (wpAny_letGo (wpAny_pure ?_)))
        have s1 := Heap.SameBut.update h' S (Obj.mapSeq fun _ => (#[] : Array Value))
        have := hR t (h'.update S (Obj.mapSeq fun _ => (#[] : Array Value))) tk (fun b o hb hb' e => (s1.2 b hb').trans (he b o hb e))
        rw [emax] at this
        exact this
end

end
-- B6
section
section
variable {prog : Program} {w : World} {K : Type} [DecidableEq K] {knd : KeyKind prog w K} {A : Around} {E : Value → Shared → Prop} {s : Shared} {Ff It S d v : Addr} {ep : Nat} {kvs : List (K × Value)} {os : List (Option Int)}

theorem filter_new (knd : KeyKind prog w K) (v d : Addr) (kvs : List (K × Value)) (ep : Nat) : MeetsIn prog w (Builtin.«filter.__new__» ⟨[.type "filter", .none, .ref v], []⟩) (fun _ R s => (s.heap.IsValuesView v d ∧ s.heap.DictAt knd d kvs ep) ∧
    R (.ok (.ret (.ref (s.heap.objs.size + 1)))) { s with heap := (s.heap.push (valObj d kvs.length ep)).push (filtObj s.heap.objs.size) }) :=
  .of_wp fun A R s ⟨⟨hv, hm⟩, h⟩ => by
    unfold Builtin.«filter.__new__»
    refine wpAny_bind (wpAny_of_eq (newClass_filter _ _) ?_)
    try dsimp only
    refine wpAny_bind (wpAny_of_eq (a := ()) (by first | rfl | kernel_rfl) ?_)
    refine wpAny_bind (wpAny_of_eq (a := ()) (by first | rfl | kernel_rfl) ?_)
    try dsimp only
    refine wpAny_bind (wpAny_pyIter_values hv hm ?_)
    refine wpAny_bind ?_
    unfold Builtin.SmallTypes.newRecord
    try dsimp only
    refine wpAny_newObj_type ?_
    refine wpAny_pure ⟨_, rfl, ?_⟩
    have hz : (s.heap.push (valObj d kvs.length ep)).objs.size = s.heap.objs.size + 1 := Heap.size_push ..
    rw [hz]
    exact h

theorem call_filter {h₀ : Heap} {L : Addr} {m : Names} {news : Led} {oD : Obj} {Q : Value → Shared → Prop} (F : Fr h₀ L s.heap m) (N : News h₀ L s.heap news) (hv : (v, ({ cls := .type "dict_values", data := .fields #[.ref d] } : Obj)) ∈ news) (hp : (d, oD) ∈ news) (hd : oD.IsDictOf knd kvs)
    (h : ∀ ep It Ff h', Fr h₀ L h' m → News h₀ L h' ((Ff, filtObj It) :: (It, valObj d kvs.length ep) :: news) → (∀ h'' : Heap, h''.get? d = some oD → h''.DictAt knd d kvs ep) → (∀ p ∈ news, p.1 < It) → It < Ff → Q (.ref Ff) { s with heap := h' }) :
    wpAny (model prog w) A (call (.type "filter") [.none, .ref v]) Q E s := by
  obtain ⟨ep, hat⟩ := (kda_dict N hp hd).dictAt
  have hall : ∀ h'' : Heap, Heap.get? h'' d = some oD → h''.DictAt knd d kvs ep := fun h'' e => by
    obtain ⟨o, es, ho, r⟩ := hat
    have : s.heap.get? d = some oD := (N _ hp).1
    rw [ho] at this
    cases this
    exact ⟨_, es, e, r⟩
  refine callType_newIn called_filter (by decide) (typeCall_filter_2 _ _) (newCall_filter_2 _ _) (fun obj => PySem.F.args_object_init_3 obj _ _) entry_filter_new (filter_new knd v d kvs ep) ⟨⟨⟨_, (N _ hv).1, rfl, rfl⟩, hat⟩, ?_⟩
  have hz : (s.heap.push (valObj d kvs.length ep)).objs.size = s.heap.objs.size + 1 := Heap.size_push ..
  refine ⟨⟨filtObj s.heap.objs.size, by rw [← hz]; exact Heap.get?_push_size _ rfl, rfl⟩, ?_⟩
  have N1 := N.push F (valObj d kvs.length ep)
  have F1 := F.push (valObj d kvs.length ep)
  have N2 := N1.push F1 (filtObj s.heap.objs.size)
  rw [hz] at N2
  exact h ep s.heap.objs.size (s.heap.objs.size + 1) _ (F1.push _) N2 hall (fun p hp => Heap.lt_size (N p hp).1) (Nat.lt_succ_self _)

theorem args_max_default (a v : Value) : argsOk "max" ⟨[a], [(Str.ofString "default", v)]⟩ := by unfold argsOk; kernel_rfl

theorem call_max_filter {h₀ : Heap} {L : Addr} {m : Names} {news : Led} {oD : Obj} {Q : Value → Shared → Prop} {dv : Int} {td : Tok} (hh : A.handled = none) (F : Fr h₀ L s.heap m) (N : News h₀ L s.heap ((Ff, filtObj It) :: (It, valObj d kvs.length ep) :: news)) (hp : (d, oD) ∈ news)
    (hat : ∀ h'' : Heap, Heap.get? h'' d = some oD → h''.DictAt knd d kvs ep) (l1 : ∀ p ∈ news, p.1 < It) (l2 : It < Ff) (hos : OvL os (kvs.map (·.2)))
    (h : ∀ t h' tk, Fr h₀ L h' m → News h₀ L h' news → Q (.int ((maxF none os).getD dv) t) { s with heap := h', toks := tk }) :
    wpAny (model prog w) A (call (.builtin "max") [.ref Ff] [(Str.ofString "default", .int dv td)]) Q E s := by
  have hname : (toString "max" ++ toString ".loop" : String) = "max.loop" := by decide
  have nF := N (Ff, filtObj It) (.head _)
  have nI := N (It, valObj d kvs.length ep) (.tail _ (.head _))
  have Nn : News h₀ L s.heap news := fun p hp => N p (.tail _ (.tail _ hp))
  have hL : L < s.heap.objs.size := F.ns.lt
  have hlen : os.length = kvs.length := by have := hos.length; simpa using this
  have hkv : ∀ (i : Nat) (o : Option Int), os[i]? = some o → ∃ k t, kvs[i]? = some (k, ov o t) := fun i o e => by
    obtain ⟨t, ht⟩ := hos.get e
    simp only [List.getElem?_map] at ht
    cases hk : kvs[i]? with
    | none => rw [hk] at ht; cases ht
    | some p => rw [hk] at ht; obtain ⟨k, x⟩ := p; simp at ht; subst ht; exact ⟨k, t, rfl⟩
  refine kmb_tree PySem.F.kind_max PySem.F.plain_max PySem.F.entry_max (args_max_default _ _) ?_
  show wpAny _ A.in1 (Builtin.Builtins.bindParams "max" ["key", "default"] 0 ⟨[], [(Str.ofString "default", .int dv td)]⟩ >>= _) _ _ s
  refine wpAny_bind (wpAny_of_eq (show Builtin.Builtins.bindParams "max" ["key", "default"] 0 ⟨[], [(Str.ofString "default", .int dv td)]⟩ = pure [none, some (.int dv td)] from rfl) ?_)
  refine wpAny_bind (wpAny_pure ?_)
  have hTF : s.TypeIs (.ref Ff) "filter" := ⟨_, nF.1, rfl⟩
  have iter : ∀ {Q' : Value → Shared → Prop} {E' : Value → Shared → Prop}, Q' (.ref Ff) s → wpAny (model prog w) A.in1 (pyIter (.ref Ff)) Q' E' s := fun {Q' E'} hq => by
    refine wpAny_pyIter_slot hTF slot_filter_iter (wpAny_call_entry slot_filter_iter hTF entry_filter_iter ?_ (args_filter_iter_1 _))
    show wpAny _ _ (ret (.ref Ff)) _ _ s
    exact wpAny_pure ⟨_, rfl, "filter", _, hTF, slot_filter_next.lookup, hq⟩
  refine wpAny_bind (iter ?_)
  refine wpAny_bind (wpAny_newList ?_ (Nat.zero_le _))
  rw [hname]
  have hS : s.heap.get? s.heap.objs.size = none := Heap.get?_none_of_le (Nat.le_refl _)
  have ltI := Heap.lt_size nI.1
  have ltF := Heap.lt_size nF.1
  have ltd := Heap.lt_size (Nn _ hp).1
  have up : ∀ b o, s.heap.get? b = some o → (s.heap.push (seqObj "list" #[] 0)).get? b = some o := fun b o e => Heap.get?_push_of_some _ e
  refine wpAny_pure ⟨plainId_quiet PySem.F.plain_max_loop _, ?_⟩
  refine max_filt_loop (s := s) (It := It) (d := d) (ep := ep) (kvs := kvs) (knd := knd) (os := os) (S := s.heap.objs.size) (by exact hh) (Nat.ne_of_gt l2) (Nat.ne_of_lt (l1 _ hp)) (Nat.ne_of_gt ltI) (Nat.ne_of_gt ltF) (Nat.ne_of_gt ltd) hlen hkv os.length 0 none _ _ 0 (by omega) (Nat.zero_le _) (up _ _ nF.1) ⟨_, up _ _ nI.1, rfl, rfl⟩ (hat _ (up _ _ (Nn _ hp).1)) (Heap.get?_push_size _ rfl) ?_
  intro t h' tk' hk
  have hne : ∀ b o, s.heap.get? b = some o → b ≠ s.heap.objs.size := fun b o e => Nat.ne_of_lt (Heap.lt_size e)
  refine h t h' tk' ⟨F.ns.at' fun o e => hk _ o (Ne.symm nI.2.1) (hne _ _ e) (up _ _ e), fun b o e => hk b o (fun q => ?_) (hne _ _ (F.keep b o e)) (up _ _ (F.keep b o e)), F.above⟩ (fun p hp => ⟨hk _ _ (Nat.ne_of_lt (l1 p hp)) (hne _ _ (Nn p hp).1) (up _ _ (Nn p hp).1), (Nn p hp).2⟩)
  rw [q, nI.2.2] at e; cases e
end

end
-- B7
section
theorem entry_contains_iter : entryFor table "proto.contains_iter" = some Builtin.«proto.contains_iter» := entryFor_of_tree (by kernel_rfl)
theorem plain_contains_iter : plainId "proto.contains_iter" = true := by decide +kernel
noncomputable def hasNone : List (Option Int) → Bool
  | [] => false
  | none :: _ => true
  | some _ :: r => hasNone r
section
variable {prog : Program} {w : World} {K : Type} [DecidableEq K] {knd : KeyKind prog w K} {A : Around} {E : Value → Shared → Prop} {s : Shared} {It d v : Addr} {ep : Nat} {kvs : List (K × Value)} {os : List (Option Int)}

theorem eqBool_ov_none {o : Option Int} {t : Tok} {Q : Bool → Shared → Prop} (h : Q o.isNone s) : wpAny (model prog w) A (eqBool (ov o t) .none) Q E s := by
  cases o with
  | none =>
    show wpAny _ _ (rule "eq-bool.same-object" >>= fun _ => pure true) Q E s
    exact wpAny_bind (wpAny_rule (wpAny_pure h))
  | some x =>
    show wpAny _ _ (richCompare .Eq (.int x t) .none >>= fun v => truthOfDropped v) Q E s
    exact wpAny_bind (EqNone.eq_int_none (wpAny_truthy_bool h))

theorem contains_code {R : Result → Shared → Prop} (hh : A.handled = none) (hdI : d ≠ It) (hlen : os.length = kvs.length) (hkv : ∀ (i : Nat) (o : Option Int), os[i]? = some o → ∃ k t, kvs[i]? = some (k, ov o t)) :
    ∀ (rest : List (Option Int)) (i : Nat) (hp : Heap), os.drop i = rest → i ≤ os.length → hp.IsValIter It d i kvs.length ep → hp.DictAt knd d kvs ep →
    (∀ h', Heap.ExtBut It hp h' → R (.ok (.ret (.bool (hasNone rest)))) { s with heap := h' }) →
    codeAny (model prog w) A (.builtin "proto.contains_iter" ⟨[.ref It, .none], []⟩) R { s with heap := hp } := by
  intro rest
  induction rest with
  | nil =>
    intro i hp hdrop hi hit hm hR
    have hin : os.length ≤ i := by
      have := congrArg List.length hdrop
      simp at this; omega
    refine codeAny_builtin entry_contains_iter ?_
    rw [Around.under_plainId plain_contains_iter _]
    unfold Builtin.«proto.contains_iter»
    dsimp only
    refine wpAny_bind (wpAny_pyNext_values_end (s := { s with heap := hp }) (by exact hh) hit hm (by simp; omega) ?_)
    intro h' hs
    exact wpAny_bind (wpAny_rule (wpAny_pure (hR h' hs)))
  | cons o r ih =>
    intro i hp hdrop hi hit hm hR
    have hlt : i < os.length := by
      have := congrArg List.length hdrop
      simp at this; omega
    have hoi : os[i]? = some o := by
      have := congrArg (·[0]?) hdrop
      simpa using this
    have hd1 : os.drop (i + 1) = r := by
      have := congrArg List.tail hdrop
      simpa using this
    obtain ⟨k, t, hk⟩ := hkv i o hoi
    refine codeAny_builtin entry_contains_iter ?_
    rw [Around.under_plainId plain_contains_iter _]
    unfold Builtin.«proto.contains_iter»
    dsimp only
    refine wpAny_bind (wpAny_pyNext_values_item (s := { s with heap := hp }) hit hm hk ?_)
    intro h' hit' hs'
    dsimp only
    refine wpAny_bind (eqBool_ov_none ?_)
    cases o with
    | none =>
      simp only [Option.isNone_none, if_true]
      exact wpAny_bind (wpAny_rule (wpAny_pure (hR h' hs'.extBut)))
    | some x =>
      simp only [Option.isNone_some, Bool.false_eq_true, if_false]
      refine wpAny_pure ⟨plainId_quiet plain_contains_iter _, ?_⟩
      exact ih (i + 1) h' hd1 hlt hit' (dictAt_same hm hs' hdI) fun h'' h2 => hR h'' (fun b o hb e => h2 b o hb ((hs'.2 b hb).trans e))

theorem in_values {h₀ : Heap} {L : Addr} {m : Names} {news : Led} {oD : Obj} {Q : Value → Shared → Prop} (hh : A.handled = none) (F : Fr h₀ L s.heap m) (N : News h₀ L s.heap news) (hv : (v, ({ cls := .type "dict_values", data := .fields #[.ref d] } : Obj)) ∈ news) (hp : (d, oD) ∈ news) (hd : oD.IsDictOf knd kvs)
    (hos : OvL os (kvs.map (·.2))) (h : ∀ h' tk, Fr h₀ L h' m → News h₀ L h' news → Q (.bool (hasNone os)) { s with heap := h', toks := tk }) :
    wpAny (model prog w) A (compareOp .In .none (.ref v)) Q E s := by
  obtain ⟨ep, hat⟩ := (kda_dict N hp hd).dictAt
  have hlen : os.length = kvs.length := by have := hos.length; simpa using this
  have hkv : ∀ (i : Nat) (o : Option Int), os[i]? = some o → ∃ k t, kvs[i]? = some (k, ov o t) := fun i o e => by
    obtain ⟨t, ht⟩ := hos.get e
    simp only [List.getElem?_map] at ht
    cases hk : kvs[i]? with
    | none => rw [hk] at ht; cases ht
    | some p => rw [hk] at ht; obtain ⟨k, x⟩ := p; simp at ht; subst ht; exact ⟨k, t, rfl⟩
  have hV : s.heap.IsValuesView v d := ⟨_, (N _ hv).1, rfl, rfl⟩
  unfold compareOp
  refine wpAny_bind ?_
  unfold contains
  refine wpAny_holding ?_
  show wpAny _ _ (specialOf (.ref v) "__contains__" >>= _) _ _ s
  refine wpAny_bind (wpAny_specialOf hV.typeIs no_contains_values ?_)
  rw [if_neg (by decide)]
  refine wpAny_bind ?_
  unfold callSpecialUnlessNone?
  refine wpAny_bind (wpAny_specialOf hV.typeIs no_contains_values (wpAny_pure ?_))
  dsimp only
  refine wpAny_bind (wpAny_rule ?_)
  refine wpAny_bind (wpAny_tryCatch (wpAny_pyIter_values hV hat ?_))
  have up : ∀ b o, s.heap.get? b = some o → (s.heap.push (valObj d kvs.length ep)).get? b = some o := fun b o e => Heap.get?_push_of_some _ e
  have ltd := Heap.lt_size (N _ hp).1
  have hm' : (s.heap.push (valObj d kvs.length ep)).DictAt knd d kvs ep := by
    obtain ⟨o, es, ho, r⟩ := hat
    exact ⟨o, es, up _ _ ho, r⟩
  refine wpAny_bind (wpAny_runValue (contains_code (s := s) (It := s.heap.objs.size) (d := d) (ep := ep) (kvs := kvs) (knd := knd) hh (Nat.ne_of_lt ltd) hlen hkv os 0 _ rfl (Nat.zero_le _) ⟨_, Heap.get?_push_size _ rfl, rfl, rfl⟩ hm' ?_))
  intro h' he
  have keep : ∀ b o, s.heap.get? b = some o → h'.get? b = some o := fun b o e => he b o (Nat.ne_of_lt (Heap.lt_size e)) (up b o e)
  refine wpAny_pure (wpAny_pure ?_)
  exact h h' s.toks (F.keeps keep) (N.grown keep)
end

end
-- Hd
section
open_top hd for PySem.Challenge.rw_wo0033_01

end
-- A1
section
noncomputable def noPos : Pos := ⟨0, 0, 0, 0⟩
noncomputable def noArgs : Arguments := { posonlyargs := [], args := [], vararg := none, kwonlyargs := [], kw_defaults := [], kwarg := none, defaults := [] }
noncomputable def noScope : Scope := { kind := .function, names := [], isGenerator := false, isCoroutine := false, more := [] }
noncomputable def partsOf : Stmt → Arguments × List Stmt × Scope × Pos
  | .FunctionDef _ a b _ _ _ sc _ _ p => (a, b, sc, p)
  | .For _ _ b _ _ => (noArgs, b, noScope, noPos)
  | _ => (noArgs, [], noScope, noPos)
noncomputable def bodyOf (s : Stmt) : List Stmt := (partsOf s).2.1
noncomputable def paramsOf (s : Stmt) : Arguments := (partsOf s).1
noncomputable def scopeOf (s : Stmt) : Scope := (partsOf s).2.2.1
noncomputable def posOf (s : Stmt) : Pos := (partsOf s).2.2.2
noncomputable def nth : List Stmt → Nat → Stmt
  | [], _ => .Pass noPos
  | s :: _, 0 => s
  | _ :: r, n + 1 => nth r n
noncomputable def defAt (i : Nat) : Stmt := nth PySem.Challenge.pw_wo0033_01.main.body i
noncomputable def i2dInner : Stmt := nth (bodyOf (defAt 10)) 1
noncomputable def d2iInner : Stmt := nth (bodyOf (defAt 11)) 0
noncomputable def leadDef : Stmt := nth (bodyOf (defAt 18)) 1
noncomputable def lawDef : Stmt := defAt 20
noncomputable def lawScope : Scope := scopeOf lawDef
noncomputable def lawS (i : Nat) : Stmt := nth (bodyOf lawDef) i
noncomputable def stepBody : List Stmt := bodyOf (lawS 2)
noncomputable def vBody : List Stmt := bodyOf (nth stepBody 1)
noncomputable def vS (i : Nat) : Stmt := nth vBody i
noncomputable def uBody : List Stmt := bodyOf (vS 2)
example : ∃ a b c d e f g h i, leadDef = .FunctionDef (Str.ofString "_law_lead") a b c d e f g h i := ⟨_, _, _, _, _, _, _, _, _, rfl⟩
example : ∃ a b c d e f g h i, i2dInner = .FunctionDef (Str.ofString "inner") a b c d e f g h i := ⟨_, _, _, _, _, _, _, _, _, rfl⟩
example : ∃ a b c d e f g h i, d2iInner = .FunctionDef (Str.ofString "inner") a b c d e f g h i := ⟨_, _, _, _, _, _, _, _, _, rfl⟩
example : ∃ a b c d e f g h i, lawDef = .FunctionDef (Str.ofString "law") a b c d e f g h i := ⟨_, _, _, _, _, _, _, _, _, rfl⟩
example : ∃ p a b c d, vS 2 = .For (.Name (Str.ofString "u") p) a b c d := ⟨_, _, _, _, _, rfl⟩

end
-- N1
section
theorem nat_and_high (x s : Nat) : x &&& (x / 2 ^ s * 2 ^ s) = x / 2 ^ s * 2 ^ s := by
  apply Nat.eq_of_testBit_eq
  intro i
  rw [Nat.testBit_and, Nat.testBit_mul_two_pow, Nat.testBit_div_two_pow]
  by_cases h : s ≤ i
  · have e : s + (i - s) = i := by omega
    have e' : i - s + s = i := by omega
    simp [h, e']
  · simp [h]
theorem xor_low {x z : Int} {s : Nat} (hx : 0 ≤ x) (hz : z = x / 2 ^ s * 2 ^ s) : Builtin.bitXor x z = x - z := by
  rw [bitXor_and]
  have e : Builtin.bitAnd x z = z := by
    subst hz
    obtain ⟨n, rfl⟩ := Int.eq_ofNat_of_zero_le hx
    have e1 : (n : Int) / 2 ^ s * 2 ^ s = ((n / 2 ^ s * 2 ^ s : Nat) : Int) := by simp
    rw [e1]
    unfold Builtin.bitAnd
    have h1 : decide (0 ≤ (n : Int)) = true := by simp
    have h2 : decide (0 ≤ ((n / 2 ^ s * 2 ^ s : Nat) : Int)) = true := decide_eq_true (Int.natCast_nonneg _)
    rw [h1, h2]
    simp only [Int.toNat_natCast]
    rw [nat_and_high]
  rw [e]; omega
section
variable {prog : Program} {w : World} {A : Around} {E : Value → Shared → Prop} {s : Shared} {a b : Int} {t u : Tok} {Q : Value → Shared → Prop}
theorem my_mid (h : ∀ q t tk, 2 * q ≤ a → a < 2 * q + 2 → Q (.int q t) { s with toks := tk }) : wpAny (model prog w) A (binaryOp .RShift (.int a t) (.int 1 u)) Q E s := by
  refine rshift_int (by decide) (h _ _ _ ?_ ?_) <;> (rw [Int.fdiv_eq_ediv_of_nonneg _ (by decide)]; show _; simp only [Int.reduceToNat, Int.reducePow]; omega)
theorem my_shr (ha : 0 ≤ a) (hb : 0 ≤ b) (h : ∀ q t tk, 0 ≤ q → q ≤ a → q = a / 2 ^ b.toNat → Q (.int q t) { s with toks := tk }) : wpAny (model prog w) A (binaryOp .RShift (.int a t) (.int b u)) Q E s := by
  have hp : (0 : Int) < 2 ^ b.toNat := Int.pow_pos (by decide)
  have e : a.fdiv (2 ^ b.toNat) = a / 2 ^ b.toNat := Int.fdiv_eq_ediv_of_nonneg _ (Int.le_of_lt hp)
  refine rshift_int hb ?_
  rw [e]
  exact h _ _ _ (Int.ediv_nonneg ha (Int.le_of_lt hp)) (Int.ediv_le_self _ ha) rfl
theorem my_shl (ha : 0 ≤ a) (ha' : a < 1000000) (hb : 0 ≤ b) (hb' : b ≤ 1000000) (h : ∀ q t tk, q = a * 2 ^ b.toNat → Q (.int q t) { s with toks := tk }) : wpAny (model prog w) A (binaryOp .LShift (.int a t) (.int b u)) Q E s :=
  lshift_int_small hb hb' (by omega) (h _ _ _ rfl)
theorem my_xor {n : Nat} (ha : 0 ≤ a) (hz : b = a / 2 ^ n * 2 ^ n) (h : ∀ q t tk, q = a - b → 0 ≤ q → q ≤ a → Q (.int q t) { s with toks := tk }) : wpAny (model prog w) A (binaryOp .BitXor (.int a t) (.int b u)) Q E s := by
  refine xor_int ?_
  rw [xor_low ha hz]
  have hp : (0 : Int) < 2 ^ n := Int.pow_pos (by decide)
  have h1 : 0 ≤ b := by rw [hz]; exact Int.mul_nonneg (Int.ediv_nonneg ha (Int.le_of_lt hp)) (Int.le_of_lt hp)
  have h2 : b ≤ a := by rw [hz]; exact Int.ediv_mul_le _ (Int.ne_of_gt hp)
  exact h _ _ _ rfl (by omega) (by omega)
theorem my_mul (ha : 0 ≤ a) (ha' : a ≤ 1000) (hb : 0 ≤ b) (hb' : b ≤ 1000) (h : ∀ q t tk, q = a * b → 0 ≤ q → q ≤ 1000000 → Q (.int q t) { s with toks := tk }) : wpAny (model prog w) A (binaryOp .Mult (.int a t) (.int b u)) Q E s := by
  refine PySem.P.mul_int (h _ _ _ rfl (Int.mul_nonneg ha hb) ?_) (IntMulOk.of_left ?_)
  · have := Int.mul_le_mul ha' hb' hb (by decide : (0:Int) ≤ 1000)
    simpa using this
  · rw [intBits_le_iff]; have : a.natAbs < 2 ^ 64 := by omega
    exact this
end
noncomputable def valL (n : Nat) : List Int → Int
  | [] => 0
  | d :: r => d + 2 ^ n * valL n r
theorem valL_append (n : Nat) : ∀ a b : List Int, valL n (a ++ b) = valL n a + 2 ^ (n * a.length) * valL n b
  | [], b => by simp [valL]
  | d :: r, b => by
    simp only [List.cons_append, valL, valL_append n r b, List.length_cons]
    rw [Nat.mul_succ, Nat.add_comm, Int.pow_add, Int.mul_add, Int.mul_assoc, Int.add_assoc]

end
-- C1
section
example : True := by w_top off; exact trivial

noncomputable def mx (os : List (Option Int)) : Int := (maxF none os).getD (-1)
noncomputable def slen (x : Int) : Int := ((Str.ofString (toString x)).length : Int)
noncomputable def wid (os : List (Option Int)) : Int := if slen (mx os) > 3 then slen (mx os) else 3
noncomputable def glw (os : List (Option Int)) : Int := if mx os = -1 then 0 else if wid os < 4 ∧ hasNone os = true then 4 else wid os
noncomputable def oneBit (v : Int) : Bool := if v = 0 then false else Builtin.bitAnd v (v - 1) == 0
noncomputable def lineO (u : Int) : Option Int → Option Int
  | none => none
  | some v => some (if u = 0 then 10 ^ (v + 4).toNat - 1 else 10 ^ (v + 3).toNat)
section
variable {w : World} {p : Program} {loose : List Str} {mean : ExcName → Option Value} {mg mb : Str → Option Value}
theorem c_high_bit (news : List (Addr × Obj)) (v : Int) (t : Tok) : CbClaim PySem.Challenge.rw_wo0033_01.row.prog w (Mine.hd.heap_39 w.params) p loose mean mg mb 100 news [] True [.int v t] (fun t => .int (Builtin.Int.intBits v - 1) t) := by
  ((k_fill; dsimp only [CbClaim, CbLists, CbRet]; intros; refine wpAny_call ?_; k_dflt cell_enter))
  rename_i hret _ _ _ _ _ _ _ _ _
  iterate 12 (first | (k_unfold; (try dsimp only)) | walk1 | (dsimp only; walk1) | (leave1; walk_say "STEP leave1"; try dsimp only))
  all_goals exact hret _ _ _ (by assumption) (by assumption)
theorem c_single_bit (news : List (Addr × Obj)) (v : Int) (t : Tok) : CbClaim PySem.Challenge.rw_wo0033_01.row.prog w (Mine.hd.heap_39 w.params) p loose mean mg mb 93 news [] True [.int v t] (fun _ => .bool (oneBit v)) := by
  ((k_fill; dsimp only [CbClaim, CbLists, CbRet]; intros; refine wpAny_call ?_; k_dflt cell_enter))
  rename_i hret _ _ _ _ _ _ _ _ _
  iterate 9 (first | (k_unfold; (try dsimp only)) | walk1 | (dsimp only; walk1) | (leave1; walk_say "STEP leave1"; try dsimp only))
  focus
    iterate 5 (first | (k_unfold; (try dsimp only)) | walk1 | (dsimp only; walk1) | (leave1; walk_say "STEP leave1"; try dsimp only))
  rotate_left
  focus
    iterate 18 (first | (k_unfold; (try dsimp only)) | walk1 | (dsimp only; walk1) | (leave1; walk_say "STEP leave1"; try dsimp only))
  rotate_left
  all_goals (refine cb_retB (fun t h' tk' F N => hret t h' tk' F N) ?_ (by assumption) (by assumption))
  all_goals (simp only [oneBit]; simp_all)
theorem c_law_line (news : List (Addr × Obj)) (o : Option Int) (u : Int) (t t' : Tok) (hb : ∀ v, o = some v → 0 ≤ v ∧ v ≤ 57) : CbClaim PySem.Challenge.rw_wo0033_01.row.prog w (Mine.hd.heap_39 w.params) p loose mean mg mb 119 news [] True [ov o t, .int u t'] (fun t => ov (lineO u o) t) := by
  cases o with
  | none =>
    simp only [ov, lineO]
    ((k_fill; dsimp only [CbClaim, CbLists, CbRet]; intros; refine wpAny_call ?_; k_dflt cell_enter))
    rename_i hret _ _ _ _ _ _ _ _ _
    iterate 13 (first | (k_unfold; (try dsimp only)) | walk1 | (dsimp only; walk1) | (leave1; walk_say "STEP leave1"; try dsimp only))
    all_goals exact hret 0 _ _ (by assumption) (by assumption)
  | some v =>
    simp only [ov, lineO]
    have hb1 := (hb v rfl).1
    have hb2 := (hb v rfl).2
    ((k_fill; dsimp only [CbClaim, CbLists, CbRet]; intros; refine wpAny_call ?_; k_dflt cell_enter))
    rename_i hret _ _ _ _ _ _ _ _ _
    iterate 18 (first | (k_unfold; (try dsimp only)) | walk1 | (dsimp only; walk1) | (leave1; walk_say "STEP leave1"; try dsimp only))
    focus
      iterate 14 (first | (k_unfold; (try dsimp only)) | walk1 | (dsimp only; walk1) | (leave1; walk_say "STEP leave1"; try dsimp only))
    rotate_left
    focus
      iterate 12 (first | (k_unfold; (try dsimp only)) | walk1 | (dsimp only; walk1) | (leave1; walk_say "STEP leave1"; try dsimp only))
    rotate_left
    all_goals (refine cb_retI hret ?_ (by assumption) (by assumption))
    all_goals (simp_all)
theorem c_width (news : List (Addr × Obj)) (d : Addr) (oD : Obj) (kvs : List (Int × Value)) (os : List (Option Int)) (hlo : (d == sysModules) = false) (hm : (d, oD) ∈ news) (hd : oD.IsDictOf (intKind PySem.Challenge.rw_wo0033_01.row.prog w) kvs) (hos : OvL os (kvs.map (·.2))) (hlog : ((maxF none os).getD (-1)).natAbs.log2 < 1920) (hlen : ((Str.ofString (toString ((maxF none os).getD (-1)))).length : Int) < 9223372036854775808) : CbClaim PySem.Challenge.rw_wo0033_01.row.prog w (Mine.hd.heap_39 w.params) p loose mean mg mb 51 news [] True [.ref d] (fun t => .int (glw os) t) := by
  ((k_fill; dsimp only [CbClaim, CbLists, CbRet]; intros; refine wpAny_call ?_; k_dflt cell_enter))
  rename_i hret _ _ _ _ _ _ _ _ _
  iterate 24 (first | (k_unfold; (try dsimp only)) | walk1 | (dsimp only; walk1) | (leave1; walk_say "STEP leave1"; try dsimp only))
  (first | (with_reducible ((k_here; (with_reducible show wpAny _ _ (getMethod (Value.ref _) (Str.ofString "values") _) _ _ _); refine' kdl_method (knd := PySem.intKind _ _) PySem.F.slot_dict_values PySem.F.type_dict_values ?k1z6 ?k2z6 ?k3z6 ?_; (case k3z6 => assumption); (case k1z6 => assumption); (case k2z6 => walk_at "my mem")))) | (dsimp only; (with_reducible ((k_here; (with_reducible show wpAny _ _ (getMethod (Value.ref _) (Str.ofString "values") _) _ _ _); refine' kdl_method (knd := PySem.intKind _ _) PySem.F.slot_dict_values PySem.F.type_dict_values ?k1z6 ?k2z6 ?k3z6 ?_; (case k3z6 => assumption); (case k1z6 => assumption); (case k2z6 => walk_at "my mem"))))))
  iterate 1 (first | (k_unfold; (try dsimp only)) | walk1 | (dsimp only; walk1) | (leave1; walk_say "STEP leave1"; try dsimp only))
  (first | (with_reducible ((k_here; refine' kdl_view_values (knd := PySem.intKind _ _) ?k1z7 ?k2z7 ?k3z7 ?k4z7 ?k5z7 ?_; (case k4z7 => assumption); (case k1z7 => assumption); (case k2z7 => assumption); (case k3z7 => walk_at "my mem"); (case k5z7 => assumption); intro Dqz7 hqz7 Fqz7 Nqz7 l1z7; (try k_lt l1z7)))) | (dsimp only; (with_reducible ((k_here; refine' kdl_view_values (knd := PySem.intKind _ _) ?k1z7 ?k2z7 ?k3z7 ?k4z7 ?k5z7 ?_; (case k4z7 => assumption); (case k1z7 => assumption); (case k2z7 => assumption); (case k3z7 => walk_at "my mem"); (case k5z7 => assumption); intro Dqz7 hqz7 Fqz7 Nqz7 l1z7; (try k_lt l1z7))))))
  iterate 1 (first | (k_unfold; (try dsimp only)) | walk1 | (dsimp only; walk1) | (leave1; walk_say "STEP leave1"; try dsimp only))
  (first | ((k_here; refine' call_filter (knd := PySem.intKind _ _) ?k1z8 ?k2z8 ?k3z8 ?k4z8 ?k5z8 ?_; (case k5z8 => assumption); (case k1z8 => assumption); (case k2z8 => assumption); (case k3z8 => walk_at "my mem"); (case k4z8 => walk_at "my mem"); intro epqz8 Itqz8 Ffqz8 hqz8 Fqz8 Nqz8 hatqz8 l1qz8 l2qz8)) | (dsimp only; ((k_here; refine' call_filter (knd := PySem.intKind _ _) ?k1z8 ?k2z8 ?k3z8 ?k4z8 ?k5z8 ?_; (case k5z8 => assumption); (case k1z8 => assumption); (case k2z8 => assumption); (case k3z8 => walk_at "my mem"); (case k4z8 => walk_at "my mem"); intro epqz8 Itqz8 Ffqz8 hqz8 Fqz8 Nqz8 hatqz8 l1qz8 l2qz8))))
  iterate 6 (first | (k_unfold; (try dsimp only)) | walk1 | (dsimp only; walk1) | (leave1; walk_say "STEP leave1"; try dsimp only))
  (first | ((k_here; (with_reducible show wpAny _ _ (call (Value.builtin _) [Value.ref _] _) _ _ _); refine' call_max_filter (knd := PySem.intKind _ _) ?k0z9 ?k1z9 ?k2z9 ?k3z9 ?k4z9 ?k5z9 ?k6z9 ?k7z9 ?_; (case k0z9 => rfl); (case k1z9 => assumption); (case k2z9 => assumption); (case k4z9 => assumption); (case k3z9 => walk_at "my mem"); (case k5z9 => assumption); (case k6z9 => assumption); (case k7z9 => assumption); intro tqz9 hqz9 tkqz9 Fqz9 Nqz9)) | (dsimp only; ((k_here; (with_reducible show wpAny _ _ (call (Value.builtin _) [Value.ref _] _) _ _ _); refine' call_max_filter (knd := PySem.intKind _ _) ?k0z9 ?k1z9 ?k2z9 ?k3z9 ?k4z9 ?k5z9 ?k6z9 ?k7z9 ?_; (case k0z9 => rfl); (case k1z9 => assumption); (case k2z9 => assumption); (case k4z9 => assumption); (case k3z9 => walk_at "my mem"); (case k5z9 => assumption); (case k6z9 => assumption); (case k7z9 => assumption); intro tqz9 hqz9 tkqz9 Fqz9 Nqz9))))
  iterate 12 (first | (k_unfold; (try dsimp only)) | walk1 | (dsimp only; walk1) | (leave1; walk_say "STEP leave1"; try dsimp only))
  focus
    iterate 5 (first | (k_unfold; (try dsimp only)) | walk1 | (dsimp only; walk1) | (leave1; walk_say "STEP leave1"; try dsimp only))
  rotate_left
  focus
    iterate 20 (first | (k_unfold; (try dsimp only)) | walk1 | (dsimp only; walk1) | (leave1; walk_say "STEP leave1"; try dsimp only))
    (first | (with_reducible ((k_here; refine PySem.P.str_of_int (by assumption) ?_))) | (dsimp only; (with_reducible ((k_here; refine PySem.P.str_of_int (by assumption) ?_)))))
    iterate 21 (first | (k_unfold; (try dsimp only)) | walk1 | (dsimp only; walk1) | (leave1; walk_say "STEP leave1"; try dsimp only))
    focus
      iterate 5 (first | (k_unfold; (try dsimp only)) | walk1 | (dsimp only; walk1) | (leave1; walk_say "STEP leave1"; try dsimp only))
      (first | ((k_here; (with_reducible show wpAny _ _ (getMethod (Value.ref _) (Str.ofString "values") _) _ _ _); refine' kdl_method (knd := PySem.intKind _ _) PySem.F.slot_dict_values PySem.F.type_dict_values ?k1z11 ?k2z11 ?k3z11 ?_; (case k3z11 => assumption); (case k1z11 => assumption); (case k2z11 => walk_at "my mem"))) | (dsimp only; ((k_here; (with_reducible show wpAny _ _ (getMethod (Value.ref _) (Str.ofString "values") _) _ _ _); refine' kdl_method (knd := PySem.intKind _ _) PySem.F.slot_dict_values PySem.F.type_dict_values ?k1z11 ?k2z11 ?k3z11 ?_; (case k3z11 => assumption); (case k1z11 => assumption); (case k2z11 => walk_at "my mem")))))
      iterate 1 (first | (k_unfold; (try dsimp only)) | walk1 | (dsimp only; walk1) | (leave1; walk_say "STEP leave1"; try dsimp only))
      (first | ((k_here; refine' kdl_view_values (knd := PySem.intKind _ _) ?k1z12 ?k2z12 ?k3z12 ?k4z12 ?k5z12 ?_; (case k4z12 => assumption); (case k1z12 => assumption); (case k2z12 => assumption); (case k3z12 => walk_at "my mem"); (case k5z12 => assumption); intro Dqz12 hqz12 Fqz12 Nqz12 l1z12; (try k_lt l1z12))) | (dsimp only; ((k_here; refine' kdl_view_values (knd := PySem.intKind _ _) ?k1z12 ?k2z12 ?k3z12 ?k4z12 ?k5z12 ?_; (case k4z12 => assumption); (case k1z12 => assumption); (case k2z12 => assumption); (case k3z12 => walk_at "my mem"); (case k5z12 => assumption); intro Dqz12 hqz12 Fqz12 Nqz12 l1z12; (try k_lt l1z12)))))
      (first | ((k_here; refine' in_values (knd := PySem.intKind _ _) ?k0z13 ?k1z13 ?k2z13 ?k3z13 ?k4z13 ?k5z13 ?k6z13 ?_; (case k0z13 => rfl); (case k5z13 => assumption); (case k1z13 => assumption); (case k2z13 => assumption); (case k3z13 => walk_at "my mem"); (case k4z13 => walk_at "my mem"); (case k6z13 => assumption); intro hqz13 tkqz13 Fqz13 Nqz13)) | (dsimp only; ((k_here; refine' in_values (knd := PySem.intKind _ _) ?k0z13 ?k1z13 ?k2z13 ?k3z13 ?k4z13 ?k5z13 ?k6z13 ?_; (case k0z13 => rfl); (case k5z13 => assumption); (case k1z13 => assumption); (case k2z13 => assumption); (case k3z13 => walk_at "my mem"); (case k4z13 => walk_at "my mem"); (case k6z13 => assumption); intro hqz13 tkqz13 Fqz13 Nqz13))))
      iterate 2 (first | (k_unfold; (try dsimp only)) | walk1 | (dsimp only; walk1) | (leave1; walk_say "STEP leave1"; try dsimp only))
      focus
        iterate 18 (first | (k_unfold; (try dsimp only)) | walk1 | (dsimp only; walk1) | (leave1; walk_say "STEP leave1"; try dsimp only))
      rotate_left
      focus
        iterate 6 (first | (k_unfold; (try dsimp only)) | walk1 | (dsimp only; walk1) | (leave1; walk_say "STEP leave1"; try dsimp only))
      rotate_left
    rotate_left 2
    focus
      iterate 7 (first | (k_unfold; (try dsimp only)) | walk1 | (dsimp only; walk1) | (leave1; walk_say "STEP leave1"; try dsimp only))
    rotate_left
  rotate_left 3
  all_goals (refine cb_retI hret ?_ (by assumption) (by first | assumption | exact cb_drop (by assumption) (by intro p hp; walk_at "my mem")))
  all_goals (simp only [glw, wid, mx, slen]; (repeat' split) <;> first | rfl | (simp_all; done) | (simp_all; omega))
theorem c_widthN (news : List (Addr × Obj)) : CbClaim PySem.Challenge.rw_wo0033_01.row.prog w (Mine.hd.heap_39 w.params) p loose mean mg mb 51 news [] True [.none] (fun t => .int 0 t) := by
  ((k_fill; dsimp only [CbClaim, CbLists, CbRet]; intros; refine wpAny_call ?_; k_dflt cell_enter))
  rename_i hret _ _ _ _ _ _ _ _ _
  iterate 13 (first | (k_unfold; (try dsimp only)) | walk1 | (dsimp only; walk1) | (leave1; walk_say "STEP leave1"; try dsimp only))
  all_goals exact hret _ _ _ (by assumption) (by assumption)
end

end
-- Q1
section
noncomputable def orB (ks : List Int) : Int := ks.foldl (fun b k => Builtin.bitOr b (2 ^ k.toNat)) 0
theorem bitOr_nat (x y : Nat) : Builtin.bitOr (x : Int) (y : Int) = ((x ||| y : Nat) : Int) := by
  unfold Builtin.bitOr Builtin.bitAnd
  have h1 : decide (0 ≤ Builtin.bitNot (x : Int)) = false := decide_eq_false (by unfold Builtin.bitNot; omega)
  have h2 : decide (0 ≤ Builtin.bitNot (y : Int)) = false := decide_eq_false (by unfold Builtin.bitNot; omega)
  have e : ∀ z : Nat, (Builtin.bitNot (Builtin.bitNot (z : Int))).toNat = z := fun z => by unfold Builtin.bitNot; rw [ng]; rfl
  rw [h1, h2]
  simp only [e]
  unfold Builtin.bitNot
  exact ng _
theorem bitAnd_nat (x y : Nat) : Builtin.bitAnd (x : Int) (y : Int) = ((x &&& y : Nat) : Int) := by
  unfold Builtin.bitAnd
  have h1 : decide (0 ≤ (x : Int)) = true := decide_eq_true (Int.natCast_nonneg _)
  have h2 : decide (0 ≤ (y : Int)) = true := decide_eq_true (Int.natCast_nonneg _)
  rw [h1, h2]
  simp only [Int.toNat_natCast]
noncomputable def orN (n : Nat) (ks : List Int) : Nat := ks.foldl (fun b k => b ||| 2 ^ k.toNat) n
theorem foldB_N : ∀ (ks : List Int) (n : Nat), ks.foldl (fun b k => Builtin.bitOr b (2 ^ k.toNat)) (n : Int) = (orN n ks : Int)
  | [], _ => rfl
  | k :: ks, n => by
    have e : ((2 : Int) ^ k.toNat) = ((2 ^ k.toNat : Nat) : Int) := by simp
    rw [List.foldl_cons, e, bitOr_nat, foldB_N ks]
    rfl
theorem orB_N (ks : List Int) : orB ks = (orN 0 ks : Int) := foldB_N ks 0
theorem orN_test : ∀ (ks : List Int) (n i : Nat), (orN n ks).testBit i = (n.testBit i || ks.any fun k => k.toNat == i)
  | [], n, i => by simp [orN]
  | k :: ks, n, i => by
    have h := orN_test ks (n ||| 2 ^ k.toNat) i
    show (orN (n ||| 2 ^ k.toNat) ks).testBit i = _
    rw [h, Nat.testBit_or, Nat.testBit_two_pow, List.any_cons, Bool.or_assoc]
    congr 2
theorem orN_lt {ks : List Int} {m : Nat} (h : ∀ k ∈ ks, k.toNat < m) : orN 0 ks < 2 ^ m := by
  apply Nat.lt_pow_two_of_testBit
  intro i hi
  rw [orN_test, Nat.zero_testBit, Bool.false_or, List.any_eq_false]
  intro k hk
  have := h k hk
  have e : k.toNat ≠ i := by omega
  simp [e]
theorem orN_ge {ks : List Int} {b : Int} (h : b ∈ ks) : 2 ^ b.toNat ≤ orN 0 ks := by
  apply Nat.ge_two_pow_of_testBit
  rw [orN_test, Nat.zero_testBit, Bool.false_or, List.any_eq_true]
  exact ⟨b, h, by simp⟩
theorem bits_or {ks : List Int} (h0 : ∀ k ∈ ks, 0 ≤ k) {b : Int} (hb : b ∈ ks) (hb' : ∀ x ∈ ks, x ≤ b) : (Builtin.Int.intBits (orB ks) : Int) = b + 1 := by
  have hb0 := h0 b hb
  rw [orB_N]
  have l1 : Builtin.Int.intBits (orN 0 ks : Int) ≤ b.toNat + 1 := by
    rw [intBits_le_iff, Int.natAbs_natCast]
    exact orN_lt fun k hk => tnC (hb' k hk)
  have l2 : ¬ Builtin.Int.intBits (orN 0 ks : Int) ≤ b.toNat := by
    rw [intBits_le_iff, Int.natAbs_natCast]
    exact Nat.not_lt.mpr (orN_ge hb)
  rw [Nat.le_antisymm l1 (Nat.lt_of_not_le l2), Int.natCast_succ, Int.toNat_of_nonneg hb0]
theorem one_cons' {ks : List Int} (h0 : ∀ k ∈ ks, 0 ≤ k) {a b : Int} (ha : a ∈ ks) (ha' : ∀ x ∈ ks, a ≤ x) (hb : b ∈ ks) (hb' : ∀ x ∈ ks, x ≤ b) : oneBit (orB ks) = decide (a = b) := by
  rw [orB_N]
  have g := orN_ge hb
  have ga := orN_ge ha
  have a0 := h0 a ha
  have b0 := h0 b hb
  have ab := ha' b hb
  have hl : orN 0 ks < 2 ^ (b.toNat + 1) := orN_lt fun k hk => tnC (hb' k hk)
  have pb : 0 < 2 ^ b.toNat := Nat.two_pow_pos _
  have hp : 0 < orN 0 ks := Nat.lt_of_lt_of_le pb g
  have hne : (orN 0 ks : Int) ≠ 0 := fun h => Nat.ne_of_gt hp (Int.ofNat_inj.mp h)
  have hs : (orN 0 ks : Int) - 1 = ((orN 0 ks - 1 : Nat) : Int) := (Int.ofNat_sub hp).symm
  unfold oneBit
  rw [if_neg hne, hs, bitAnd_nat]
  by_cases e : a = b
  · subst e
    have e1 : orN 0 ks = 2 ^ a.toNat := by
      apply Nat.eq_of_testBit_eq
      intro i
      rw [orN_test, Nat.zero_testBit, Bool.false_or, Nat.testBit_two_pow]
      by_cases hi : a.toNat = i
      · rw [decide_eq_true hi, List.any_eq_true]; exact ⟨a, ha, by simp [hi]⟩
      · rw [decide_eq_false hi, List.any_eq_false]
        intro k hk
        have h1 := ha' k hk
        have h2 := hb' k hk
        obtain rfl : k = a := Int.le_antisymm h2 h1
        simp [hi]
    rw [e1, decide_eq_true rfl, Nat.and_two_pow_sub_one_eq_mod, Nat.mod_self]
    rfl
  · rw [decide_eq_false e]
    have hbt : (orN 0 ks).testBit b.toNat = true := by rw [orN_test, Nat.zero_testBit, Bool.false_or, List.any_eq_true]; exact ⟨b, hb, by simp⟩
    have hat : (orN 0 ks).testBit a.toNat = true := by rw [orN_test, Nat.zero_testBit, Bool.false_or, List.any_eq_true]; exact ⟨a, ha, by simp⟩
    have hne2 : orN 0 ks ≠ 2 ^ b.toNat := by
      intro h
      rw [h, Nat.testBit_two_pow] at hat
      have := of_decide_eq_true hat
      exact e (by rw [← Int.toNat_of_nonneg a0, ← Int.toNat_of_nonneg b0, this])
    have ht2 : (orN 0 ks - 1).testBit b.toNat = true := by
      have h1 : orN 0 ks - 1 = 2 ^ b.toNat + (orN 0 ks - 1 - 2 ^ b.toNat) := (Nat.add_sub_cancel' (Nat.le_sub_one_of_lt (Nat.lt_of_le_of_ne g hne2.symm))).symm
      have h2 : orN 0 ks - 1 - 2 ^ b.toNat < 2 ^ b.toNat := by rw [Nat.pow_succ, Nat.mul_two] at hl; exact Nat.sub_lt_left_of_lt_add (Nat.le_sub_one_of_lt (Nat.lt_of_le_of_ne g hne2.symm)) (Nat.lt_of_le_of_lt (Nat.sub_le _ _) hl)
      rw [h1, Nat.testBit_two_pow_add_eq, Nat.testBit_lt_two_pow h2]
      rfl
    have ht : (orN 0 ks &&& (orN 0 ks - 1)).testBit b.toNat = true := by rw [Nat.testBit_and, hbt, ht2]; rfl
    have hz : orN 0 ks &&& (orN 0 ks - 1) ≠ 0 := by
      intro h
      rw [h, Nat.zero_testBit] at ht
      cases ht
    have : ((orN 0 ks &&& (orN 0 ks - 1) : Nat) : Int) ≠ 0 := fun h => hz (Int.ofNat_inj.mp h)
    simpa using this

end
-- C2
section
example : True := by w_top off; exact trivial

structure InnerIn (f c' ca cn_ ci aD : Addr) (n : Int) (news : Led) : Prop where
  fn : ∃ qn doc pm ctv, (f, fnMade (Str.ofString "inner") qn (paramsOf i2dInner) (bodyOf i2dInner) (scopeOf i2dInner) [(Str.ofString "n", cn_), (Str.ofString "inner", ci), (Str.ofString "a_digits", ca)] doc pm c' ctv) ∈ news ∧ ∃ oc vs t, (c', oc) ∈ news ∧ oc.data = .fields vs ∧ vs[1]? = some (.str qn t)
  cellA : ∃ o, (ca, o) ∈ news ∧ o.data = .cell (some (.ref aD))
  cellI : ∃ o, (ci, o) ∈ news ∧ o.data = .cell (some (.ref f))
  cellN : ∃ o t, (cn_, o) ∈ news ∧ o.data = .cell (some (.int n t))
  off : ∀ p ∈ news, p.1 ≠ aD
noncomputable def splice {α : Type} (vs : List α) (l r : Nat) (V : List α) : List α := vs.take l ++ V ++ vs.drop r
theorem splice_len {α : Type} {vs V : List α} {l r : Nat} (h1 : l ≤ r) (h2 : r ≤ vs.length) (h : V.length = r - l) : (splice vs l r V).length = vs.length := by
  simp only [splice, List.length_append, List.length_take, List.length_drop]; rw [h, Nat.min_eq_left (Nat.le_trans h1 h2), Nat.add_sub_cancel' h1, Nat.add_sub_cancel' h2]
theorem splice_splice {α : Type} {vs V1 V2 : List α} {l m r : Nat} (h1 : l ≤ m) (h2 : m ≤ r) (h3 : r ≤ vs.length) (h : V1.length = m - l) : splice (splice vs l m V1) m r V2 = splice vs l r (V1 ++ V2) := by
  have e1 : (vs.take l ++ V1).length = m := by simp only [List.length_append, List.length_take]; rw [h, Nat.min_eq_left (Nat.le_trans h1 (Nat.le_trans h2 h3)), Nat.add_sub_cancel' h1]
  unfold splice
  rw [List.take_append_of_le_length (Nat.le_of_eq e1.symm), List.take_of_length_le (Nat.le_of_eq e1)]
  have e2 : List.drop r (vs.take l ++ V1 ++ vs.drop m) = vs.drop r := by
    rw [List.drop_append, List.drop_of_length_le (by rw [e1]; exact h2), e1, List.drop_drop]
    simp only [List.nil_append]
    congr 1; first | exact Nat.add_sub_cancel' h2 | exact Nat.sub_add_cancel h2 | omega
  rw [e2]; simp
theorem ints_take : ∀ {vs : List Value} {ds : List Int}, IntsAre vs ds → ∀ n, IntsAre (vs.take n) (ds.take n)
  | _, _, .nil, n => by simp only [List.take_nil]; exact .nil
  | _, _, .cons _ _ h, 0 => .nil
  | _, _, .cons i t h, n + 1 => .cons i t (ints_take h n)
theorem ints_drop : ∀ {vs : List Value} {ds : List Int}, IntsAre vs ds → ∀ n, IntsAre (vs.drop n) (ds.drop n)
  | _, _, .nil, n => by simp only [List.drop_nil]; exact .nil
  | _, _, .cons i t h, 0 => .cons i t h
  | _, _, .cons i t h, n + 1 => ints_drop h n
theorem ints_splice {vs V : List Value} {ds D : List Int} (h : IntsAre vs ds) (hV : IntsAre V D) (l r : Nat) : IntsAre (splice vs l r V) (splice ds l r D) :=
  IntsAre.append (IntsAre.append (ints_take h l) hV) (ints_drop h r)
theorem set_splice {α : Type} (vs : List α) (v : α) (i : Nat) (h : i < vs.length) : vs.set i v = splice vs i (i + 1) [v] := by
  rw [List.set_eq_take_append_cons_drop, if_pos h]; simp [splice]
theorem tn_sub0 {a b : Int} (h : 0 ≤ b) (h' : b ≤ a) : (a - b).toNat = a.toNat - b.toNat := by
  obtain ⟨b, rfl⟩ := Int.eq_ofNat_of_zero_le h; obtain ⟨a, rfl⟩ := Int.eq_ofNat_of_zero_le (Int.le_trans h h'); rw [← Int.ofNat_sub (Int.ofNat_le.mp h')]; rfl
theorem inner_end {vs vs1 vs2 V1 V2 : List Value} {ds D1 D2 : List Int} {n : Nat} {x l r mid sh up z lo : Int} {P : Prop}
    (e2 : vs2 = splice vs1 mid.toNat r.toNat V2) (i2 : IntsAre V2 D2) (l2 : (D2.length : Int) = r - mid) (v2 : valL n D2 = up) (b2 : ∀ d ∈ D2, 0 ≤ d ∧ d ≤ up)
    (e1 : vs1 = splice vs l.toNat mid.toNat V1) (i1 : IntsAre V1 D1) (l1 : (D1.length : Int) = mid - l) (v1 : valL n D1 = lo) (b1 : ∀ d ∈ D1, 0 ≤ d ∧ d ≤ lo)
    (m1 : 2 * mid ≤ l + r) (m2 : l + r < 2 * mid + 2) (hne : l + 1 ≠ r) (hs : sh = (mid - l) * n) (hu : up = x / 2 ^ sh.toNat) (hz : z = up * 2 ^ sh.toNat) (hlo : lo = x - z) (hlx : lo ≤ x) (hux : up ≤ x)
    (hi : IntsAre vs ds) (h1 : 0 ≤ l) (h2 : l < r) (h3 : r ≤ ds.length)
    (hP : vs2 = splice vs l.toNat r.toNat (V1 ++ V2) → IntsAre (V1 ++ V2) (D1 ++ D2) → ((D1 ++ D2).length : Int) = r - l → valL n (D1 ++ D2) = x → (∀ d ∈ D1 ++ D2, 0 ≤ d ∧ d ≤ x) → IntsAre vs2 (splice ds l.toNat r.toNat (D1 ++ D2)) → vs2.length = vs.length → (splice ds l.toNat r.toNat (D1 ++ D2)).length = ds.length → P) : P := by
  have lm : l ≤ mid := mdL m1 m2 h2; have mr : mid ≤ r := Int.le_of_lt (mdR m1 m2 h2)
  have lsum : ((D1 ++ D2).length : Int) = r - l := by rw [List.length_append, Int.natCast_add, l1, l2]; exact sb3
  have hlen := hi.length; have k1 := Int.toNat_le_toNat lm; have k2 := Int.toNat_le_toNat mr
  have k3 : r.toNat ≤ vs.length := by rw [hlen]; exact Int.toNat_le.mpr h3
  have q1 : V1.length = mid.toNat - l.toNat := (by rw [i1.length, ← tn_sub0 h1 lm, ← l1]; rfl); have q2 : V2.length = r.toNat - mid.toNat := (by rw [i2.length, ← tn_sub0 (Int.le_trans h1 lm) mr, ← l2]; rfl); have q3 : (V1 ++ V2).length = r.toNat - l.toNat := (by rw [List.length_append, q1, q2]; exact tn_sum k1 k2)
  have ee : vs2 = splice vs l.toNat r.toNat (V1 ++ V2) := by rw [e2, e1]; exact splice_splice k1 k2 k3 q1
  have iV := IntsAre.append i1 i2; have k4 := Nat.le_trans k1 k2
  refine hP ee iV lsum ?_ ?_ (by rw [ee]; exact ints_splice hi iV _ _) (by rw [ee]; exact splice_len k4 k3 q3) (splice_len k4 (by rw [← hlen]; exact k3) (by rw [← iV.length]; exact q3))
  · rw [valL_append, v1, v2, hlo, hz]
    have e : sh.toNat = n * D1.length := by rw [show sh = ((n * D1.length : Nat) : Int) by rw [hs, Int.natCast_mul, l1, Int.mul_comm]]; rfl
    rw [e, Int.mul_comm (2 ^ (n * D1.length)) up]; exact Int.sub_add_cancel _ _
  · intro d hd
    rcases List.mem_append.mp hd with h | h
    · exact ⟨(b1 d h).1, Int.le_trans (b1 d h).2 hlx⟩
    · exact ⟨(b2 d h).1, Int.le_trans (b2 d h).2 hux⟩
section
variable {w : World} {p : Program} {loose : List Str} {mean : ExcName → Option Value} {mg mb : Str → Option Value}
noncomputable def I2D (w : World) (p : Program) (loose : List Str) (mean : ExcName → Option Value) (mg mb : Str → Option Value) (f c' ca cn_ ci aD : Addr) (n : Nat) (k : Nat) : Prop :=
  ∀ (vs : List Value) (ds : List Int) (kk : Nat) (x : Int) (l r : Int) (tx tl tr : Tok) (news : Led) (dp un : Nat) (gd : Option (List Code)) (cn : Str) (cs : Scope) (fa : Addr) (ccd : Value) (cl : List (Str × Addr)) (outer : List Env) (A₀ : Around) (base h₀ : Heap) (L : Addr) (m : Str → Option Value) (s : Shared) (Q E : Value → Shared → Prop),
    Below A₀ base outer h₀ → Fr h₀ L s.heap m → (Mine.hd.heap_39 w.params).In h₀ → News h₀ L s.heap ((aD, listOf vs.toArray kk) :: news) → InnerIn f c' ca cn_ ci aD n news → Top p loose mean mg mb h₀ → cs.kind = .function → dp + k + 2 < recursionLimit → un + 8 * k + 16 < cLine →
    IntsAre vs ds → vs.length ≤ 1000 → 0 ≤ x → x < 1000000 → 0 ≤ l → l < r → r ≤ ds.length → r - l ≤ k →
    (∀ V D vs' h' tk', vs' = splice vs l.toNat r.toNat V → IntsAre V D → (D.length : Int) = r - l → valL n D = x → (∀ d ∈ D, 0 ≤ d ∧ d ≤ x) → IntsAre vs' (splice ds l.toNat r.toNat D) → vs'.length = vs.length → (splice ds l.toNat r.toNat D).length = ds.length → Fr h₀ L h' m → News h₀ L h' ((aD, listOf vs'.toArray kk) :: news) → Q .none { s with heap := h', toks := tk' }) →
    wpAny (model PySem.Challenge.rw_wo0033_01.row.prog w) (ktrTop dp un gd cn cs L fa ccd cl outer) (call (.ref f) [.int x tx, .int l tl, .int r tr]) Q E s

theorem t_inner (f c' ca cn_ ci aD : Addr) (n : Nat) (hn1 : 1 ≤ n) (hn2 : n ≤ 2) : ∀ k, I2D w p loose mean mg mb f c' ca cn_ ci aD n k := by
  intro k
  induction k with
  | zero => intro vs ds kk x l r tx tl tr news dp un gd cn cs fa ccd cl outer A₀ base h₀ L m s Q E B F X N G T hcs hd hu hi hr h0 hx h1 h2 h3 h4 hQ; exact (no0 h2 h4).elim
  | succ k IH =>
    intro vs ds kk x l r tx tl tr news dp un gd cn cs fa ccd cl outer A₀ base h₀ L m s Q E B F X N G T hcs hd hu hi hr h0 hx h1 h2 h3 h4 hQ
    revert X; k_fill; intro X
    have hlen := hi.length
    have hoff' : OwnOff news [aD] := fun p hp b hb => by rw [List.mem_singleton.mp hb]; exact G.off p hp
    obtain ⟨qn, doc, pm, ctv, hf, oc, vs0, t0, hoc, hod, hov⟩ := G.fn
    obtain ⟨oa, ha, hda⟩ := G.cellA
    obtain ⟨oi, hi', hdi⟩ := G.cellI
    obtain ⟨on, tn, hn, hdn⟩ := G.cellN
    change (f, fnMade (Str.ofString "inner") qn ⟨_, _, _, _, _, _, _⟩ (_ :: _) ⟨_, _, _, _, _⟩ [(Str.ofString "n", cn_), (Str.ofString "inner", ci), (Str.ofString "a_digits", ca)] doc pm c' ctv) ∈ news at hf
    refine wpAny_call ?_
    refine' code_nest (cl := [(Str.ofString "n", cn_), (Str.ofString "inner", ci), (Str.ofString "a_digits", ca)]) B F X N T ?kA ?kF ?kK (List.Mem.tail _ hf) ⟨c', oc, vs0, t0, rfl, (N _ (List.Mem.tail _ hoc)).1, hod, hov⟩ ?k8 ?k9 ?kB ?_ ?c2 ?c3 ?c4 ?c5
    case kA => exact rfl
    case kF => exact rfl
    case kK => assumption
    case k8 => first | exact rmZ (by assumption) | ktr_room
    case k9 => exact BindsTo.of_eq rfl
    case c5 => decide
    case kB => exact locs rfl
    case c2 => exact rfl
    case c3 => exact rfl
    case c4 => exact rfl
    intro g' L' h' FG' F' N' B' X' T'
    clear N F
    (try dsimp only); (try k_fold)
    iterate 12 (first | (k_unfold; (try dsimp only)) | walk1 | (dsimp only; walk1) | (leave1; walk_say "STEP leave1"; try dsimp only))
    focus
      iterate 4 (first | (k_unfold; (try dsimp only)) | walk1 | (dsimp only; walk1) | (leave1; walk_say "STEP leave1"; try dsimp only))
      (first | (with_reducible ((k_here; k_dflt (refine' nameX_F ?Nz15 ?cz15 ?mz15 ?dz15 ?_ ?az15 ?bz15; (case az15 => rfl); (case bz15 => rfl); (case Nz15 => k_asm); (case cz15 => rfl); (case mz15 => walk_at "my mem"); (case dz15 => assumption); k_whole)))) | (dsimp only; (with_reducible ((k_here; k_dflt (refine' nameX_F ?Nz15 ?cz15 ?mz15 ?dz15 ?_ ?az15 ?bz15; (case az15 => rfl); (case bz15 => rfl); (case Nz15 => k_asm); (case cz15 => rfl); (case mz15 => walk_at "my mem"); (case dz15 => assumption); k_whole))))))
      iterate 5 (first | (k_unfold; (try dsimp only)) | walk1 | (dsimp only; walk1) | (leave1; walk_say "STEP leave1"; try dsimp only))
    rotate_left
    focus
      iterate 10 (first | (k_unfold; (try dsimp only)) | walk1 | (dsimp only; walk1) | (leave1; walk_say "STEP leave1"; try dsimp only))
      (first | (with_reducible ((k_here; k_dflt first | ((with_reducible show wpAny _ _ (binaryOp _ (Value.int _ _) (Value.int 1 _)) _ _ _); refine my_mid ?_; intro qqz16 tqz16 tkqz16 hq1qz16 hq2qz16; (try dsimp only)) | (refine my_shr (by first | assumption | omega) (by first | assumption | omega) ?_; intro qqz16 tqz16 tkqz16 hq1qz16 hq2qz16 hq3qz16; (try dsimp only))))) | (dsimp only; (with_reducible ((k_here; k_dflt first | ((with_reducible show wpAny _ _ (binaryOp _ (Value.int _ _) (Value.int 1 _)) _ _ _); refine my_mid ?_; intro qqz16 tqz16 tkqz16 hq1qz16 hq2qz16; (try dsimp only)) | (refine my_shr (by first | assumption | omega) (by first | assumption | omega) ?_; intro qqz16 tqz16 tkqz16 hq1qz16 hq2qz16 hq3qz16; (try dsimp only)))))))
      iterate 9 (first | (k_unfold; (try dsimp only)) | walk1 | (dsimp only; walk1) | (leave1; walk_say "STEP leave1"; try dsimp only))
      (first | (with_reducible ((k_here; k_dflt (refine' nameX_F ?Nz17 ?cz17 ?mz17 ?dz17 ?_ ?az17 ?bz17; (case az17 => rfl); (case bz17 => rfl); (case Nz17 => k_asm); (case cz17 => rfl); (case mz17 => walk_at "my mem"); (case dz17 => assumption); k_whole)))) | (dsimp only; (with_reducible ((k_here; k_dflt (refine' nameX_F ?Nz17 ?cz17 ?mz17 ?dz17 ?_ ?az17 ?bz17; (case az17 => rfl); (case bz17 => rfl); (case Nz17 => k_asm); (case cz17 => rfl); (case mz17 => walk_at "my mem"); (case dz17 => assumption); k_whole))))))
      (first | (with_reducible ((k_here; k_dflt (refine my_mul (by first | exact mdS (by assumption) (by assumption) (by assumption) | omega) (by first | exact mdV (by assumption) (by assumption) (by assumption) (by assumption) (by assumption) (by assumption) (by assumption) | exact mdW (by assumption) (by assumption) (by assumption) (by assumption) (by assumption) (by assumption) | omega) (by first | exact Int.natCast_nonneg _ | omega) (by first | exact on2 (by assumption) | omega) ?_; intro qqz18 tqz18 tkqz18 hq1qz18 hq2qz18 hq3qz18; (try dsimp only))))) | (dsimp only; (with_reducible ((k_here; k_dflt (refine my_mul (by first | exact mdS (by assumption) (by assumption) (by assumption) | omega) (by first | exact mdV (by assumption) (by assumption) (by assumption) (by assumption) (by assumption) (by assumption) (by assumption) | exact mdW (by assumption) (by assumption) (by assumption) (by assumption) (by assumption) (by assumption) | omega) (by first | exact Int.natCast_nonneg _ | omega) (by first | exact on2 (by assumption) | omega) ?_; intro qqz18 tqz18 tkqz18 hq1qz18 hq2qz18 hq3qz18; (try dsimp only)))))))
      iterate 7 (first | (k_unfold; (try dsimp only)) | walk1 | (dsimp only; walk1) | (leave1; walk_say "STEP leave1"; try dsimp only))
      (first | (with_reducible ((k_here; k_dflt first | ((with_reducible show wpAny _ _ (binaryOp _ (Value.int _ _) (Value.int 1 _)) _ _ _); refine my_mid ?_; intro qqz19 tqz19 tkqz19 hq1qz19 hq2qz19; (try dsimp only)) | (refine my_shr (by first | assumption | omega) (by first | assumption | omega) ?_; intro qqz19 tqz19 tkqz19 hq1qz19 hq2qz19 hq3qz19; (try dsimp only))))) | (dsimp only; (with_reducible ((k_here; k_dflt first | ((with_reducible show wpAny _ _ (binaryOp _ (Value.int _ _) (Value.int 1 _)) _ _ _); refine my_mid ?_; intro qqz19 tqz19 tkqz19 hq1qz19 hq2qz19; (try dsimp only)) | (refine my_shr (by first | assumption | omega) (by first | assumption | omega) ?_; intro qqz19 tqz19 tkqz19 hq1qz19 hq2qz19 hq3qz19; (try dsimp only)))))))
      iterate 9 (first | (k_unfold; (try dsimp only)) | walk1 | (dsimp only; walk1) | (leave1; walk_say "STEP leave1"; try dsimp only))
      (first | (with_reducible ((k_here; k_dflt (refine my_shl (by first | assumption | omega) (by first | assumption | exact Int.lt_of_le_of_lt (by assumption) (by assumption) | omega) (by first | assumption | omega) (by first | assumption | omega) ?_; intro qqz20 tqz20 tkqz20 hq1qz20; (try dsimp only))))) | (dsimp only; (with_reducible ((k_here; k_dflt (refine my_shl (by first | assumption | omega) (by first | assumption | exact Int.lt_of_le_of_lt (by assumption) (by assumption) | omega) (by first | assumption | omega) (by first | assumption | omega) ?_; intro qqz20 tqz20 tkqz20 hq1qz20; (try dsimp only)))))))
      (first | (with_reducible ((k_here; k_dflt (refine my_xor (by first | assumption | omega) (by subst_vars; first | assumption | rfl) ?_; intro qqz21 tqz21 tkqz21 hq1qz21 hq2qz21 hq3qz21; (try dsimp only))))) | (dsimp only; (with_reducible ((k_here; k_dflt (refine my_xor (by first | assumption | omega) (by subst_vars; first | assumption | rfl) ?_; intro qqz21 tqz21 tkqz21 hq1qz21 hq2qz21 hq3qz21; (try dsimp only)))))))
      iterate 5 (first | (k_unfold; (try dsimp only)) | walk1 | (dsimp only; walk1) | (leave1; walk_say "STEP leave1"; try dsimp only))
      (first | (with_reducible ((k_here; k_dflt (refine' nameX_F ?Nz22 ?cz22 ?mz22 ?dz22 ?_ ?az22 ?bz22; (case az22 => rfl); (case bz22 => rfl); (case Nz22 => k_asm); (case cz22 => rfl); (case mz22 => walk_at "my mem"); (case dz22 => assumption); k_whole)))) | (dsimp only; (with_reducible ((k_here; k_dflt (refine' nameX_F ?Nz22 ?cz22 ?mz22 ?dz22 ?_ ?az22 ?bz22; (case az22 => rfl); (case bz22 => rfl); (case Nz22 => k_asm); (case cz22 => rfl); (case mz22 => walk_at "my mem"); (case dz22 => assumption); k_whole))))))
      (first | (with_reducible ((k_here; k_dflt (refine' callWith_F ?k1z23 ?_; (case k1z23 => exact FnAt.of (by k_asm) (by walk_at "my mem")); k_whole)))) | (dsimp only; (with_reducible ((k_here; k_dflt (refine' callWith_F ?k1z23 ?_; (case k1z23 => exact FnAt.of (by k_asm) (by walk_at "my mem")); k_whole))))))
      iterate 8 (first | (k_unfold; (try dsimp only)) | walk1 | (dsimp only; walk1) | (leave1; walk_say "STEP leave1"; try dsimp only))
      focus
        (first | (with_reducible ((k_dflt (exact FnAt.of (by k_asm) (by walk_at "my mem"))))) | (dsimp only; (with_reducible ((k_dflt (exact FnAt.of (by k_asm) (by walk_at "my mem")))))))
      focus
        (first | (with_reducible ((k_here; (rename I2D _ _ _ _ _ _ _ _ _ _ _ _ _ _ => ih9z25); k_dflt (refine' ih9z25 _ _ _ _ _ _ _ _ _ _ _ _ _ _ _ _ _ _ _ _ _ _ _ _ _ _ _ ?k1z25 ?k2z25 ?k3z25 ?k4z25 ?k5z25 ?k6z25 ?k7z25 ?k8z25 ?k9z25 ?k10z25 ?k11z25 ?k12z25 ?k13z25 ?k14z25 ?k15z25 ?k16z25 ?k17z25 ?_; (case k1z25 => assumption); (case k2z25 => assumption); (case k3z25 => assumption); (case k4z25 => assumption); (case k5z25 => assumption); (case k6z25 => assumption); (case k7z25 => rfl); (case k10z25 => assumption); (case k8z25 => first | exact rmK (by assumption) | omega | ktr_room); (case k9z25 => first | exact rmU (by assumption) | omega | ktr_units); (case k11z25 => first | assumption | exact Nat.le_trans (Nat.le_of_eq (by assumption)) (by assumption) | omega); (case k12z25 => first | assumption | omega); (case k13z25 => first | assumption | exact Int.lt_of_le_of_lt (by assumption) (by assumption) | omega); (case k14z25 => first | assumption | exact md0 (by assumption) (by assumption) (by assumption) (by assumption) | omega); (case k15z25 => first | exact mdG (by assumption) (by assumption) (by assumption) (by assumption) | exact mdR (by assumption) (by assumption) (by assumption) | omega); (case k16z25 => first | exact mdN (by assumption) (by assumption) (by assumption) (by assumption) | exact leC (by assumption) (by assumption) | omega); (case k17z25 => first | exact mdK (by assumption) (by assumption) (by assumption) (by assumption) | exact mdQ (by assumption) (by assumption) (by assumption) (by assumption) (by assumption) | omega); intro Vqz25 Dqz25 vsqz25 hqz25 tkqz25 eVqz25 iVqz25 lDqz25 vDqz25 bDqz25 iSqz25 lSqz25 mSqz25 Fqz25 Nqz25; (try dsimp only); (try k_fold))))) | (dsimp only; (with_reducible ((k_here; (rename I2D _ _ _ _ _ _ _ _ _ _ _ _ _ _ => ih9z25); k_dflt (refine' ih9z25 _ _ _ _ _ _ _ _ _ _ _ _ _ _ _ _ _ _ _ _ _ _ _ _ _ _ _ ?k1z25 ?k2z25 ?k3z25 ?k4z25 ?k5z25 ?k6z25 ?k7z25 ?k8z25 ?k9z25 ?k10z25 ?k11z25 ?k12z25 ?k13z25 ?k14z25 ?k15z25 ?k16z25 ?k17z25 ?_; (case k1z25 => assumption); (case k2z25 => assumption); (case k3z25 => assumption); (case k4z25 => assumption); (case k5z25 => assumption); (case k6z25 => assumption); (case k7z25 => rfl); (case k10z25 => assumption); (case k8z25 => first | exact rmK (by assumption) | omega | ktr_room); (case k9z25 => first | exact rmU (by assumption) | omega | ktr_units); (case k11z25 => first | assumption | exact Nat.le_trans (Nat.le_of_eq (by assumption)) (by assumption) | omega); (case k12z25 => first | assumption | omega); (case k13z25 => first | assumption | exact Int.lt_of_le_of_lt (by assumption) (by assumption) | omega); (case k14z25 => first | assumption | exact md0 (by assumption) (by assumption) (by assumption) (by assumption) | omega); (case k15z25 => first | exact mdG (by assumption) (by assumption) (by assumption) (by assumption) | exact mdR (by assumption) (by assumption) (by assumption) | omega); (case k16z25 => first | exact mdN (by assumption) (by assumption) (by assumption) (by assumption) | exact leC (by assumption) (by assumption) | omega); (case k17z25 => first | exact mdK (by assumption) (by assumption) (by assumption) (by assumption) | exact mdQ (by assumption) (by assumption) (by assumption) (by assumption) (by assumption) | omega); intro Vqz25 Dqz25 vsqz25 hqz25 tkqz25 eVqz25 iVqz25 lDqz25 vDqz25 bDqz25 iSqz25 lSqz25 mSqz25 Fqz25 Nqz25; (try dsimp only); (try k_fold)))))))
        iterate 3 (first | (k_unfold; (try dsimp only)) | walk1 | (dsimp only; walk1) | (leave1; walk_say "STEP leave1"; try dsimp only))
        (first | (with_reducible ((k_here; k_dflt (refine' nameX_F ?Nz26 ?cz26 ?mz26 ?dz26 ?_ ?az26 ?bz26; (case az26 => rfl); (case bz26 => rfl); (case Nz26 => k_asm); (case cz26 => rfl); (case mz26 => walk_at "my mem"); (case dz26 => assumption); k_whole)))) | (dsimp only; (with_reducible ((k_here; k_dflt (refine' nameX_F ?Nz26 ?cz26 ?mz26 ?dz26 ?_ ?az26 ?bz26; (case az26 => rfl); (case bz26 => rfl); (case Nz26 => k_asm); (case cz26 => rfl); (case mz26 => walk_at "my mem"); (case dz26 => assumption); k_whole))))))
        (first | (with_reducible ((k_here; k_dflt (refine' callWith_F ?k1z27 ?_; (case k1z27 => exact FnAt.of (by k_asm) (by walk_at "my mem")); k_whole)))) | (dsimp only; (with_reducible ((k_here; k_dflt (refine' callWith_F ?k1z27 ?_; (case k1z27 => exact FnAt.of (by k_asm) (by walk_at "my mem")); k_whole))))))
        iterate 8 (first | (k_unfold; (try dsimp only)) | walk1 | (dsimp only; walk1) | (leave1; walk_say "STEP leave1"; try dsimp only))
        focus
          (first | (with_reducible ((k_dflt (exact FnAt.of (by k_asm) (by walk_at "my mem"))))) | (dsimp only; (with_reducible ((k_dflt (exact FnAt.of (by k_asm) (by walk_at "my mem")))))))
        focus
          (first | (with_reducible ((k_here; (rename I2D _ _ _ _ _ _ _ _ _ _ _ _ _ _ => ih9z29); k_dflt (refine' ih9z29 _ _ _ _ _ _ _ _ _ _ _ _ _ _ _ _ _ _ _ _ _ _ _ _ _ _ _ ?k1z29 ?k2z29 ?k3z29 ?k4z29 ?k5z29 ?k6z29 ?k7z29 ?k8z29 ?k9z29 ?k10z29 ?k11z29 ?k12z29 ?k13z29 ?k14z29 ?k15z29 ?k16z29 ?k17z29 ?_; (case k1z29 => assumption); (case k2z29 => assumption); (case k3z29 => assumption); (case k4z29 => assumption); (case k5z29 => assumption); (case k6z29 => assumption); (case k7z29 => rfl); (case k10z29 => assumption); (case k8z29 => first | exact rmK (by assumption) | omega | ktr_room); (case k9z29 => first | exact rmU (by assumption) | omega | ktr_units); (case k11z29 => first | assumption | exact Nat.le_trans (Nat.le_of_eq (by assumption)) (by assumption) | omega); (case k12z29 => first | assumption | omega); (case k13z29 => first | assumption | exact Int.lt_of_le_of_lt (by assumption) (by assumption) | omega); (case k14z29 => first | assumption | exact md0 (by assumption) (by assumption) (by assumption) (by assumption) | omega); (case k15z29 => first | exact mdG (by assumption) (by assumption) (by assumption) (by assumption) | exact mdR (by assumption) (by assumption) (by assumption) | omega); (case k16z29 => first | exact mdN (by assumption) (by assumption) (by assumption) (by assumption) | exact leC (by assumption) (by assumption) | omega); (case k17z29 => first | exact mdK (by assumption) (by assumption) (by assumption) (by assumption) | exact mdQ (by assumption) (by assumption) (by assumption) (by assumption) (by assumption) | omega); intro Vqz29 Dqz29 vsqz29 hqz29 tkqz29 eVqz29 iVqz29 lDqz29 vDqz29 bDqz29 iSqz29 lSqz29 mSqz29 Fqz29 Nqz29; (try dsimp only); (try k_fold))))) | (dsimp only; (with_reducible ((k_here; (rename I2D _ _ _ _ _ _ _ _ _ _ _ _ _ _ => ih9z29); k_dflt (refine' ih9z29 _ _ _ _ _ _ _ _ _ _ _ _ _ _ _ _ _ _ _ _ _ _ _ _ _ _ _ ?k1z29 ?k2z29 ?k3z29 ?k4z29 ?k5z29 ?k6z29 ?k7z29 ?k8z29 ?k9z29 ?k10z29 ?k11z29 ?k12z29 ?k13z29 ?k14z29 ?k15z29 ?k16z29 ?k17z29 ?_; (case k1z29 => assumption); (case k2z29 => assumption); (case k3z29 => assumption); (case k4z29 => assumption); (case k5z29 => assumption); (case k6z29 => assumption); (case k7z29 => rfl); (case k10z29 => assumption); (case k8z29 => first | exact rmK (by assumption) | omega | ktr_room); (case k9z29 => first | exact rmU (by assumption) | omega | ktr_units); (case k11z29 => first | assumption | exact Nat.le_trans (Nat.le_of_eq (by assumption)) (by assumption) | omega); (case k12z29 => first | assumption | omega); (case k13z29 => first | assumption | exact Int.lt_of_le_of_lt (by assumption) (by assumption) | omega); (case k14z29 => first | assumption | exact md0 (by assumption) (by assumption) (by assumption) (by assumption) | omega); (case k15z29 => first | exact mdG (by assumption) (by assumption) (by assumption) (by assumption) | exact mdR (by assumption) (by assumption) (by assumption) | omega); (case k16z29 => first | exact mdN (by assumption) (by assumption) (by assumption) (by assumption) | exact leC (by assumption) (by assumption) | omega); (case k17z29 => first | exact mdK (by assumption) (by assumption) (by assumption) (by assumption) | exact mdQ (by assumption) (by assumption) (by assumption) (by assumption) (by assumption) | omega); intro Vqz29 Dqz29 vsqz29 hqz29 tkqz29 eVqz29 iVqz29 lDqz29 vDqz29 bDqz29 iSqz29 lSqz29 mSqz29 Fqz29 Nqz29; (try dsimp only); (try k_fold)))))))
          iterate 3 (first | (k_unfold; (try dsimp only)) | walk1 | (dsimp only; walk1) | (leave1; walk_say "STEP leave1"; try dsimp only))
        rotate_left
      rotate_left
    rotate_left
    · rename_i a _ _ _ _ _ _ _ _ _ _ _
      have er : r.toNat = l.toNat + 1 := er1 h1 (by assumption)
      have es : vs.set l.toNat (.int x tx) = splice vs l.toNat r.toNat [.int x tx] := by rw [er]; exact set_splice _ _ _ (by rw [hlen]; exact lt1 h1 (by assumption) h3)
      have es' : ds.set l.toNat x = splice ds l.toNat r.toNat [x] := by rw [er]; exact set_splice _ _ _ (lt1 h1 (by assumption) h3)
      refine hQ [.int x tx] [x] _ _ _ es (.cons _ _ .nil) (len1 (by assumption)) (by simp [valL]) (by intro d hd; rw [List.mem_singleton.mp hd]; exact ⟨h0, Int.le_refl _⟩) (by rw [← es']; assumption) (by simp) (by rw [← es']; simp) (by assumption) (by assumption)
    · refine inner_end (P := _) (vs := vs) (ds := ds) (l := l) (r := r) (n := n) (x := x) (by assumption) (by assumption) (by assumption) (by assumption) (by assumption) (by assumption) (by assumption) (by assumption) (by assumption) (by assumption) (by assumption) (by assumption) (by assumption) (by assumption) (by assumption) (by assumption) (by assumption) (by assumption) (by assumption) hi h1 h2 h3 (fun a b c d e f g h => hQ _ _ _ _ _ a b c d e f g h (by assumption) (by assumption))
end

end
-- C3
section
example : True := by w_top off; exact trivial
theorem natL (n : Nat) : ¬ n + 1 < n ∧ ¬ n + 1 + 1 < n ∧ ¬ n + 1 + 1 + 1 < n := by omega
theorem offL {news : List (Addr × Obj)} {P L' : Addr} (h : OwnOff news [P]) (l : ∀ p ∈ news, p.1 < L') : OwnOff news [P, L' + 1, L' + 1 + 1, L' + 1 + 1 + 1] := fun p hp b hb => by
  have hl := l p hp
  rcases List.mem_cons.mp hb with rfl | hb
  · exact h p hp _ (by simp)
  · intro e
    rw [e] at hl
    simp only [List.mem_cons, List.not_mem_nil, or_false] at hb
    rcases hb with rfl | rfl | rfl
    · exact (natL L').1 hl
    · exact (natL L').2.1 hl
    · exact (natL L').2.2 hl
noncomputable def qI2d : Str := Str.ofString "_int2digits" ++ Str.ofString ".<locals>." ++ Str.ofString "inner"
inductive TabSt (st : Stmt) (qual : Str) : Array Value → Led → Prop
  | fresh : TabSt st qual #[] []
  | made (c' : Addr) (oc : Obj) (vs : Array Value) (t : Tok) : oc.data = .fields vs → vs[1]? = some (.str qual t) → TabSt st qual #[rawInt (posOf st).line, rawInt (posOf st).col, .ref c'] [(c', oc)]
section
variable {prog : Program} {w : World} {A : Around} {E : Value → Shared → Prop} {s : Shared} {h₀ : Heap} {L : Addr} {m : Names} {news : Led}
theorem mulRep {v : Value} {l : Addr} {c : Nat} {x : Int} {u : Tok} {D : Nat} {Q : Value → Shared → Prop} (hx : x = D) (hD : D ≤ 1000) (F : Fr h₀ L s.heap m) (N : News h₀ L s.heap news) (hl : (l, listOf #[v] c) ∈ news)
    (h : ∀ l' h', Fr h₀ L h' m → News h₀ L h' ((l', listOf (List.replicate D v).toArray 0) :: news) → (∀ p ∈ news, p.1 < l') → Q (.ref l') { s with heap := h' }) : wpAny (model prog w) A (binaryOp .Mult (.ref l) (.int x u)) Q E s := by
  subst hx
  refine mul_list F N (N _ hl).1 (by omega) (by omega) (by simp; omega) fun h' F' N' => h _ h' F' ?_ fun p hp => Heap.lt_size (N p hp).1
  have e : ∀ (n : Nat) (b : Array Value), List.foldl (fun x1 x2 => x1 ++ x2) b (List.replicate n #[v]) = b ++ (List.replicate n v).toArray := by
    intro n
    induction n with
    | zero => intro b; simp
    | succ n ih => intro b; rw [List.replicate_succ, List.foldl_cons, ih, List.replicate_succ]; apply Array.toList_inj.mp; simp
  have e1 : (List.foldl (fun x1 x2 => x1 ++ x2) #[] (List.replicate (if (#[v] : Array Value).isEmpty = true then 0 else ((D : Int)).toNat) #[v])) = (List.replicate D v).toArray := by
    rw [e]; simp
  rw [e1] at N'
  exact N'
theorem lenL {l : Addr} {vs : List Value} {c : Nat} {Q : Value → Shared → Prop} (N : News h₀ L s.heap news) (hl : (l, listOf vs.toArray c) ∈ news) (hD : vs.length ≤ 100000)
    (h : ∀ n t tk, n = (vs.length : Int) → Q (.int n t) { s with toks := tk }) : wpAny (model prog w) A (call (.builtin "len") [.ref l]) Q E s :=
  len_list ⟨_, (N _ hl).1, rfl, c, rfl⟩ (by rw [List.size_toArray]; omega) (h _ _ _ (by simp))
end
theorem ints_rep (t : Tok) : ∀ n, IntsAre (List.replicate n (.int 0 t)) (List.replicate n 0)
  | 0 => .nil
  | n + 1 => .cons 0 t (ints_rep t n)
theorem splice_all {α : Type} {vs V : List α} (h : vs.length = r) : splice vs 0 r V = V := by
  unfold splice; rw [List.drop_of_length_le (Nat.le_of_eq h)]; simp
section
variable {w : World} {p : Program} {loose : List Str} {mean : ExcName → Option Value} {mg mb : Str → Option Value}

theorem t_inner_at {f c' ca cn_ ci aD : Addr} {n : Nat} {vs : List Value} {ds : List Int} {kk : Nat} {x r : Int} {tx tl tr : Tok} {led : Led} {g : Obj → Led} {qn : Str} {doc pm ctv : Value} {oc oa oi on : Obj} {vs0 : Array Value} {t0 tn : Tok} {dp un : Nat} {gd : Option (List Code)} {cn : Str} {cs : Scope} {fa : Addr} {ccd : Value} {cl : List (Str × Addr)} {outer : List Env} {A₀ : Around} {base h₀ : Heap} {L : Addr} {m : Str → Option Value} {s : Shared} {Q E : Value → Shared → Prop} (hn1 : 1 ≤ n) (hn2 : n ≤ 2)
    (B : Below A₀ base outer h₀) (F : Fr h₀ L s.heap m) (X : (Mine.hd.heap_39 w.params).In h₀) (N : News h₀ L s.heap led) (U : UpdF aD (listOf vs.toArray kk) led g)
    (hf : (f, fnMade (Str.ofString "inner") qn (paramsOf i2dInner) (bodyOf i2dInner) (scopeOf i2dInner) [(Str.ofString "n", cn_), (Str.ofString "inner", ci), (Str.ofString "a_digits", ca)] doc pm c' ctv) ∈ led)
    (hc : (c', oc) ∈ led) (hcd : oc.data = .fields vs0) (hcv : vs0[1]? = some (.str qn t0)) (ha : (ca, oa) ∈ led) (hda : oa.data = .cell (some (.ref aD))) (hi : (ci, oi) ∈ led) (hdi : oi.data = .cell (some (.ref f))) (hn : (cn_, on) ∈ led) (hdn : on.data = .cell (some (.int (n : Int) tn)))
    (T : Top p loose mean mg mb h₀) (hcs : cs.kind = .function) (hd : dp + 64 + 2 < recursionLimit) (hu : un + 8 * 64 + 16 < cLine)
    (hI : IntsAre vs ds) (hr : r = vs.length) (hr1 : 1 ≤ vs.length) (hr2 : vs.length ≤ 64) (h0 : 0 ≤ x) (hx : x < 1000000)
    (hQ : ∀ V D h' tk', IntsAre V D → D.length = vs.length → valL n D = x → (∀ d ∈ D, 0 ≤ d ∧ d ≤ x) → Fr h₀ L h' m → News h₀ L h' (g (listOf V.toArray kk)) → Q .none { s with heap := h', toks := tk' }) :
    wpAny (model PySem.Challenge.rw_wo0033_01.row.prog w) (ktrTop dp un gd cn cs L fa ccd cl outer) (call (.ref f) [.int x tx, .int 0 tl, .int r tr]) Q E s := by
  obtain ⟨own, rest, rfl, hg, h1, h2⟩ := U.split
  have hlen := hI.length
  have nA := N (aD, listOf vs.toArray kk) (List.mem_append_right _ (.head _))
  have ne : ∀ (b : Addr) (o : Obj), (b, o) ∈ own ++ (aD, listOf vs.toArray kk) :: rest → o.data ≠ .seq vs.toArray kk → (b, o) ∈ own ++ rest := fun b o hb hd => by
    rcases List.mem_append.mp hb with h | h
    · exact List.mem_append_left _ h
    · rcases List.mem_cons.mp h with h | h
      · cases h; exact absurd rfl hd
      · exact List.mem_append_right _ h
  have N' : News h₀ L s.heap ((aD, listOf vs.toArray kk) :: (own ++ rest)) := fun p hp => by
    rcases List.mem_cons.mp hp with rfl | hp
    · exact nA
    · rcases List.mem_append.mp hp with h | h
      · exact N p (List.mem_append_left _ h)
      · exact N p (List.mem_append_right _ (.tail _ h))
  have G : InnerIn f c' ca cn_ ci aD n (own ++ rest) :=
    { fn := ⟨qn, doc, pm, ctv, ne _ _ hf (by intro q; cases q), oc, vs0, t0, ne _ _ hc (by rw [hcd]; intro q; cases q), hcd, hcv⟩
      cellA := ⟨oa, ne _ _ ha (by rw [hda]; intro q; cases q), hda⟩
      cellI := ⟨oi, ne _ _ hi (by rw [hdi]; intro q; cases q), hdi⟩
      cellN := ⟨on, tn, ne _ _ hn (by rw [hdn]; intro q; cases q), hdn⟩
      off := fun p hp => (List.mem_append.mp hp).elim (h1 p) (h2 p) }
  refine t_inner f c' ca cn_ ci aD n hn1 hn2 64 vs ds kk x 0 r tx tl tr _ _ _ _ _ _ _ _ _ _ _ _ _ _ _ _ _ _ B F X N' G T hcs hd hu hI (Nat.le_trans hr2 (by decide)) h0 hx (Int.le_refl 0) (by rw [hr]; exact Int.ofNat_lt.mpr hr1) (by rw [hr, hlen]; exact Int.le_refl _) (by rw [hr, Int.sub_zero]; exact Int.ofNat_le.mpr hr2) ?_
  intro V D vs' h' tk' e iV lD vD bD iS lS mS F' N''
  have iVl := iV.length
  have lD' : D.length = vs.length := Int.ofNat_inj.mp (by rw [lD, hr, Int.sub_zero])
  have e1 : vs' = V := by rw [e]; exact splice_all (by rw [hr]; rfl)
  subst e1
  refine hQ vs' D h' tk' iV lD' vD bD F' ?_
  rw [hg]
  intro p hp
  rcases List.mem_append.mp hp with h | h
  · exact N'' p (.tail _ (List.mem_append_left _ h))
  · rcases List.mem_cons.mp h with rfl | h
    · exact N'' _ (.head _)
    · exact N'' p (.tail _ (List.mem_append_right _ h))

theorem c_i2d (a : Int) (n Dn : Nat) (ta tn : Tok) (ps : Array Value) (codes news : Led) (dp un : Nat) (gd : Option (List Code)) (cn : Str) (cs : Scope) (fa : Addr) (ccd : Value) (cl : List (Str × Addr)) (outer : List Env) (A₀ : Around) (base h₀ : Heap) (L : Addr) (m : Str → Option Value) (s : Shared) (Q E : Value → Shared → Prop)
    (B : Below A₀ base outer h₀) (F : Fr h₀ L s.heap m) (X : (Mine.hd.heap_39 w.params).In h₀) (C : CodeHd base 71 67) (N : News h₀ L s.heap ((67, tabObj ps) :: (codes ++ news))) (hS : TabSt i2dInner qI2d ps codes) (hoff : OwnOff (codes ++ news) [67]) (T : Top p loose mean mg mb h₀) (hcs : cs.kind = .function) (hd : dp + 100 < recursionLimit) (hu : un + 1000 < cLine)
    (hn1 : 1 ≤ n) (hn2 : n ≤ 2) (ha : 0 < a) (ha' : a < 1000000) (hD : ((Builtin.Int.intBits a : Int) + (n : Int) - 1).fdiv n = Dn) (hD1 : 1 ≤ Dn) (hD2 : Dn ≤ 64)
    (hQ : ∀ aD V D c' oc vs t h' tk', oc.data = .fields vs → vs[1]? = some (.str qI2d t) → (67 : Nat) ≠ c' → (∀ q ∈ news, q.1 < aD) → (67 : Nat) < aD → IntsAre V D → D.length = Dn → valL n D = a → (∀ d ∈ D, 0 ≤ d ∧ d ≤ a) → Fr h₀ L h' m → News h₀ L h' ((aD, listOf V.toArray 0) :: (67, tabObj #[rawInt (posOf i2dInner).line, rawInt (posOf i2dInner).col, .ref c']) :: (c', oc) :: news) → Q (.ref aD) { s with heap := h', toks := tk' }) :
    wpAny (model PySem.Challenge.rw_wo0033_01.row.prog w) (ktrTop dp un gd cn cs L fa ccd cl outer) (call (.ref 72) [.int a ta, .int n tn]) Q E s := by
  revert X; k_fill; intro X
  have kmk := kstMark
  cases hS with
  | fresh =>
    simp only [List.nil_append] at N hoff
    refine wpAny_call ?_
    have hoff9 := hoff
    k_dflt (((refine' code_defC ?k1z30 ?k2z30 ?k3z30 ?k4z30 ?k5z30 ?kAz30 ?kFz30 ?kKz30 ?k6z30 ?k7z30 ?k8z30 ?k9z30 ?kBz30 ?kDz30 ?_ ?c2z30 ?c3z30 ?c4z30; (case kAz30 => exact rfl); (case kFz30 => exact rfl); (case kKz30 => assumption); (case k1z30 => k_asm); (case k2z30 => k_asm); (case k3z30 => k_asm); (case k4z30 => k_asm); (case k5z30 => k_asm); (case k6z30 => k_is); (case k7z30 => k_is); (case k8z30 => first | exact rm1 (by assumption) | ktr_room); (case k9z30 => exact BindsTo.of_eq rfl); (case kBz30 => exact rfl); (case kDz30 => decide +kernel); (case c2z30 => exact rfl); (case c3z30 => exact rfl); (case c4z30 => exact rfl); k_whole; intro gqz30 Lqz30 hqz30 tkqz30 cellsqz30 FGqz30 Fqz30 Nqz30 Yqz30 Bqz30 Xqz30 Tqz30 l1z30; (rename OwnOff _ _ => hO9z30; replace hO9z30 := offL hO9z30 (fun p hp => l1z30 p (by walk_at "my mem"))); (try k_lt l1z30); k_cells Yqz30; (try simp only [List.cons_append, List.nil_append] at Nqz30); (try dsimp only); (try k_fold))))
    iterate 22 (first | (k_unfold; (try dsimp only)) | walk1 | (dsimp only; walk1) | (leave1; walk_say "STEP leave1"; try dsimp only))
    (first | (with_reducible ((k_here; k_dflt (refine' mulRep ?kxz31 ?kDz31 ?k1z31 ?k2z31 ?k3z31 ?_; (case kxz31 => assumption); (case kDz31 => omega); (case k1z31 => k_asm); (case k2z31 => k_asm); (case k3z31 => walk_at "my mem"); intro lqz31 hqz31 Fqz31 Nqz31 l1z31; have l1cz31 := l1z31; (try k_lt l1z31))))) | (dsimp only; (with_reducible ((k_here; k_dflt (refine' mulRep ?kxz31 ?kDz31 ?k1z31 ?k2z31 ?k3z31 ?_; (case kxz31 => assumption); (case kDz31 => omega); (case k1z31 => k_asm); (case k2z31 => k_asm); (case k3z31 => walk_at "my mem"); intro lqz31 hqz31 Fqz31 Nqz31 l1z31; have l1cz31 := l1z31; (try k_lt l1z31)))))))
    iterate 11 (first | (k_unfold; (try dsimp only)) | walk1 | (dsimp only; walk1) | (leave1; walk_say "STEP leave1"; try dsimp only))
    focus
      iterate 4 (first | (k_unfold; (try dsimp only)) | walk1 | (dsimp only; walk1) | (leave1; walk_say "STEP leave1"; try dsimp only))
      (first | (with_reducible ((k_here; k_dflt (refine' callWith_F ?k1z32 ?_; (case k1z32 => exact FnAt.of (by k_asm) (by walk_at "my mem")); k_whole)))) | (dsimp only; (with_reducible ((k_here; k_dflt (refine' callWith_F ?k1z32 ?_; (case k1z32 => exact FnAt.of (by k_asm) (by walk_at "my mem")); k_whole))))))
      iterate 11 (first | (k_unfold; (try dsimp only)) | walk1 | (dsimp only; walk1) | (leave1; walk_say "STEP leave1"; try dsimp only))
      (first | (with_reducible ((k_here; (with_reducible show wpAny _ _ (call (Value.builtin "len") [Value.ref _]) _ _ _); k_dflt (refine' lenL ?k2z33 ?k3z33 ?k4z33 ?_; (case k2z33 => k_asm); (case k3z33 => walk_at "my mem"); (case k4z33 => (simp only [List.length_replicate]; omega)); intro nqz33 tqz33 tkqz33 hnqz33)))) | (dsimp only; (with_reducible ((k_here; (with_reducible show wpAny _ _ (call (Value.builtin "len") [Value.ref _]) _ _ _); k_dflt (refine' lenL ?k2z33 ?k3z33 ?k4z33 ?_; (case k2z33 => k_asm); (case k3z33 => walk_at "my mem"); (case k4z33 => (simp only [List.length_replicate]; omega)); intro nqz33 tqz33 tkqz33 hnqz33))))))
      iterate 2 (first | (k_unfold; (try dsimp only)) | walk1 | (dsimp only; walk1) | (leave1; walk_say "STEP leave1"; try dsimp only))
      focus
        (first | (with_reducible ((k_dflt (exact FnAt.of (by k_asm) (by walk_at "my mem"))))) | (dsimp only; (with_reducible ((k_dflt (exact FnAt.of (by k_asm) (by walk_at "my mem")))))))
      focus
        (first | (with_reducible ((k_here; k_dflt (refine' t_inner_at ?n1z35 ?n2z35 ?kBz35 ?kFz35 ?kXz35 ?kNz35 ?kUz35 ?hfz35 ?hcz35 ?hcdz35 ?hcvz35 ?haz35 ?hdaz35 ?hiz35 ?hdiz35 ?hnz35 ?hdnz35 ?kTz35 ?kKz35 ?hdz35 ?huz35 ?hIz35 ?hrz35 ?hr1z35 ?hr2z35 ?h0z35 ?hxz35 ?_; (case kBz35 => assumption); (case kFz35 => assumption); (case kXz35 => assumption); (case kTz35 => assumption); (case kNz35 => assumption); (case hfz35 => walk_at "my mem"); (case hcz35 => walk_at "my mem"); (case hcdz35 => assumption); (case hcvz35 => assumption); (case haz35 => walk_at "my mem"); (case hdaz35 => assumption); (case hiz35 => walk_at "my mem"); (case hdiz35 => assumption); (case hnz35 => walk_at "my mem"); (case hdnz35 => assumption); (case n1z35 => assumption); (case n2z35 => assumption); (case kKz35 => rfl); (case hdz35 => first | exact rm1 (by assumption) | exact rm2 (by assumption) (by decide) | exact rm3 (by assumption) (by decide) | exact rm4 (by assumption) (by decide) | omega | ktr_room); (case huz35 => first | exact rm1 (by assumption) | exact rm2 (by assumption) (by decide) | exact rm3 (by assumption) (by decide) | exact rm4 (by assumption) (by decide) | omega | ktr_units); (case kUz35 => k_updF); (case hIz35 => exact ints_rep _ _); (case hrz35 => assumption); (case hr1z35 => (simp only [List.length_replicate]; assumption)); (case hr2z35 => (simp only [List.length_replicate]; assumption)); (case h0z35 => omega); (case hxz35 => omega); intro Vqz35 Dqz35 hqz35 tkqz35 iVqz35 lDqz35 vDqz35 bDqz35 Fqz35 Nqz35; (try dsimp only at Nqz35); (try dsimp only); (try k_fold))))) | (dsimp only; (with_reducible ((k_here; k_dflt (refine' t_inner_at ?n1z35 ?n2z35 ?kBz35 ?kFz35 ?kXz35 ?kNz35 ?kUz35 ?hfz35 ?hcz35 ?hcdz35 ?hcvz35 ?haz35 ?hdaz35 ?hiz35 ?hdiz35 ?hnz35 ?hdnz35 ?kTz35 ?kKz35 ?hdz35 ?huz35 ?hIz35 ?hrz35 ?hr1z35 ?hr2z35 ?h0z35 ?hxz35 ?_; (case kBz35 => assumption); (case kFz35 => assumption); (case kXz35 => assumption); (case kTz35 => assumption); (case kNz35 => assumption); (case hfz35 => walk_at "my mem"); (case hcz35 => walk_at "my mem"); (case hcdz35 => assumption); (case hcvz35 => assumption); (case haz35 => walk_at "my mem"); (case hdaz35 => assumption); (case hiz35 => walk_at "my mem"); (case hdiz35 => assumption); (case hnz35 => walk_at "my mem"); (case hdnz35 => assumption); (case n1z35 => assumption); (case n2z35 => assumption); (case kKz35 => rfl); (case hdz35 => first | exact rm1 (by assumption) | exact rm2 (by assumption) (by decide) | exact rm3 (by assumption) (by decide) | exact rm4 (by assumption) (by decide) | omega | ktr_room); (case huz35 => first | exact rm1 (by assumption) | exact rm2 (by assumption) (by decide) | exact rm3 (by assumption) (by decide) | exact rm4 (by assumption) (by decide) | omega | ktr_units); (case kUz35 => k_updF); (case hIz35 => exact ints_rep _ _); (case hrz35 => assumption); (case hr1z35 => (simp only [List.length_replicate]; assumption)); (case hr2z35 => (simp only [List.length_replicate]; assumption)); (case h0z35 => omega); (case hxz35 => omega); intro Vqz35 Dqz35 hqz35 tkqz35 iVqz35 lDqz35 vDqz35 bDqz35 Fqz35 Nqz35; (try dsimp only at Nqz35); (try dsimp only); (try k_fold)))))))
        iterate 6 (first | (k_unfold; (try dsimp only)) | walk1 | (dsimp only; walk1) | (leave1; walk_say "STEP leave1"; try dsimp only))
      rotate_left
    rotate_left
    focus
      iterate 5 (first | (k_unfold; (try dsimp only)) | walk1 | (dsimp only; walk1) | (leave1; walk_say "STEP leave1"; try dsimp only))
    rotate_left
    · refine' hQ _ _ _ _ _ _ _ _ _ ?d1 ?d2 ?off ?lt ?h67 (by assumption) ?len (by assumption) (by assumption) (by assumption) (cb_drop (by assumption) (List.forall_mem_cons.mpr ⟨by walk_at "my mem", List.forall_mem_cons.mpr ⟨by walk_at "my mem", List.forall_mem_cons.mpr ⟨by walk_at "my mem", fun p hp => by walk_at "my mem"⟩⟩⟩))
      case d1 => assumption
      case d2 => assumption
      case off => exact neN (by omega)
      case lt =>
        intro q hq
        (rename ∀ p ∈ _, _ < _ => z)
        exact z q (by walk_at "my mem")
      case h67 => exact ltN (by omega)
      case len => exact Eq.trans (by assumption) (List.length_replicate ..)
    · exact absurd (by assumption) (Int.ne_of_gt ha)
  | made c' oc vs t h1 h2 =>
    simp only [List.cons_append, List.nil_append] at N hoff
    refine wpAny_call ?_
    have hoff9 := hoff
    have hoff : OwnOff news [67] := fun p hp => hoff p (List.Mem.tail _ hp)
    k_dflt (((refine' code_defC ?k1z36 ?k2z36 ?k3z36 ?k4z36 ?k5z36 ?kAz36 ?kFz36 ?kKz36 ?k6z36 ?k7z36 ?k8z36 ?k9z36 ?kBz36 ?kDz36 ?_ ?c2z36 ?c3z36 ?c4z36; (case kAz36 => exact rfl); (case kFz36 => exact rfl); (case kKz36 => assumption); (case k1z36 => k_asm); (case k2z36 => k_asm); (case k3z36 => k_asm); (case k4z36 => k_asm); (case k5z36 => k_asm); (case k6z36 => k_is); (case k7z36 => k_is); (case k8z36 => first | exact rm1 (by assumption) | ktr_room); (case k9z36 => exact BindsTo.of_eq rfl); (case kBz36 => exact rfl); (case kDz36 => decide +kernel); (case c2z36 => exact rfl); (case c3z36 => exact rfl); (case c4z36 => exact rfl); k_whole; intro gqz36 Lqz36 hqz36 tkqz36 cellsqz36 FGqz36 Fqz36 Nqz36 Yqz36 Bqz36 Xqz36 Tqz36 l1z36; (rename OwnOff _ _ => hO9z36; replace hO9z36 := offL hO9z36 (fun p hp => l1z36 p (by walk_at "my mem"))); (try k_lt l1z36); k_cells Yqz36; (try simp only [List.cons_append, List.nil_append] at Nqz36); (try dsimp only); (try k_fold))))
    iterate 22 (first | (k_unfold; (try dsimp only)) | walk1 | (dsimp only; walk1) | (leave1; walk_say "STEP leave1"; try dsimp only))
    (first | (with_reducible ((k_here; k_dflt (refine' mulRep ?kxz37 ?kDz37 ?k1z37 ?k2z37 ?k3z37 ?_; (case kxz37 => assumption); (case kDz37 => omega); (case k1z37 => k_asm); (case k2z37 => k_asm); (case k3z37 => walk_at "my mem"); intro lqz37 hqz37 Fqz37 Nqz37 l1z37; have l1cz37 := l1z37; (try k_lt l1z37))))) | (dsimp only; (with_reducible ((k_here; k_dflt (refine' mulRep ?kxz37 ?kDz37 ?k1z37 ?k2z37 ?k3z37 ?_; (case kxz37 => assumption); (case kDz37 => omega); (case k1z37 => k_asm); (case k2z37 => k_asm); (case k3z37 => walk_at "my mem"); intro lqz37 hqz37 Fqz37 Nqz37 l1z37; have l1cz37 := l1z37; (try k_lt l1z37)))))))
    iterate 11 (first | (k_unfold; (try dsimp only)) | walk1 | (dsimp only; walk1) | (leave1; walk_say "STEP leave1"; try dsimp only))
    focus
      iterate 4 (first | (k_unfold; (try dsimp only)) | walk1 | (dsimp only; walk1) | (leave1; walk_say "STEP leave1"; try dsimp only))
      (first | (with_reducible ((k_here; k_dflt (refine' callWith_F ?k1z38 ?_; (case k1z38 => exact FnAt.of (by k_asm) (by walk_at "my mem")); k_whole)))) | (dsimp only; (with_reducible ((k_here; k_dflt (refine' callWith_F ?k1z38 ?_; (case k1z38 => exact FnAt.of (by k_asm) (by walk_at "my mem")); k_whole))))))
      iterate 11 (first | (k_unfold; (try dsimp only)) | walk1 | (dsimp only; walk1) | (leave1; walk_say "STEP leave1"; try dsimp only))
      (first | (with_reducible ((k_here; (with_reducible show wpAny _ _ (call (Value.builtin "len") [Value.ref _]) _ _ _); k_dflt (refine' lenL ?k2z39 ?k3z39 ?k4z39 ?_; (case k2z39 => k_asm); (case k3z39 => walk_at "my mem"); (case k4z39 => (simp only [List.length_replicate]; omega)); intro nqz39 tqz39 tkqz39 hnqz39)))) | (dsimp only; (with_reducible ((k_here; (with_reducible show wpAny _ _ (call (Value.builtin "len") [Value.ref _]) _ _ _); k_dflt (refine' lenL ?k2z39 ?k3z39 ?k4z39 ?_; (case k2z39 => k_asm); (case k3z39 => walk_at "my mem"); (case k4z39 => (simp only [List.length_replicate]; omega)); intro nqz39 tqz39 tkqz39 hnqz39))))))
      iterate 2 (first | (k_unfold; (try dsimp only)) | walk1 | (dsimp only; walk1) | (leave1; walk_say "STEP leave1"; try dsimp only))
      focus
        (first | (with_reducible ((k_dflt (exact FnAt.of (by k_asm) (by walk_at "my mem"))))) | (dsimp only; (with_reducible ((k_dflt (exact FnAt.of (by k_asm) (by walk_at "my mem")))))))
      focus
        (first | (with_reducible ((k_here; k_dflt (refine' t_inner_at ?n1z41 ?n2z41 ?kBz41 ?kFz41 ?kXz41 ?kNz41 ?kUz41 ?hfz41 ?hcz41 ?hcdz41 ?hcvz41 ?haz41 ?hdaz41 ?hiz41 ?hdiz41 ?hnz41 ?hdnz41 ?kTz41 ?kKz41 ?hdz41 ?huz41 ?hIz41 ?hrz41 ?hr1z41 ?hr2z41 ?h0z41 ?hxz41 ?_; (case kBz41 => assumption); (case kFz41 => assumption); (case kXz41 => assumption); (case kTz41 => assumption); (case kNz41 => assumption); (case hfz41 => walk_at "my mem"); (case hcz41 => walk_at "my mem"); (case hcdz41 => assumption); (case hcvz41 => assumption); (case haz41 => walk_at "my mem"); (case hdaz41 => assumption); (case hiz41 => walk_at "my mem"); (case hdiz41 => assumption); (case hnz41 => walk_at "my mem"); (case hdnz41 => assumption); (case n1z41 => assumption); (case n2z41 => assumption); (case kKz41 => rfl); (case hdz41 => first | exact rm1 (by assumption) | exact rm2 (by assumption) (by decide) | exact rm3 (by assumption) (by decide) | exact rm4 (by assumption) (by decide) | omega | ktr_room); (case huz41 => first | exact rm1 (by assumption) | exact rm2 (by assumption) (by decide) | exact rm3 (by assumption) (by decide) | exact rm4 (by assumption) (by decide) | omega | ktr_units); (case kUz41 => k_updF); (case hIz41 => exact ints_rep _ _); (case hrz41 => assumption); (case hr1z41 => (simp only [List.length_replicate]; assumption)); (case hr2z41 => (simp only [List.length_replicate]; assumption)); (case h0z41 => omega); (case hxz41 => omega); intro Vqz41 Dqz41 hqz41 tkqz41 iVqz41 lDqz41 vDqz41 bDqz41 Fqz41 Nqz41; (try dsimp only at Nqz41); (try dsimp only); (try k_fold))))) | (dsimp only; (with_reducible ((k_here; k_dflt (refine' t_inner_at ?n1z41 ?n2z41 ?kBz41 ?kFz41 ?kXz41 ?kNz41 ?kUz41 ?hfz41 ?hcz41 ?hcdz41 ?hcvz41 ?haz41 ?hdaz41 ?hiz41 ?hdiz41 ?hnz41 ?hdnz41 ?kTz41 ?kKz41 ?hdz41 ?huz41 ?hIz41 ?hrz41 ?hr1z41 ?hr2z41 ?h0z41 ?hxz41 ?_; (case kBz41 => assumption); (case kFz41 => assumption); (case kXz41 => assumption); (case kTz41 => assumption); (case kNz41 => assumption); (case hfz41 => walk_at "my mem"); (case hcz41 => walk_at "my mem"); (case hcdz41 => assumption); (case hcvz41 => assumption); (case haz41 => walk_at "my mem"); (case hdaz41 => assumption); (case hiz41 => walk_at "my mem"); (case hdiz41 => assumption); (case hnz41 => walk_at "my mem"); (case hdnz41 => assumption); (case n1z41 => assumption); (case n2z41 => assumption); (case kKz41 => rfl); (case hdz41 => first | exact rm1 (by assumption) | exact rm2 (by assumption) (by decide) | exact rm3 (by assumption) (by decide) | exact rm4 (by assumption) (by decide) | omega | ktr_room); (case huz41 => first | exact rm1 (by assumption) | exact rm2 (by assumption) (by decide) | exact rm3 (by assumption) (by decide) | exact rm4 (by assumption) (by decide) | omega | ktr_units); (case kUz41 => k_updF); (case hIz41 => exact ints_rep _ _); (case hrz41 => assumption); (case hr1z41 => (simp only [List.length_replicate]; assumption)); (case hr2z41 => (simp only [List.length_replicate]; assumption)); (case h0z41 => omega); (case hxz41 => omega); intro Vqz41 Dqz41 hqz41 tkqz41 iVqz41 lDqz41 vDqz41 bDqz41 Fqz41 Nqz41; (try dsimp only at Nqz41); (try dsimp only); (try k_fold)))))))
        iterate 6 (first | (k_unfold; (try dsimp only)) | walk1 | (dsimp only; walk1) | (leave1; walk_say "STEP leave1"; try dsimp only))
      rotate_left
    rotate_left
    focus
      iterate 5 (first | (k_unfold; (try dsimp only)) | walk1 | (dsimp only; walk1) | (leave1; walk_say "STEP leave1"; try dsimp only))
    rotate_left
    · refine' hQ _ _ _ _ _ _ _ _ _ ?xd1 ?xd2 ?xoff ?xlt ?xh67 (by assumption) ?xlen (by assumption) (by assumption) (by assumption) (cb_drop (by assumption) (List.forall_mem_cons.mpr ⟨by walk_at "my mem", List.forall_mem_cons.mpr ⟨by walk_at "my mem", List.forall_mem_cons.mpr ⟨by walk_at "my mem", fun p hp => by walk_at "my mem"⟩⟩⟩))
      case xd1 => assumption
      case xd2 => assumption
      case xoff => exact fun e => hoff9 _ (.head _) 67 (.head _) e.symm
      case xlt =>
        intro q hq
        (rename ∀ p ∈ _, _ < _ => z)
        exact z q (by walk_at "my mem")
      case xh67 => exact ltN (by omega)
      case xlen => exact Eq.trans (by assumption) (List.length_replicate ..)
    · exact absurd (by assumption) (Int.ne_of_gt ha)
end

end
-- C4
section
example : True := by w_top off; exact trivial

structure InnerIn2 (f c' ca cn_ ci aD : Addr) (n : Int) (o : Obj) (news : Led) : Prop where
  fn : ∃ qn doc pm ctv, (f, fnMade (Str.ofString "inner") qn (paramsOf d2iInner) (bodyOf d2iInner) (scopeOf d2iInner) [(Str.ofString "n", cn_), (Str.ofString "inner", ci), (Str.ofString "digits", ca)] doc pm c' ctv) ∈ news ∧ ∃ oc vs t, (c', oc) ∈ news ∧ oc.data = .fields vs ∧ vs[1]? = some (.str qn t)
  cellA : ∃ o, (ca, o) ∈ news ∧ o.data = .cell (some (.ref aD))
  cellI : ∃ o, (ci, o) ∈ news ∧ o.data = .cell (some (.ref f))
  cellN : ∃ o t, (cn_, o) ∈ news ∧ o.data = .cell (some (.int n t))
  lst : (aD, o) ∈ news

section
variable {prog : Program} {w : World} {A : Around} {E : Value → Shared → Prop} {s : Shared} {h₀ : Heap} {L : Addr} {news : Led}
theorem itemL {value slice : PySem.Expr} {l : Addr} {vs : List Value} {ds : List Int} {c : Nat} {k : Int} {u : Tok} {Q : Value → Shared → Prop} (N : News h₀ L s.heap news) (hl : (l, listOf vs.toArray c) ∈ news) (hi : IntsAre vs ds) (h0 : 0 ≤ k) (h1 : k < ds.length) (hfit : k < 2 ^ 63) (h : ∀ t, Q (.int (ds.getD k.toNat 0) t) s)
    (hs : subscripted slice false (.ref l) (.int k u) = operate [.ref l, .int k u] (getItem (.ref l) (.int k u)) := by with_unfolding_all rfl) :
    wpAny (model prog w) A (subscriptTail value slice (.ref l) (.int k u)) Q E s := ksa_sub N hl hi h0 h1 hfit h hs
theorem truthyL {l : Addr} {vs : List Value} {c : Nat} {Q : Bool → Shared → Prop} (N : News h₀ L s.heap news) (hl : (l, listOf vs.toArray c) ∈ news) (h1 : 1 ≤ vs.length) (h2 : vs.length ≤ 1000) (h : ∀ tk, Q true { s with toks := tk }) : wpAny (model prog w) A (truthy (.ref l)) Q E s :=
  kgr_truthy N hl rfl rfl (by omega) (by
    have e : vs.isEmpty = false := by cases vs with | nil => simp at h1 | cons _ _ => rfl
    rw [e]; exact h _)
end
section
variable {w : World} {p : Program} {loose : List Str} {mean : ExcName → Option Value} {mg mb : Str → Option Value}
noncomputable def D2I (w : World) (p : Program) (loose : List Str) (mean : ExcName → Option Value) (mg mb : Str → Option Value) (f c' ca cn_ ci aD : Addr) (n : Nat) (vs : List Value) (ds : List Int) (kk : Nat) (k : Nat) : Prop :=
  ∀ (l r : Int) (tl tr : Tok) (news : Led) (dp un : Nat) (gd : Option (List Code)) (cn : Str) (cs : Scope) (fa : Addr) (ccd : Value) (cl : List (Str × Addr)) (outer : List Env) (A₀ : Around) (base h₀ : Heap) (L : Addr) (m : Str → Option Value) (s : Shared) (Q E : Value → Shared → Prop),
    Below A₀ base outer h₀ → Fr h₀ L s.heap m → (Mine.hd.heap_39 w.params).In h₀ → News h₀ L s.heap news → InnerIn2 f c' ca cn_ ci aD n (listOf vs.toArray kk) news → Top p loose mean mg mb h₀ → cs.kind = .function → dp + k + 2 < recursionLimit → un + 8 * k + 16 < cLine →
    0 ≤ l → l < r → r ≤ ds.length → r - l ≤ k →
    (∀ v t h' tk', v = valL n ((ds.drop l.toNat).take (r - l).toNat) → 0 ≤ v → v < 1000000 → Fr h₀ L h' m → News h₀ L h' news → Q (.int v t) { s with heap := h', toks := tk' }) →
    wpAny (model PySem.Challenge.rw_wo0033_01.row.prog w) (ktrTop dp un gd cn cs L fa ccd cl outer) (call (.ref f) [.int l tl, .int r tr]) Q E s


theorem slice_split {ds : List Int} {a b c : Nat} (h1 : a ≤ b) (h2 : b ≤ c) : (ds.drop a).take (c - a) = (ds.drop a).take (b - a) ++ (ds.drop b).take (c - b) := by
  have e : c - a = (b - a) + (c - b) := (tn_sum h1 h2).symm
  rw [e, List.take_add, List.drop_drop]
  congr 3
  exact Nat.add_sub_cancel' h1
theorem tn_sub {a b : Int} (h : 0 ≤ b) (h' : b ≤ a) : (a - b).toNat = a.toNat - b.toNat := by
  obtain ⟨b, rfl⟩ := Int.eq_ofNat_of_zero_le h
  obtain ⟨a, rfl⟩ := Int.eq_ofNat_of_zero_le (Int.le_trans h h')
  rw [← Int.ofNat_sub (Int.ofNat_le.mp h')]; rfl
theorem d2i_end {n : Nat} {ds : List Int} {l r mid sh v1 q v2 : Int} (m1 : 2 * mid ≤ l + r) (m2 : l + r < 2 * mid + 2) (hne : l + 1 ≠ r) (hs : sh = (mid - l) * n) (e1 : v1 = valL n ((ds.drop mid.toNat).take (r - mid).toNat)) (hq : q = v1 * 2 ^ sh.toNat) (e2 : v2 = valL n ((ds.drop l.toNat).take (mid - l).toNat)) (h1 : 0 ≤ l) (h2 : l < r) (h3 : r ≤ ds.length) :
    q + v2 = valL n ((ds.drop l.toNat).take (r - l).toNat) := by
  have lm : l ≤ mid := mdL m1 m2 h2
  have mr : mid ≤ r := Int.le_of_lt (mdR m1 m2 h2)
  have h0 : 0 ≤ mid := Int.le_trans h1 lm
  have k1 : l.toNat ≤ mid.toNat := Int.toNat_le_toNat lm
  have k2 : mid.toNat ≤ r.toNat := Int.toNat_le_toNat mr
  have a1 : (r - l).toNat = r.toNat - l.toNat := tn_sub h1 (Int.le_trans lm mr)
  have a2 : (mid - l).toNat = mid.toNat - l.toNat := tn_sub h1 lm
  have a3 : (r - mid).toNat = r.toNat - mid.toNat := tn_sub h0 mr
  have k3 : r.toNat ≤ ds.length := Int.toNat_le.mpr h3
  have hlen : ((ds.drop l.toNat).take (mid.toNat - l.toNat)).length = mid.toNat - l.toNat := by
    rw [List.length_take, List.length_drop]
    exact Nat.min_eq_left (Nat.sub_le_sub_right (Nat.le_trans k2 k3) _)
  rw [a1, slice_split k1 k2, valL_append, hlen, hq, e1, e2, a2, a3]
  have e : sh.toNat = n * (mid.toNat - l.toNat) := by
    have : sh = ((n * (mid.toNat - l.toNat) : Nat) : Int) := by
      rw [hs, Int.natCast_mul, Int.mul_comm]
      congr 1
      rw [← a2, Int.toNat_of_nonneg (Int.sub_nonneg_of_le lm)]
    rw [this]; rfl
  rw [e, Int.mul_comm]; exact Int.add_comm _ _
theorem valL_one {n : Nat} {ds : List Int} {l : Nat} (h : l < ds.length) : valL n ((ds.drop l).take 1) = ds.getD l 0 := by
  rw [List.drop_eq_getElem_cons h, List.take_succ_cons, List.take_zero]
  simp [valL, h]
theorem t_inner2 (f c' ca cn_ ci aD : Addr) (n : Nat) (hn1 : 1 ≤ n) (hn2 : n ≤ 2) (vs : List Value) (ds : List Int) (kk : Nat) (hi : IntsAre vs ds) (hr : ds.length ≤ 64) (hv : ∀ i j : Nat, 0 ≤ valL n ((ds.drop i).take j) ∧ valL n ((ds.drop i).take j) < 1000000) : ∀ k, D2I w p loose mean mg mb f c' ca cn_ ci aD n vs ds kk k := by
  intro k
  induction k with
  | zero => intro l r tl tr news dp un gd cn cs fa ccd cl outer A₀ base h₀ L m s Q E B F X N G T hcs hd hu h1 h2 h3 h4 hQ; exact (no0 h2 h4).elim
  | succ k IH =>
    intro l r tl tr news dp un gd cn cs fa ccd cl outer A₀ base h₀ L m s Q E B F X N G T hcs hd hu h1 h2 h3 h4 hQ
    revert X; k_fill; intro X
    have hlen := hi.length
    obtain ⟨qn, doc, pm, ctv, hf, oc, vs0, t0, hoc, hod, hov⟩ := G.fn
    obtain ⟨oa, ha, hda⟩ := G.cellA
    obtain ⟨oi, hi', hdi⟩ := G.cellI
    obtain ⟨on, tn, hn, hdn⟩ := G.cellN
    have hlst := G.lst
    change (f, fnMade (Str.ofString "inner") qn ⟨_, _, _, _, _, _, _⟩ (_ :: _) ⟨_, _, _, _, _⟩ [(Str.ofString "n", cn_), (Str.ofString "inner", ci), (Str.ofString "digits", ca)] doc pm c' ctv) ∈ news at hf
    refine wpAny_call ?_
    refine' code_nest (cl := [(Str.ofString "n", cn_), (Str.ofString "inner", ci), (Str.ofString "digits", ca)]) B F X N T ?kA ?kF ?kK hf ⟨c', oc, vs0, t0, rfl, (N _ hoc).1, hod, hov⟩ ?k8 ?k9 ?kB ?_ ?c2 ?c3 ?c4 ?c5
    case kA => exact rfl
    case kF => exact rfl
    case kK => assumption
    case k8 => first | exact rmZ (by assumption) | ktr_room
    case k9 => exact BindsTo.of_eq rfl
    case c5 => decide
    case kB => exact locs rfl
    case c2 => exact rfl
    case c3 => exact rfl
    case c4 => exact rfl
    intro g' L' h' FG' F' N' B' X' T'
    clear N F
    (try dsimp only); (try k_fold)
    iterate 12 (first | (k_unfold; (try dsimp only)) | walk1 | (dsimp only; walk1) | (leave1; walk_say "STEP leave1"; try dsimp only))
    focus
      iterate 4 (first | (k_unfold; (try dsimp only)) | walk1 | (dsimp only; walk1) | (leave1; walk_say "STEP leave1"; try dsimp only))
      (first | (with_reducible ((k_here; k_dflt (refine' nameX_F ?Nz42 ?cz42 ?mz42 ?dz42 ?_ ?az42 ?bz42; (case az42 => rfl); (case bz42 => rfl); (case Nz42 => k_asm); (case cz42 => rfl); (case mz42 => walk_at "my mem"); (case dz42 => assumption); k_whole)))) | (dsimp only; (with_reducible ((k_here; k_dflt (refine' nameX_F ?Nz42 ?cz42 ?mz42 ?dz42 ?_ ?az42 ?bz42; (case az42 => rfl); (case bz42 => rfl); (case Nz42 => k_asm); (case cz42 => rfl); (case mz42 => walk_at "my mem"); (case dz42 => assumption); k_whole))))))
      iterate 1 (first | (k_unfold; (try dsimp only)) | walk1 | (dsimp only; walk1) | (leave1; walk_say "STEP leave1"; try dsimp only))
      (first | (with_reducible ((k_here; (with_reducible show wpAny _ _ (subscriptTail _ _ (Value.ref _) (Value.int _ _)) _ _ _); k_dflt (refine' itemL ?k1z43 ?k2z43 ?k3z43 ?k4z43 ?k5z43 ?k6z43 ?_ ?k7z43; (case k1z43 => k_asm); (case k2z43 => walk_at "my mem"); (case k3z43 => assumption); (case k4z43 => first | assumption | omega); (case k5z43 => first | exact ltE (by assumption) (by assumption) | omega); (case k6z43 => first | exact lt63 (by assumption) (by assumption) (Nat.le_trans (by assumption) (by decide)) | omega); (case k7z43 => with_unfolding_all rfl); intro tqz43)))) | (dsimp only; (with_reducible ((k_here; (with_reducible show wpAny _ _ (subscriptTail _ _ (Value.ref _) (Value.int _ _)) _ _ _); k_dflt (refine' itemL ?k1z43 ?k2z43 ?k3z43 ?k4z43 ?k5z43 ?k6z43 ?_ ?k7z43; (case k1z43 => k_asm); (case k2z43 => walk_at "my mem"); (case k3z43 => assumption); (case k4z43 => first | assumption | omega); (case k5z43 => first | exact ltE (by assumption) (by assumption) | omega); (case k6z43 => first | exact lt63 (by assumption) (by assumption) (Nat.le_trans (by assumption) (by decide)) | omega); (case k7z43 => with_unfolding_all rfl); intro tqz43))))))
      iterate 1 (first | (k_unfold; (try dsimp only)) | walk1 | (dsimp only; walk1) | (leave1; walk_say "STEP leave1"; try dsimp only))
    rotate_left
    focus
      iterate 10 (first | (k_unfold; (try dsimp only)) | walk1 | (dsimp only; walk1) | (leave1; walk_say "STEP leave1"; try dsimp only))
      (first | (with_reducible ((k_here; k_dflt first | ((with_reducible show wpAny _ _ (binaryOp _ (Value.int _ _) (Value.int 1 _)) _ _ _); refine my_mid ?_; intro qqz44 tqz44 tkqz44 hq1qz44 hq2qz44; (try dsimp only)) | (refine my_shr (by first | assumption | omega) (by first | assumption | omega) ?_; intro qqz44 tqz44 tkqz44 hq1qz44 hq2qz44 hq3qz44; (try dsimp only))))) | (dsimp only; (with_reducible ((k_here; k_dflt first | ((with_reducible show wpAny _ _ (binaryOp _ (Value.int _ _) (Value.int 1 _)) _ _ _); refine my_mid ?_; intro qqz44 tqz44 tkqz44 hq1qz44 hq2qz44; (try dsimp only)) | (refine my_shr (by first | assumption | omega) (by first | assumption | omega) ?_; intro qqz44 tqz44 tkqz44 hq1qz44 hq2qz44 hq3qz44; (try dsimp only)))))))
      iterate 9 (first | (k_unfold; (try dsimp only)) | walk1 | (dsimp only; walk1) | (leave1; walk_say "STEP leave1"; try dsimp only))
      (first | (with_reducible ((k_here; k_dflt (refine' nameX_F ?Nz45 ?cz45 ?mz45 ?dz45 ?_ ?az45 ?bz45; (case az45 => rfl); (case bz45 => rfl); (case Nz45 => k_asm); (case cz45 => rfl); (case mz45 => walk_at "my mem"); (case dz45 => assumption); k_whole)))) | (dsimp only; (with_reducible ((k_here; k_dflt (refine' nameX_F ?Nz45 ?cz45 ?mz45 ?dz45 ?_ ?az45 ?bz45; (case az45 => rfl); (case bz45 => rfl); (case Nz45 => k_asm); (case cz45 => rfl); (case mz45 => walk_at "my mem"); (case dz45 => assumption); k_whole))))))
      (first | (with_reducible ((k_here; k_dflt (refine my_mul (by first | exact mdS (by assumption) (by assumption) (by assumption) | omega) (by first | exact mdV (by assumption) (by assumption) (by assumption) (by assumption) (by assumption) (by assumption) (by assumption) | exact mdW (by assumption) (by assumption) (by assumption) (by assumption) (by assumption) (by assumption) | omega) (by first | exact Int.natCast_nonneg _ | omega) (by first | exact on2 (by assumption) | omega) ?_; intro qqz46 tqz46 tkqz46 hq1qz46 hq2qz46 hq3qz46; (try dsimp only))))) | (dsimp only; (with_reducible ((k_here; k_dflt (refine my_mul (by first | exact mdS (by assumption) (by assumption) (by assumption) | omega) (by first | exact mdV (by assumption) (by assumption) (by assumption) (by assumption) (by assumption) (by assumption) (by assumption) | exact mdW (by assumption) (by assumption) (by assumption) (by assumption) (by assumption) (by assumption) | omega) (by first | exact Int.natCast_nonneg _ | omega) (by first | exact on2 (by assumption) | omega) ?_; intro qqz46 tqz46 tkqz46 hq1qz46 hq2qz46 hq3qz46; (try dsimp only)))))))
      iterate 7 (first | (k_unfold; (try dsimp only)) | walk1 | (dsimp only; walk1) | (leave1; walk_say "STEP leave1"; try dsimp only))
      (first | (with_reducible ((k_here; k_dflt (refine' nameX_F ?Nz47 ?cz47 ?mz47 ?dz47 ?_ ?az47 ?bz47; (case az47 => rfl); (case bz47 => rfl); (case Nz47 => k_asm); (case cz47 => rfl); (case mz47 => walk_at "my mem"); (case dz47 => assumption); k_whole)))) | (dsimp only; (with_reducible ((k_here; k_dflt (refine' nameX_F ?Nz47 ?cz47 ?mz47 ?dz47 ?_ ?az47 ?bz47; (case az47 => rfl); (case bz47 => rfl); (case Nz47 => k_asm); (case cz47 => rfl); (case mz47 => walk_at "my mem"); (case dz47 => assumption); k_whole))))))
      (first | (with_reducible ((k_here; k_dflt (refine' callWith_F ?k1z48 ?_; (case k1z48 => exact FnAt.of (by k_asm) (by walk_at "my mem")); k_whole)))) | (dsimp only; (with_reducible ((k_here; k_dflt (refine' callWith_F ?k1z48 ?_; (case k1z48 => exact FnAt.of (by k_asm) (by walk_at "my mem")); k_whole))))))
      iterate 5 (first | (k_unfold; (try dsimp only)) | walk1 | (dsimp only; walk1) | (leave1; walk_say "STEP leave1"; try dsimp only))
      (first | (with_reducible (((with_reducible show FnAt _ _ ∧ _); refine ⟨by exact FnAt.of (by k_asm) (by walk_at "my mem"), ?_⟩; try dsimp only [List.nil_append, List.cons_append]))) | (dsimp only; (with_reducible (((with_reducible show FnAt _ _ ∧ _); refine ⟨by exact FnAt.of (by k_asm) (by walk_at "my mem"), ?_⟩; try dsimp only [List.nil_append, List.cons_append])))))
      (first | (with_reducible ((k_here; (rename D2I _ _ _ _ _ _ _ _ _ _ _ _ _ _ _ _ _ => ih9z50); k_dflt (refine' ih9z50 _ _ _ _ _ _ _ _ _ _ _ _ _ _ _ _ _ _ _ _ _ _ ?k1z50 ?k2z50 ?k3z50 ?k4z50 ?k5z50 ?k6z50 ?k7z50 ?k8z50 ?k9z50 ?k14z50 ?k15z50 ?k16z50 ?k17z50 ?_; (case k1z50 => assumption); (case k2z50 => assumption); (case k3z50 => assumption); (case k4z50 => assumption); (case k5z50 => assumption); (case k6z50 => assumption); (case k7z50 => rfl); (case k8z50 => first | exact rmK (by assumption) | omega | ktr_room); (case k9z50 => first | exact rmU (by assumption) | omega | ktr_units); (case k14z50 => first | assumption | exact md0 (by assumption) (by assumption) (by assumption) (by assumption) | omega); (case k15z50 => first | exact mdR (by assumption) (by assumption) (by assumption) | exact mdG (by assumption) (by assumption) (by assumption) (by assumption) | omega); (case k16z50 => first | assumption | exact mdN (by assumption) (by assumption) (by assumption) (by assumption) | omega); (case k17z50 => first | exact mdK (by assumption) (by assumption) (by assumption) (by assumption) | exact mdQ (by assumption) (by assumption) (by assumption) (by assumption) (by assumption) | omega); intro vqz50 tqz50 hqz50 tkqz50 eVqz50 lVqz50 uVqz50 Fqz50 Nqz50; (try dsimp only); (try k_fold))))) | (dsimp only; (with_reducible ((k_here; (rename D2I _ _ _ _ _ _ _ _ _ _ _ _ _ _ _ _ _ => ih9z50); k_dflt (refine' ih9z50 _ _ _ _ _ _ _ _ _ _ _ _ _ _ _ _ _ _ _ _ _ _ ?k1z50 ?k2z50 ?k3z50 ?k4z50 ?k5z50 ?k6z50 ?k7z50 ?k8z50 ?k9z50 ?k14z50 ?k15z50 ?k16z50 ?k17z50 ?_; (case k1z50 => assumption); (case k2z50 => assumption); (case k3z50 => assumption); (case k4z50 => assumption); (case k5z50 => assumption); (case k6z50 => assumption); (case k7z50 => rfl); (case k8z50 => first | exact rmK (by assumption) | omega | ktr_room); (case k9z50 => first | exact rmU (by assumption) | omega | ktr_units); (case k14z50 => first | assumption | exact md0 (by assumption) (by assumption) (by assumption) (by assumption) | omega); (case k15z50 => first | exact mdR (by assumption) (by assumption) (by assumption) | exact mdG (by assumption) (by assumption) (by assumption) (by assumption) | omega); (case k16z50 => first | assumption | exact mdN (by assumption) (by assumption) (by assumption) (by assumption) | omega); (case k17z50 => first | exact mdK (by assumption) (by assumption) (by assumption) (by assumption) | exact mdQ (by assumption) (by assumption) (by assumption) (by assumption) (by assumption) | omega); intro vqz50 tqz50 hqz50 tkqz50 eVqz50 lVqz50 uVqz50 Fqz50 Nqz50; (try dsimp only); (try k_fold)))))))
      iterate 2 (first | (k_unfold; (try dsimp only)) | walk1 | (dsimp only; walk1) | (leave1; walk_say "STEP leave1"; try dsimp only))
      (first | (with_reducible ((k_here; k_dflt (refine my_shl (by first | assumption | omega) (by first | assumption | exact Int.lt_of_le_of_lt (by assumption) (by assumption) | omega) (by first | assumption | omega) (by first | assumption | omega) ?_; intro qqz51 tqz51 tkqz51 hq1qz51; (try dsimp only))))) | (dsimp only; (with_reducible ((k_here; k_dflt (refine my_shl (by first | assumption | omega) (by first | assumption | exact Int.lt_of_le_of_lt (by assumption) (by assumption) | omega) (by first | assumption | omega) (by first | assumption | omega) ?_; intro qqz51 tqz51 tkqz51 hq1qz51; (try dsimp only)))))))
      iterate 1 (first | (k_unfold; (try dsimp only)) | walk1 | (dsimp only; walk1) | (leave1; walk_say "STEP leave1"; try dsimp only))
      (first | (with_reducible ((k_here; k_dflt (refine' nameX_F ?Nz52 ?cz52 ?mz52 ?dz52 ?_ ?az52 ?bz52; (case az52 => rfl); (case bz52 => rfl); (case Nz52 => k_asm); (case cz52 => rfl); (case mz52 => walk_at "my mem"); (case dz52 => assumption); k_whole)))) | (dsimp only; (with_reducible ((k_here; k_dflt (refine' nameX_F ?Nz52 ?cz52 ?mz52 ?dz52 ?_ ?az52 ?bz52; (case az52 => rfl); (case bz52 => rfl); (case Nz52 => k_asm); (case cz52 => rfl); (case mz52 => walk_at "my mem"); (case dz52 => assumption); k_whole))))))
      (first | (with_reducible ((k_here; k_dflt (refine' callWith_F ?k1z53 ?_; (case k1z53 => exact FnAt.of (by k_asm) (by walk_at "my mem")); k_whole)))) | (dsimp only; (with_reducible ((k_here; k_dflt (refine' callWith_F ?k1z53 ?_; (case k1z53 => exact FnAt.of (by k_asm) (by walk_at "my mem")); k_whole))))))
      iterate 5 (first | (k_unfold; (try dsimp only)) | walk1 | (dsimp only; walk1) | (leave1; walk_say "STEP leave1"; try dsimp only))
      (first | (with_reducible (((with_reducible show FnAt _ _ ∧ _); refine ⟨by exact FnAt.of (by k_asm) (by walk_at "my mem"), ?_⟩; try dsimp only [List.nil_append, List.cons_append]))) | (dsimp only; (with_reducible (((with_reducible show FnAt _ _ ∧ _); refine ⟨by exact FnAt.of (by k_asm) (by walk_at "my mem"), ?_⟩; try dsimp only [List.nil_append, List.cons_append])))))
      (first | (with_reducible ((k_here; (rename D2I _ _ _ _ _ _ _ _ _ _ _ _ _ _ _ _ _ => ih9z55); k_dflt (refine' ih9z55 _ _ _ _ _ _ _ _ _ _ _ _ _ _ _ _ _ _ _ _ _ _ ?k1z55 ?k2z55 ?k3z55 ?k4z55 ?k5z55 ?k6z55 ?k7z55 ?k8z55 ?k9z55 ?k14z55 ?k15z55 ?k16z55 ?k17z55 ?_; (case k1z55 => assumption); (case k2z55 => assumption); (case k3z55 => assumption); (case k4z55 => assumption); (case k5z55 => assumption); (case k6z55 => assumption); (case k7z55 => rfl); (case k8z55 => first | exact rmK (by assumption) | omega | ktr_room); (case k9z55 => first | exact rmU (by assumption) | omega | ktr_units); (case k14z55 => first | assumption | exact md0 (by assumption) (by assumption) (by assumption) (by assumption) | omega); (case k15z55 => first | exact mdR (by assumption) (by assumption) (by assumption) | exact mdG (by assumption) (by assumption) (by assumption) (by assumption) | omega); (case k16z55 => first | assumption | exact mdN (by assumption) (by assumption) (by assumption) (by assumption) | omega); (case k17z55 => first | exact mdK (by assumption) (by assumption) (by assumption) (by assumption) | exact mdQ (by assumption) (by assumption) (by assumption) (by assumption) (by assumption) | omega); intro vqz55 tqz55 hqz55 tkqz55 eVqz55 lVqz55 uVqz55 Fqz55 Nqz55; (try dsimp only); (try k_fold))))) | (dsimp only; (with_reducible ((k_here; (rename D2I _ _ _ _ _ _ _ _ _ _ _ _ _ _ _ _ _ => ih9z55); k_dflt (refine' ih9z55 _ _ _ _ _ _ _ _ _ _ _ _ _ _ _ _ _ _ _ _ _ _ ?k1z55 ?k2z55 ?k3z55 ?k4z55 ?k5z55 ?k6z55 ?k7z55 ?k8z55 ?k9z55 ?k14z55 ?k15z55 ?k16z55 ?k17z55 ?_; (case k1z55 => assumption); (case k2z55 => assumption); (case k3z55 => assumption); (case k4z55 => assumption); (case k5z55 => assumption); (case k6z55 => assumption); (case k7z55 => rfl); (case k8z55 => first | exact rmK (by assumption) | omega | ktr_room); (case k9z55 => first | exact rmU (by assumption) | omega | ktr_units); (case k14z55 => first | assumption | exact md0 (by assumption) (by assumption) (by assumption) (by assumption) | omega); (case k15z55 => first | exact mdR (by assumption) (by assumption) (by assumption) | exact mdG (by assumption) (by assumption) (by assumption) (by assumption) | omega); (case k16z55 => first | assumption | exact mdN (by assumption) (by assumption) (by assumption) (by assumption) | omega); (case k17z55 => first | exact mdK (by assumption) (by assumption) (by assumption) (by assumption) | exact mdQ (by assumption) (by assumption) (by assumption) (by assumption) (by assumption) | omega); intro vqz55 tqz55 hqz55 tkqz55 eVqz55 lVqz55 uVqz55 Fqz55 Nqz55; (try dsimp only); (try k_fold)))))))
      iterate 4 (first | (k_unfold; (try dsimp only)) | walk1 | (dsimp only; walk1) | (leave1; walk_say "STEP leave1"; try dsimp only))
    rotate_left
    · have er : (r - l).toNat = 1 := tn1 (by assumption)
      have ev : ds.getD l.toNat 0 = valL n ((ds.drop l.toNat).take (r - l).toNat) := by rw [er, valL_one (lt1 h1 (by assumption) h3)]
      exact hQ _ _ _ _ ev (by rw [ev]; exact (hv _ _).1) (by rw [ev]; exact (hv _ _).2) (by assumption) (by assumption)
    · have ev := d2i_end (n := n) (ds := ds) (l := l) (r := r) (by assumption) (by assumption) (by assumption) (by assumption) (by assumption) (by assumption) (by assumption) h1 h2 h3
      exact hQ _ _ _ _ ev (by rw [ev]; exact (hv _ _).1) (by rw [ev]; exact (hv _ _).2) (by assumption) (by assumption)
theorem t_inner2_at {f c' ca cn_ ci aD : Addr} {n : Nat} {vs : List Value} {ds : List Int} {kk : Nat} {r : Int} {tl tr : Tok} {led : Led} {qn : Str} {doc pm ctv : Value} {oc oa oi on : Obj} {vs0 : Array Value} {t0 tn : Tok} {dp un : Nat} {gd : Option (List Code)} {cn : Str} {cs : Scope} {fa : Addr} {ccd : Value} {cl : List (Str × Addr)} {outer : List Env} {A₀ : Around} {base h₀ : Heap} {L : Addr} {m : Str → Option Value} {s : Shared} {Q E : Value → Shared → Prop} (hn1 : 1 ≤ n) (hn2 : n ≤ 2)
    (B : Below A₀ base outer h₀) (F : Fr h₀ L s.heap m) (X : (Mine.hd.heap_39 w.params).In h₀) (N : News h₀ L s.heap led)
    (hf : (f, fnMade (Str.ofString "inner") qn (paramsOf d2iInner) (bodyOf d2iInner) (scopeOf d2iInner) [(Str.ofString "n", cn_), (Str.ofString "inner", ci), (Str.ofString "digits", ca)] doc pm c' ctv) ∈ led)
    (hc : (c', oc) ∈ led) (hcd : oc.data = .fields vs0) (hcv : vs0[1]? = some (.str qn t0)) (ha : (ca, oa) ∈ led) (hda : oa.data = .cell (some (.ref aD))) (hi : (ci, oi) ∈ led) (hdi : oi.data = .cell (some (.ref f))) (hn : (cn_, on) ∈ led) (hdn : on.data = .cell (some (.int (n : Int) tn))) (hl : (aD, listOf vs.toArray kk) ∈ led)
    (T : Top p loose mean mg mb h₀) (hcs : cs.kind = .function) (hd : dp + 64 + 2 < recursionLimit) (hu : un + 8 * 64 + 16 < cLine)
    (hI : IntsAre vs ds) (hr : r = vs.length) (hr1 : 1 ≤ vs.length) (hr2 : vs.length ≤ 64) (hv : ∀ i j : Nat, 0 ≤ valL n ((ds.drop i).take j) ∧ valL n ((ds.drop i).take j) < 1000000)
    (hQ : ∀ v t h' tk', v = valL n ds → Fr h₀ L h' m → News h₀ L h' led → Q (.int v t) { s with heap := h', toks := tk' }) :
    wpAny (model PySem.Challenge.rw_wo0033_01.row.prog w) (ktrTop dp un gd cn cs L fa ccd cl outer) (call (.ref f) [.int 0 tl, .int r tr]) Q E s := by
  have hlen := hI.length
  have G : InnerIn2 f c' ca cn_ ci aD n (listOf vs.toArray kk) led :=
    { fn := ⟨qn, doc, pm, ctv, hf, oc, vs0, t0, hc, hcd, hcv⟩, cellA := ⟨oa, ha, hda⟩, cellI := ⟨oi, hi, hdi⟩, cellN := ⟨on, tn, hn, hdn⟩, lst := hl }
  refine t_inner2 f c' ca cn_ ci aD n hn1 hn2 vs ds kk hI (hlen ▸ hr2) hv 64 0 r tl tr _ _ _ _ _ _ _ _ _ _ _ _ _ _ _ _ _ _ B F X N G T hcs hd hu (Int.le_refl 0) (by rw [hr]; exact Int.ofNat_lt.mpr hr1) (by rw [hr, hlen]; exact Int.le_refl _) (by rw [hr, Int.sub_zero]; exact Int.ofNat_le.mpr hr2) ?_
  intro v t h' tk' e _ _ F' N'
  refine hQ v t h' tk' ?_ F' N'
  rw [e]
  congr 1
  simp only [Int.sub_zero, Int.toNat_zero, List.drop_zero]
  rw [List.take_of_length_le (by rw [hr, hlen]; exact Nat.le_refl _)]
noncomputable def qD2i : Str := Str.ofString "_digits2int" ++ Str.ofString ".<locals>." ++ Str.ofString "inner"
theorem c_d2i (aD : Addr) (vs : List Value) (ds : List Int) (kk : Nat) (n : Nat) (tn : Tok) (ps : Array Value) (codes news : Led) (dp un : Nat) (gd : Option (List Code)) (cn : Str) (cs : Scope) (fa : Addr) (ccd : Value) (cl : List (Str × Addr)) (outer : List Env) (A₀ : Around) (base h₀ : Heap) (L : Addr) (m : Str → Option Value) (s : Shared) (Q E : Value → Shared → Prop)
    (B : Below A₀ base outer h₀) (F : Fr h₀ L s.heap m) (X : (Mine.hd.heap_39 w.params).In h₀) (C : CodeHd base 78 74) (N : News h₀ L s.heap ((74, tabObj ps) :: (codes ++ news))) (hS : TabSt d2iInner qD2i ps codes) (hoff : OwnOff (codes ++ news) [74]) (hl : (aD, listOf vs.toArray kk) ∈ news) (T : Top p loose mean mg mb h₀) (hcs : cs.kind = .function) (hd : dp + 100 < recursionLimit) (hu : un + 1000 < cLine)
    (hn1 : 1 ≤ n) (hn2 : n ≤ 2) (hI : IntsAre vs ds) (hv1 : 1 ≤ vs.length) (hv2 : vs.length ≤ 64) (hv : ∀ i j : Nat, 0 ≤ valL n ((ds.drop i).take j) ∧ valL n ((ds.drop i).take j) < 1000000)
    (hQ : ∀ v t0 c' oc vs t h' tk', v = valL n ds → oc.data = .fields vs → vs[1]? = some (.str qD2i t) → (74 : Nat) ≠ c' → Fr h₀ L h' m → News h₀ L h' ((74, tabObj #[rawInt (posOf d2iInner).line, rawInt (posOf d2iInner).col, .ref c']) :: (c', oc) :: news) → Q (.int v t0) { s with heap := h', toks := tk' }) :
    wpAny (model PySem.Challenge.rw_wo0033_01.row.prog w) (ktrTop dp un gd cn cs L fa ccd cl outer) (call (.ref 79) [.ref aD, .int (n : Int) tn]) Q E s := by
  revert X; k_fill; intro X
  have kmk := kstMark
  cases hS with
  | fresh =>
    simp only [List.nil_append] at N hoff
    refine wpAny_call ?_
    have hoff9 := hoff
    k_dflt (((refine' code_defC ?k1z56 ?k2z56 ?k3z56 ?k4z56 ?k5z56 ?kAz56 ?kFz56 ?kKz56 ?k6z56 ?k7z56 ?k8z56 ?k9z56 ?kBz56 ?kDz56 ?_ ?c2z56 ?c3z56 ?c4z56; (case kAz56 => exact rfl); (case kFz56 => exact rfl); (case kKz56 => assumption); (case k1z56 => k_asm); (case k2z56 => k_asm); (case k3z56 => k_asm); (case k4z56 => k_asm); (case k5z56 => k_asm); (case k6z56 => k_is); (case k7z56 => k_is); (case k8z56 => first | exact rm1 (by assumption) | ktr_room); (case k9z56 => exact BindsTo.of_eq rfl); (case kBz56 => exact rfl); (case kDz56 => decide +kernel); (case c2z56 => exact rfl); (case c3z56 => exact rfl); (case c4z56 => exact rfl); k_whole; intro gqz56 Lqz56 hqz56 tkqz56 cellsqz56 FGqz56 Fqz56 Nqz56 Yqz56 Bqz56 Xqz56 Tqz56 l1z56; (rename OwnOff _ _ => hO9z56; replace hO9z56 := offL hO9z56 (fun p hp => l1z56 p (by walk_at "my mem"))); (try k_lt l1z56); k_cells Yqz56; (try simp only [List.cons_append, List.nil_append] at Nqz56); (try dsimp only); (try k_fold))))
    iterate 8 (first | (k_unfold; (try dsimp only)) | walk1 | (dsimp only; walk1) | (leave1; walk_say "STEP leave1"; try dsimp only))
    (first | (with_reducible ((k_here; k_dflt (refine' truthyL ?k1z57 ?k2z57 ?k3z57 ?k4z57 ?_; (case k1z57 => k_asm); (case k2z57 => walk_at "my mem"); (case k3z57 => first | assumption | omega); (case k4z57 => first | exact Nat.le_trans (by assumption) (by decide) | omega); intro tkqz57)))) | (dsimp only; (with_reducible ((k_here; k_dflt (refine' truthyL ?k1z57 ?k2z57 ?k3z57 ?k4z57 ?_; (case k1z57 => k_asm); (case k2z57 => walk_at "my mem"); (case k3z57 => first | assumption | omega); (case k4z57 => first | exact Nat.le_trans (by assumption) (by decide) | omega); intro tkqz57))))))
    iterate 3 (first | (k_unfold; (try dsimp only)) | walk1 | (dsimp only; walk1) | (leave1; walk_say "STEP leave1"; try dsimp only))
    (first | (with_reducible ((k_here; k_dflt (refine' callWith_F ?k1z58 ?_; (case k1z58 => exact FnAt.of (by k_asm) (by walk_at "my mem")); k_whole)))) | (dsimp only; (with_reducible ((k_here; k_dflt (refine' callWith_F ?k1z58 ?_; (case k1z58 => exact FnAt.of (by k_asm) (by walk_at "my mem")); k_whole))))))
    iterate 9 (first | (k_unfold; (try dsimp only)) | walk1 | (dsimp only; walk1) | (leave1; walk_say "STEP leave1"; try dsimp only))
    (first | (with_reducible ((k_here; (with_reducible show wpAny _ _ (call (Value.builtin "len") [Value.ref _]) _ _ _); k_dflt (refine' lenL ?k2z59 ?k3z59 ?k4z59 ?_; (case k2z59 => k_asm); (case k3z59 => walk_at "my mem"); (case k4z59 => first | exact Nat.le_trans (by assumption) (by decide) | omega); intro nqz59 tqz59 tkqz59 hnqz59)))) | (dsimp only; (with_reducible ((k_here; (with_reducible show wpAny _ _ (call (Value.builtin "len") [Value.ref _]) _ _ _); k_dflt (refine' lenL ?k2z59 ?k3z59 ?k4z59 ?_; (case k2z59 => k_asm); (case k3z59 => walk_at "my mem"); (case k4z59 => first | exact Nat.le_trans (by assumption) (by decide) | omega); intro nqz59 tqz59 tkqz59 hnqz59))))))
    iterate 2 (first | (k_unfold; (try dsimp only)) | walk1 | (dsimp only; walk1) | (leave1; walk_say "STEP leave1"; try dsimp only))
    focus
      (first | (with_reducible ((k_dflt (exact FnAt.of (by k_asm) (by walk_at "my mem"))))) | (dsimp only; (with_reducible ((k_dflt (exact FnAt.of (by k_asm) (by walk_at "my mem")))))))
    focus
      (first | (with_reducible ((k_here; k_dflt (refine' t_inner2_at ?n1z61 ?n2z61 ?kBz61 ?kFz61 ?kXz61 ?kNz61 ?hfz61 ?hcz61 ?hcdz61 ?hcvz61 ?haz61 ?hdaz61 ?hiz61 ?hdiz61 ?hnz61 ?hdnz61 ?hlz61 ?kTz61 ?kKz61 ?hdz61 ?huz61 ?hIz61 ?hrz61 ?hr1z61 ?hr2z61 ?hvz61 ?_; (case kBz61 => assumption); (case kFz61 => assumption); (case kXz61 => assumption); (case kTz61 => assumption); (case kNz61 => assumption); (case hfz61 => walk_at "my mem"); (case hcz61 => walk_at "my mem"); (case hcdz61 => assumption); (case hcvz61 => assumption); (case haz61 => walk_at "my mem"); (case hdaz61 => assumption); (case hiz61 => walk_at "my mem"); (case hdiz61 => assumption); (case hnz61 => walk_at "my mem"); (case hdnz61 => assumption); (case hlz61 => walk_at "my mem"); (case n1z61 => assumption); (case n2z61 => assumption); (case kKz61 => rfl); (case hdz61 => first | exact rm1 (by assumption) | exact rm2 (by assumption) (by decide) | exact rm3 (by assumption) (by decide) | exact rm4 (by assumption) (by decide) | omega | ktr_room); (case huz61 => first | exact rm1 (by assumption) | exact rm2 (by assumption) (by decide) | exact rm3 (by assumption) (by decide) | exact rm4 (by assumption) (by decide) | omega | ktr_units); (case hIz61 => assumption); (case hrz61 => assumption); (case hr1z61 => assumption); (case hr2z61 => assumption); (case hvz61 => assumption); intro vqz61 tqz61 hqz61 tkqz61 eVqz61 Fqz61 Nqz61; (try dsimp only); (try k_fold))))) | (dsimp only; (with_reducible ((k_here; k_dflt (refine' t_inner2_at ?n1z61 ?n2z61 ?kBz61 ?kFz61 ?kXz61 ?kNz61 ?hfz61 ?hcz61 ?hcdz61 ?hcvz61 ?haz61 ?hdaz61 ?hiz61 ?hdiz61 ?hnz61 ?hdnz61 ?hlz61 ?kTz61 ?kKz61 ?hdz61 ?huz61 ?hIz61 ?hrz61 ?hr1z61 ?hr2z61 ?hvz61 ?_; (case kBz61 => assumption); (case kFz61 => assumption); (case kXz61 => assumption); (case kTz61 => assumption); (case kNz61 => assumption); (case hfz61 => walk_at "my mem"); (case hcz61 => walk_at "my mem"); (case hcdz61 => assumption); (case hcvz61 => assumption); (case haz61 => walk_at "my mem"); (case hdaz61 => assumption); (case hiz61 => walk_at "my mem"); (case hdiz61 => assumption); (case hnz61 => walk_at "my mem"); (case hdnz61 => assumption); (case hlz61 => walk_at "my mem"); (case n1z61 => assumption); (case n2z61 => assumption); (case kKz61 => rfl); (case hdz61 => first | exact rm1 (by assumption) | exact rm2 (by assumption) (by decide) | exact rm3 (by assumption) (by decide) | exact rm4 (by assumption) (by decide) | omega | ktr_room); (case huz61 => first | exact rm1 (by assumption) | exact rm2 (by assumption) (by decide) | exact rm3 (by assumption) (by decide) | exact rm4 (by assumption) (by decide) | omega | ktr_units); (case hIz61 => assumption); (case hrz61 => assumption); (case hr1z61 => assumption); (case hr2z61 => assumption); (case hvz61 => assumption); intro vqz61 tqz61 hqz61 tkqz61 eVqz61 Fqz61 Nqz61; (try dsimp only); (try k_fold)))))))
      iterate 1 (first | (k_unfold; (try dsimp only)) | walk1 | (dsimp only; walk1) | (leave1; walk_say "STEP leave1"; try dsimp only))
    rotate_left
    · refine' hQ _ _ _ _ _ _ _ _ (by assumption) ?d1 ?d2 ?off (by assumption) (cb_drop (by assumption) (List.forall_mem_cons.mpr ⟨by walk_at "my mem", List.forall_mem_cons.mpr ⟨by walk_at "my mem", fun p hp => by walk_at "my mem"⟩⟩))
      case d1 => assumption
      case d2 => assumption
      case off => exact neN (by omega)
  | made c' oc vs t h1 h2 =>
    simp only [List.cons_append, List.nil_append] at N hoff
    refine wpAny_call ?_
    have hoff9 := hoff
    have hoff : OwnOff news [74] := fun p hp => hoff p (List.Mem.tail _ hp)
    k_dflt (((refine' code_defC ?k1z62 ?k2z62 ?k3z62 ?k4z62 ?k5z62 ?kAz62 ?kFz62 ?kKz62 ?k6z62 ?k7z62 ?k8z62 ?k9z62 ?kBz62 ?kDz62 ?_ ?c2z62 ?c3z62 ?c4z62; (case kAz62 => exact rfl); (case kFz62 => exact rfl); (case kKz62 => assumption); (case k1z62 => k_asm); (case k2z62 => k_asm); (case k3z62 => k_asm); (case k4z62 => k_asm); (case k5z62 => k_asm); (case k6z62 => k_is); (case k7z62 => k_is); (case k8z62 => first | exact rm1 (by assumption) | ktr_room); (case k9z62 => exact BindsTo.of_eq rfl); (case kBz62 => exact rfl); (case kDz62 => decide +kernel); (case c2z62 => exact rfl); (case c3z62 => exact rfl); (case c4z62 => exact rfl); k_whole; intro gqz62 Lqz62 hqz62 tkqz62 cellsqz62 FGqz62 Fqz62 Nqz62 Yqz62 Bqz62 Xqz62 Tqz62 l1z62; (rename OwnOff _ _ => hO9z62; replace hO9z62 := offL hO9z62 (fun p hp => l1z62 p (by walk_at "my mem"))); (try k_lt l1z62); k_cells Yqz62; (try simp only [List.cons_append, List.nil_append] at Nqz62); (try dsimp only); (try k_fold))))
    iterate 8 (first | (k_unfold; (try dsimp only)) | walk1 | (dsimp only; walk1) | (leave1; walk_say "STEP leave1"; try dsimp only))
    (first | (with_reducible ((k_here; k_dflt (refine' truthyL ?k1z63 ?k2z63 ?k3z63 ?k4z63 ?_; (case k1z63 => k_asm); (case k2z63 => walk_at "my mem"); (case k3z63 => first | assumption | omega); (case k4z63 => first | exact Nat.le_trans (by assumption) (by decide) | omega); intro tkqz63)))) | (dsimp only; (with_reducible ((k_here; k_dflt (refine' truthyL ?k1z63 ?k2z63 ?k3z63 ?k4z63 ?_; (case k1z63 => k_asm); (case k2z63 => walk_at "my mem"); (case k3z63 => first | assumption | omega); (case k4z63 => first | exact Nat.le_trans (by assumption) (by decide) | omega); intro tkqz63))))))
    iterate 3 (first | (k_unfold; (try dsimp only)) | walk1 | (dsimp only; walk1) | (leave1; walk_say "STEP leave1"; try dsimp only))
    (first | (with_reducible ((k_here; k_dflt (refine' callWith_F ?k1z64 ?_; (case k1z64 => exact FnAt.of (by k_asm) (by walk_at "my mem")); k_whole)))) | (dsimp only; (with_reducible ((k_here; k_dflt (refine' callWith_F ?k1z64 ?_; (case k1z64 => exact FnAt.of (by k_asm) (by walk_at "my mem")); k_whole))))))
    iterate 9 (first | (k_unfold; (try dsimp only)) | walk1 | (dsimp only; walk1) | (leave1; walk_say "STEP leave1"; try dsimp only))
    (first | (with_reducible ((k_here; (with_reducible show wpAny _ _ (call (Value.builtin "len") [Value.ref _]) _ _ _); k_dflt (refine' lenL ?k2z65 ?k3z65 ?k4z65 ?_; (case k2z65 => k_asm); (case k3z65 => walk_at "my mem"); (case k4z65 => first | exact Nat.le_trans (by assumption) (by decide) | omega); intro nqz65 tqz65 tkqz65 hnqz65)))) | (dsimp only; (with_reducible ((k_here; (with_reducible show wpAny _ _ (call (Value.builtin "len") [Value.ref _]) _ _ _); k_dflt (refine' lenL ?k2z65 ?k3z65 ?k4z65 ?_; (case k2z65 => k_asm); (case k3z65 => walk_at "my mem"); (case k4z65 => first | exact Nat.le_trans (by assumption) (by decide) | omega); intro nqz65 tqz65 tkqz65 hnqz65))))))
    iterate 2 (first | (k_unfold; (try dsimp only)) | walk1 | (dsimp only; walk1) | (leave1; walk_say "STEP leave1"; try dsimp only))
    focus
      (first | (with_reducible ((k_dflt (exact FnAt.of (by k_asm) (by walk_at "my mem"))))) | (dsimp only; (with_reducible ((k_dflt (exact FnAt.of (by k_asm) (by walk_at "my mem")))))))
    focus
      (first | (with_reducible ((k_here; k_dflt (refine' t_inner2_at ?n1z67 ?n2z67 ?kBz67 ?kFz67 ?kXz67 ?kNz67 ?hfz67 ?hcz67 ?hcdz67 ?hcvz67 ?haz67 ?hdaz67 ?hiz67 ?hdiz67 ?hnz67 ?hdnz67 ?hlz67 ?kTz67 ?kKz67 ?hdz67 ?huz67 ?hIz67 ?hrz67 ?hr1z67 ?hr2z67 ?hvz67 ?_; (case kBz67 => assumption); (case kFz67 => assumption); (case kXz67 => assumption); (case kTz67 => assumption); (case kNz67 => assumption); (case hfz67 => walk_at "my mem"); (case hcz67 => walk_at "my mem"); (case hcdz67 => assumption); (case hcvz67 => assumption); (case haz67 => walk_at "my mem"); (case hdaz67 => assumption); (case hiz67 => walk_at "my mem"); (case hdiz67 => assumption); (case hnz67 => walk_at "my mem"); (case hdnz67 => assumption); (case hlz67 => walk_at "my mem"); (case n1z67 => assumption); (case n2z67 => assumption); (case kKz67 => rfl); (case hdz67 => first | exact rm1 (by assumption) | exact rm2 (by assumption) (by decide) | exact rm3 (by assumption) (by decide) | exact rm4 (by assumption) (by decide) | omega | ktr_room); (case huz67 => first | exact rm1 (by assumption) | exact rm2 (by assumption) (by decide) | exact rm3 (by assumption) (by decide) | exact rm4 (by assumption) (by decide) | omega | ktr_units); (case hIz67 => assumption); (case hrz67 => assumption); (case hr1z67 => assumption); (case hr2z67 => assumption); (case hvz67 => assumption); intro vqz67 tqz67 hqz67 tkqz67 eVqz67 Fqz67 Nqz67; (try dsimp only); (try k_fold))))) | (dsimp only; (with_reducible ((k_here; k_dflt (refine' t_inner2_at ?n1z67 ?n2z67 ?kBz67 ?kFz67 ?kXz67 ?kNz67 ?hfz67 ?hcz67 ?hcdz67 ?hcvz67 ?haz67 ?hdaz67 ?hiz67 ?hdiz67 ?hnz67 ?hdnz67 ?hlz67 ?kTz67 ?kKz67 ?hdz67 ?huz67 ?hIz67 ?hrz67 ?hr1z67 ?hr2z67 ?hvz67 ?_; (case kBz67 => assumption); (case kFz67 => assumption); (case kXz67 => assumption); (case kTz67 => assumption); (case kNz67 => assumption); (case hfz67 => walk_at "my mem"); (case hcz67 => walk_at "my mem"); (case hcdz67 => assumption); (case hcvz67 => assumption); (case haz67 => walk_at "my mem"); (case hdaz67 => assumption); (case hiz67 => walk_at "my mem"); (case hdiz67 => assumption); (case hnz67 => walk_at "my mem"); (case hdnz67 => assumption); (case hlz67 => walk_at "my mem"); (case n1z67 => assumption); (case n2z67 => assumption); (case kKz67 => rfl); (case hdz67 => first | exact rm1 (by assumption) | exact rm2 (by assumption) (by decide) | exact rm3 (by assumption) (by decide) | exact rm4 (by assumption) (by decide) | omega | ktr_room); (case huz67 => first | exact rm1 (by assumption) | exact rm2 (by assumption) (by decide) | exact rm3 (by assumption) (by decide) | exact rm4 (by assumption) (by decide) | omega | ktr_units); (case hIz67 => assumption); (case hrz67 => assumption); (case hr1z67 => assumption); (case hr2z67 => assumption); (case hvz67 => assumption); intro vqz67 tqz67 hqz67 tkqz67 eVqz67 Fqz67 Nqz67; (try dsimp only); (try k_fold)))))))
      iterate 1 (first | (k_unfold; (try dsimp only)) | walk1 | (dsimp only; walk1) | (leave1; walk_say "STEP leave1"; try dsimp only))
    rotate_left
    · refine' hQ _ _ _ _ _ _ _ _ (by assumption) ?xd1 ?xd2 ?xoff (by assumption) (cb_drop (by assumption) (List.forall_mem_cons.mpr ⟨by walk_at "my mem", List.forall_mem_cons.mpr ⟨by walk_at "my mem", fun p hp => by walk_at "my mem"⟩⟩))
      case xd1 => assumption
      case xd2 => assumption
      case xoff => exact fun e => hoff9 _ (.head _) 74 (.head _) e.symm
end

end
-- C5
section
example : True := by w_top off; exact trivial
section
variable {w : World} {p : Program} {loose : List Str} {mean : ExcName → Option Value} {mg mb : Str → Option Value}
theorem c_div21 (a b n : Int) (ta tb tn : Tok) (news : Led) (dp un : Nat) (gd : Option (List Code)) (cn : Str) (cs : Scope) (fa : Addr) (ccd : Value) (cl : List (Str × Addr)) (outer : List Env) (A₀ : Around) (base h₀ : Heap) (L : Addr) (m : Str → Option Value) (s : Shared) (Q E : Value → Shared → Prop)
    (B : Below A₀ base outer h₀) (F : Fr h₀ L s.heap m) (X : (Mine.hd.heap_39 w.params).In h₀) (N : News h₀ L s.heap news) (T : Top p loose mean mg mb h₀) (hcs : cs.kind = .function) (hd : dp + 100 < recursionLimit) (hu : un + 1000 < cLine)
    (hn1 : 1 ≤ n) (hn2 : n ≤ 2) (ha : 0 ≤ a) (ha' : a < 10000000) (hb : 0 < b) (hb' : b < 100)
    (hQ : ∀ tp q r tq tr h' tk', q = a / b → r = a % b → Fr h₀ L h' m → News h₀ L h' ((tp, ({ cls := .type "tuple", data := .seq #[.int q tq, .int r tr] 0 } : Obj)) :: news) → (∀ p ∈ news, p.1 < tp) → Q (.ref tp) { s with heap := h', toks := tk' }) :
    wpAny (model PySem.Challenge.rw_wo0033_01.row.prog w) (ktrTop dp un gd cn cs L fa ccd cl outer) (call (.ref 58) [.int a ta, .int b tb, .int n tn]) Q E s := by
  revert X; k_fill; intro X
  have hbits : (Builtin.Int.intBits a : Int) ≤ 64 := by
    have : Builtin.Int.intBits a ≤ 64 := by rw [intBits_le_iff]; have : a.natAbs < 2 ^ 64 := nabK ha ha' (by decide)
                                            exact this
    exact Int.ofNat_le.mpr this
  refine wpAny_call ?_
  k_dflt cell_enter
  iterate 30 (first | (k_unfold; (try dsimp only)) | walk1 | (dsimp only; walk1) | (leave1; walk_say "STEP leave1"; try dsimp only))
  rename News _ _ _ news => z
  exact hQ _ _ _ _ _ _ _ (Int.fdiv_eq_ediv_of_nonneg _ (Int.le_of_lt hb)) (Int.fmod_eq_emod_of_nonneg _ (Int.le_of_lt hb)) (by assumption) (by assumption) (fun p hp => Heap.lt_size (z p hp).1)
end
theorem offI_of {I : Addr} {it : Obj} : ∀ {l : List (Addr × Obj)}, (∀ p ∈ l, p.1 ≠ I) → OffI I it l
  | [], _ => trivial
  | _ :: _, h => ⟨.inl (h _ (.head _)), offI_of fun p hp => h p (.tail _ hp)⟩
section
variable {prog : Program} {w : World} {A : Around} {E : Value → Shared → Prop} {s : Shared} {env : Env} {h₀ : Heap} {x : Str} {body : List Stmt} {Q : Flow → Shared → Prop}
theorem loopRev {ax I : Addr} {lo : Obj} {vs : List Value} {n : Nat} {m₀ : Names} {news : Led} (J : List Value → Names → Led → Prop)
    (hh : A.handled = none) (F : Fr h₀ env.locals s.heap m₀) (N : News h₀ env.locals s.heap ((I, revObj ax ((vs.length : Int) - 1)) :: news)) (hof : ∀ p ∈ news, p.1 ≠ I) (hm : (ax, lo) ∈ news) (hc : lo.cls = .type "list") (hd : lo.data = .seq vs.toArray n)
    (hj : J [] m₀ news) (hJl : ∀ l m nx, J l m nx → (ax, lo) ∈ nx)
    (turn : ∀ pre v post m₁ news₁ h tk oI, vs.reverse = pre ++ v :: post → J pre m₁ news₁ → (∀ p ∈ news₁, p.1 ≠ I) → Fr h₀ env.locals h (fun y => if y = x then some v else m₁ y) → News h₀ env.locals h ((I, oI) :: news₁) →
      wpAny (model prog w) A (execs body env) (TurnEnd h₀ env.locals (J (pre ++ [v])) [(I, oI)] [I] { s with heap := h, toks := tk } Q) E { s with heap := h, toks := tk })
    (done : ∀ m' news' h tk, J vs.reverse m' news' → Fr h₀ env.locals h m' → News h₀ env.locals h news' → Q .next { s with heap := h, toks := tk }) :
    wpAny (model prog w) A (pyIter (.ref I)) (fun it s₂ => LoopAtV prog w A h₀ env x body Q E it s₂) E s := by
  refine iter_revUnr (lo := lo) (vs := vs) (n := n) hh F N (offI_of hof) hm hc hd ?_
  have key : ∀ (post pre : List Value) (m₁ : Names) (nw : Led), vs.reverse = pre ++ post → J pre m₁ nw → (∀ p ∈ nw, p.1 ≠ I) → RevRest prog w A E h₀ env x body Q s I (ax, lo) post m₁ nw := by
    intro post
    induction post with
    | nil =>
      intro pre m₁ nw e hJ _
      simp only [List.append_nil] at e
      subst e
      exact RevRest.zero fun h tk F' N' => done _ _ _ _ hJ F' N'
    | cons v post ih =>
      intro pre m₁ nw e hJ hoff
      refine RevRest.succ fun it h tk hcls F' N' => ?_
      refine wpAny_mono (turn pre v post m₁ nw h tk it e hJ hoff F' N') (fun f s₂ p => ?_) fun _ _ e => e
      have fin : TEnd h₀ env.locals (J (pre ++ [v])) [(I, it)] [I] { s with heap := h, toks := tk } s₂ →
          UnrEnd h₀ env.locals { s with heap := h, toks := tk } I it (fun m' n' => (ax, lo) ∈ n' ∧ RevRest prog w A E h₀ env x body Q s I (ax, lo) post m' n') s₂ := by
        rintro ⟨h', tk', m', news', e2, F2, N2, hn, hJ2⟩
        refine ⟨h', tk', m', news', e2, F2, N2, fun p hp q => hn p hp (by simp [q]), hJl _ _ _ hJ2, ih (pre ++ [v]) m' news' (by rw [e]; simp) hJ2 fun p hp q => hn p hp (by simp [q])⟩
      cases f with
      | ret v => exact p
      | brk => exact p
      | next => exact fin p
      | cont => exact fin p
  exact key vs.reverse [] m₀ news (by simp) hj hof
end

end
-- C6a
section
theorem fr_kst {h₀ h : Heap} {L : Addr} {m : Names} {ps : List (Str × Value)} (hk : ∀ p ∈ ps, m p.1 = some p.2) (F : Fr h₀ L h m) : Fr h₀ L h (kstB m ps) := by
  have e : kstB m ps = m := by
    funext y
    exact kstB_eq hk fun _ => rfl
  rw [e]; exact F
theorem fr_kstx {h₀ h : Heap} {L : Addr} {x : Str} {v : Value} {m : Names} {ps : List (Str × Value)} (hk : ∀ p ∈ ps, m p.1 = some p.2) (F : Fr h₀ L h (fun y => if y = x then some v else m y)) : Fr h₀ L h (fun y => if y = x then some v else kstB m ps y) := by
  have e : kstB m ps = m := by
    funext y
    exact kstB_eq hk fun _ => rfl
  rw [e]; exact F
theorem intsApp : ∀ {vs ws : List Value} {ns ms : List Int}, IntsAre vs ns → IntsAre ws ms → IntsAre (vs ++ ws) (ns ++ ms)
  | _, _, _, _, .nil, h => h
  | _, _, _, _, .cons a t r, h => .cons a t (intsApp r h)
theorem intsRev : ∀ {vs : List Value} {ns : List Int}, IntsAre vs ns → IntsAre vs.reverse ns.reverse
  | _, _, .nil => .nil
  | _, _, .cons a t r => by rw [List.reverse_cons, List.reverse_cons]; exact intsApp (intsRev r) (.cons a t .nil)
theorem intsUniq : ∀ {vs : List Value} {a b : List Int}, IntsAre vs a → IntsAre vs b → a = b
  | _, _, _, .nil, .nil => rfl
  | _, _, _, .cons a t r, .cons _ _ r' => by rw [intsUniq r r']
theorem intsAt : ∀ {pre : List Value} {v : Value} {post : List Value} {ds dn : List Int}, IntsAre (pre ++ v :: post) ds → IntsAre pre dn → ∃ d t, v = .int d t ∧ d ∈ ds ∧ IntsAre (pre ++ [v]) (dn ++ [d])
  | [], v, post, _, _, h, .nil => by
    cases h with
    | cons a t r => exact ⟨a, t, rfl, .head _, .cons a t .nil⟩
  | p :: pre, v, post, _, _, h, h2 => by
    cases h2 with
    | cons a t r =>
      cases h with
      | cons _ _ h =>
        obtain ⟨d, t', e, hm, hi⟩ := intsAt h r
        exact ⟨d, t', e, .tail _ hm, .cons a t hi⟩
theorem valL_nonneg {n : Nat} : ∀ {l : List Int}, (∀ d ∈ l, 0 ≤ d) → 0 ≤ valL n l
  | [], _ => Int.le_refl 0
  | d :: r, h => Int.add_nonneg (h d (.head _)) (Int.mul_nonneg (Int.pow_nonneg (by decide)) (valL_nonneg fun x hx => h x (.tail _ hx)))
theorem valL_le_app {n : Nat} {a b : List Int} (ha : ∀ d ∈ a, 0 ≤ d) (hb : ∀ d ∈ b, 0 ≤ d) : valL n a ≤ valL n (a ++ b) ∧ valL n b ≤ valL n (a ++ b) := by
  rw [valL_append]
  have h1 := valL_nonneg (n := n) ha
  have h2 := valL_nonneg (n := n) hb
  have h3 : (1 : Int) ≤ 2 ^ (n * a.length) := Int.pow_pos (by decide)
  have h4 : 1 * valL n b ≤ 2 ^ (n * a.length) * valL n b := Int.mul_le_mul_of_nonneg_right h3 h2
  exact ⟨Int.le_add_of_nonneg_right (Int.mul_nonneg (Int.le_trans (by decide) h3) h2), Int.le_trans (by rw [Int.one_mul] at h4; exact h4) (Int.le_add_of_nonneg_left h1)⟩
theorem valL_slice {n : Nat} {l : List Int} (hl : ∀ d ∈ l, 0 ≤ d) (i j : Nat) : 0 ≤ valL n ((l.drop i).take j) ∧ valL n ((l.drop i).take j) ≤ valL n l := by
  have h1 : ∀ d ∈ (l.drop i).take j, 0 ≤ d := fun d hd => hl d (List.mem_of_mem_drop (List.mem_of_mem_take hd))
  have e1 := List.take_append_drop i l
  have e2 := List.take_append_drop j (l.drop i)
  have h2 := (valL_le_app (n := n) (a := l.take i) (b := l.drop i) (fun d hd => hl d (List.mem_of_mem_take hd)) (fun d hd => hl d (List.mem_of_mem_drop hd))).2
  have h3 := (valL_le_app (n := n) (a := (l.drop i).take j) (b := (l.drop i).drop j) h1 (fun d hd => hl d (List.mem_of_mem_drop (List.mem_of_mem_drop hd)))).1
  rw [e1] at h2
  rw [e2] at h3
  exact ⟨valL_nonneg h1, Int.le_trans h3 h2⟩
theorem div_step {n : Nat} {b r d : Int} {dn qs : List Int} (h : valL n dn.reverse = valL n qs.reverse * b + r) :
    valL n (dn ++ [d]).reverse = valL n (qs ++ [(r * 2 ^ n + d) / b]).reverse * b + (r * 2 ^ n + d) % b := by
  have e := Int.mul_ediv_add_emod (r * 2 ^ n + d) b
  simp only [List.reverse_append, List.reverse_cons, List.reverse_nil, List.nil_append, List.singleton_append, valL, h]
  generalize hq : (r * 2 ^ n + d) / b = q at *
  generalize hm : (r * 2 ^ n + d) % b = m at *
  rw [Int.add_mul, Int.mul_add, Int.mul_comm q b, Int.mul_comm (2 ^ n) r]
  have e2 : 2 ^ n * (valL n qs.reverse * b) = 2 ^ n * valL n qs.reverse * b := (Int.mul_assoc _ _ _).symm
  omega
theorem div_done {b Q r a : Int} (hb : 0 < b) (h : a = Q * b + r) (h0 : 0 ≤ r) (h1 : r < b) : Q = a / b ∧ r = a % b := by
  subst h
  constructor
  · rw [Int.add_comm, Int.add_mul_ediv_right _ _ (Int.ne_of_gt hb), Int.ediv_eq_zero_of_lt h0 h1]; omega
  · rw [Int.add_comm, Int.add_mul_emod_self_right, Int.emod_eq_of_lt h0 h1]
section
variable {prog : Program} {w : World} {A : Around} {E : Value → Shared → Prop} {s : Shared} {h₀ : Heap} {L : Addr} {m : Names}
theorem my_append {l : Addr} {vs : List Value} {n : Nat} {x : Value} (pre : Led) {post : Led} {Q : Value → Shared → Prop} (F : Fr h₀ L s.heap m) (N : News h₀ L s.heap (pre ++ (l, listOf vs.toArray n) :: post))
    (o1 : ∀ p ∈ pre, p.1 ≠ l) (o2 : ∀ p ∈ post, p.1 ≠ l) (hl : vs.length ≤ 100000) (h : ∀ h', Fr h₀ L h' m → News h₀ L h' (pre ++ (l, listOf (vs ++ [x]).toArray (n + 1)) :: post) → Q .none { s with heap := h' }) :
    wpAny (model prog w) A (call (.builtin "list.append") [.ref l, x]) Q E s := by
  have z := N (l, listOf vs.toArray n) (List.mem_append.mpr (.inr (.head _)))
  have e : vs.toArray.size ≤ sizeLine := by rw [List.size_toArray]; exact Nat.le_trans hl (by decide)
  exact append_at (hsz := e) z.1 fun h' hs ho' => h h' (F.change hs z.2.1 z.2.2) (news_set N o1 o2 hs (by rw [ho']; simp [W.listOf]))
end

theorem tab_ne {st : Stmt} {qq q : Str} {t : Tok} {ps vs : Array Value} {codes : Led} {oc : Obj} (S : TabSt st qq ps codes) (h1 : oc.data = .fields vs) (h2 : vs[1]? = some (.str q t)) : oc ≠ tabObj ps := by
  intro e
  rw [e] at h1
  injection h1 with h1
  subst h1
  cases S with
  | fresh => simp at h2
  | made c' oc vs t _ _ => simp [rawInt] at h2
theorem ne_of_objs {h₀ h : Heap} {L a b : Addr} {news : Led} {o1 o2 : Obj} (N : News h₀ L h news) (h1 : (a, o1) ∈ news) (h2 : (b, o2) ∈ news) (hne : o1 ≠ o2) : a ≠ b := fun e => by
  have e1 := (N _ h1).1
  have e2 := (N _ h2).1
  simp only at e1 e2
  rw [e, e2] at e1
  exact hne (Option.some.inj e1).symm
theorem perm5 {x a b d e : Addr × Obj} {c n : Led} : ∀ p ∈ x :: (c ++ (a :: b :: d :: e :: n)), p ∈ a :: b :: d :: e :: x :: (c ++ n) := by
  intro p hp
  simp only [List.mem_cons, List.mem_append] at *
  grind

end
-- C6
section
example : True := by w_top off; exact trivial
noncomputable abbrev tab1 (c : Addr) : Obj := tabObj #[rawInt (posOf i2dInner).line, rawInt (posOf i2dInner).col, .ref c]
noncomputable abbrev tab2 (c : Addr) : Obj := tabObj #[rawInt (posOf d2iInner).line, rawInt (posOf d2iInner).col, .ref c]
inductive JDiv (n : Nat) (b : Int) (tb : Tok) (rest : Led) (pre : List Value) (m₁ : Names) (nw : Led) : Prop
  | mk : ∀ (lq : Addr) (qv : List Value) (qs dn : List Int) (nn : Nat) (r : Int) (tr tn : Tok), (IntsAre pre dn) → (IntsAre qv qs) → (qv.length = pre.length) → ((∀ p ∈ rest, p.1 ≠ lq)) → ((∀ q ∈ qs, 0 ≤ q)) → (valL n dn.reverse = valL n qs.reverse * b + r) → (0 ≤ r) → (r < b) → ((∀ p ∈ [(Str.ofString "b", Value.int b tb), (Str.ofString "n", Value.int (n : Int) tn), (Str.ofString "r", Value.int r tr), (Str.ofString "q_digits", Value.ref lq)], m₁ p.1 = some p.2)) → (nw = (lq, listOf qv.toArray nn) :: rest) → JDiv n b tb rest pre m₁ nw
theorem JDiv.nil {n : Nat} {b : Int} {tb tn tr : Tok} {rest : Led} {m₁ : Names} {lq : Addr} {nn : Nat} (hb : 0 < b) (hr : ∀ p ∈ rest, p.1 ≠ lq) (h : ∀ p ∈ [(Str.ofString "b", Value.int b tb), (Str.ofString "n", Value.int (n : Int) tn), (Str.ofString "r", Value.int 0 tr), (Str.ofString "q_digits", Value.ref lq)], m₁ p.1 = some p.2) : JDiv n b tb rest [] m₁ ((lq, listOf #[] nn) :: rest) :=
  ⟨lq, [], [], [], nn, 0, tr, tn, .nil, .nil, rfl, hr, (fun _ h => nomatch h), (by simp [valL]), Int.le_refl 0, hb, h, rfl⟩
section
variable {w : World} {p : Program} {loose : List Str} {mean : ExcName → Option Value} {mg mb : Str → Option Value}
theorem c_divmod (a b : Int) (Dn : Nat) (ta tb : Tok) (ps1 ps2 : Array Value) (codes1 codes2 news : Led) (dp un : Nat) (gd : Option (List Code)) (cn : Str) (cs : Scope) (fa : Addr) (ccd : Value) (cl : List (Str × Addr)) (outer : List Env) (A₀ : Around) (base h₀ : Heap) (L : Addr) (m : Str → Option Value) (s : Shared) (Q E : Value → Shared → Prop)
    (B : Below A₀ base outer h₀) (F : Fr h₀ L s.heap m) (X : (Mine.hd.heap_39 w.params).In h₀) (C1 : CodeHd base 71 67) (C2 : CodeHd base 78 74) (N : News h₀ L s.heap ((67, tabObj ps1) :: (codes1 ++ (74, tabObj ps2) :: (codes2 ++ news)))) (S1 : TabSt i2dInner qI2d ps1 codes1) (S2 : TabSt d2iInner qD2i ps2 codes2)
    (O1 : OwnOff (codes1 ++ (74, tabObj ps2) :: (codes2 ++ news)) [67]) (O2 : OwnOff (codes2 ++ news) [74]) (T : Top p loose mean mg mb h₀) (hcs : cs.kind = .function) (hd : dp + 200 < recursionLimit) (hu : un + 2000 < cLine)
    (ha : 0 < a) (ha' : a < 1000000) (hb : 0 < b) (hb' : b < 100) (hn1 : 1 ≤ Builtin.Int.intBits b) (hn2 : Builtin.Int.intBits b ≤ 2) (hD : ((Builtin.Int.intBits a : Int) + (Builtin.Int.intBits b : Int) - 1).fdiv (Builtin.Int.intBits b : Int) = Dn) (hD1 : 1 ≤ Dn) (hD2 : Dn ≤ 64)
    (hQ : ∀ tp q r tq tr c1 oc1 vs1 t1 c2 oc2 vs2 t2 h' tk', q = a / b → r = a % b → oc1.data = .fields vs1 → vs1[1]? = some (.str qI2d t1) → (67 : Nat) ≠ c1 → oc2.data = .fields vs2 → vs2[1]? = some (.str qD2i t2) → (74 : Nat) ≠ c2 → Fr h₀ L h' m → News h₀ L h' ((tp, ({ cls := .type "tuple", data := .seq #[.int q tq, .int r tr] 0 } : Obj)) :: (67, tab1 c1) :: (c1, oc1) :: (74, tab2 c2) :: (c2, oc2) :: news) → (∀ p ∈ news, p.1 < tp) → Q (.ref tp) { s with heap := h', toks := tk' }) :
    wpAny (model PySem.Challenge.rw_wo0033_01.row.prog w) (ktrTop dp un gd cn cs L fa ccd cl outer) (call (.ref 86) [.int a ta, .int b tb]) Q E s := by
  revert X; k_fill; intro X
  refine wpAny_call ?_
  k_dflt cell_enter
  iterate 20 (first | (k_unfold; (try dsimp only)) | (k_end; wrow_close) | walk1 | (dsimp only; walk1) | (leave1; walk_say "STEP leave1"; try dsimp only))
  (first | (with_reducible ((k_here; (with_reducible show wpAny _ _ (call (Value.ref 72) _) _ _ _); k_dflt (refine' c_i2d _ _ _ _ _ _ _ _ _ _ _ _ _ _ _ _ _ _ _ _ _ _ _ _ _ ?kBz68 ?kFz68 ?kXz68 ?kCz68 ?kNz68 ?kSz68 ?kOz68 ?kTz68 ?kKz68 ?kdz68 ?kuz68 ?n1z68 ?n2z68 ?a1z68 ?a2z68 ?kDz68 ?D1z68 ?D2z68 ?_; (case kBz68 => assumption); (case kFz68 => assumption); (case kXz68 => assumption); (case kCz68 => assumption); (case kSz68 => assumption); (case kNz68 => assumption); (case kOz68 => assumption); (case kTz68 => assumption); (case kKz68 => rfl); (case kdz68 => first | exact rm1 (by assumption) | exact rm2 (by assumption) (by decide) | exact rm3 (by assumption) (by decide) | exact rm4 (by assumption) (by decide) | omega | ktr_room); (case kuz68 => first | exact rm1 (by assumption) | exact rm2 (by assumption) (by decide) | exact rm3 (by assumption) (by decide) | exact rm4 (by assumption) (by decide) | omega | ktr_units); (case n1z68 => assumption); (case n2z68 => assumption); (case a1z68 => assumption); (case a2z68 => assumption); (case kDz68 => assumption); (case D1z68 => assumption); (case D2z68 => assumption); intro aDqz68 Vqz68 Dqz68 cqz68 ocqz68 vsqz68 tqz68 hqz68 tkqz68 hocqz68 hovqz68 hc67qz68 hltqz68 h67qz68 iVqz68 lDqz68 vDqz68 bDqz68 Fqz68 Nqz68; (try dsimp only); (try k_fold))))) | (dsimp only; (with_reducible ((k_here; (with_reducible show wpAny _ _ (call (Value.ref 72) _) _ _ _); k_dflt (refine' c_i2d _ _ _ _ _ _ _ _ _ _ _ _ _ _ _ _ _ _ _ _ _ _ _ _ _ ?kBz68 ?kFz68 ?kXz68 ?kCz68 ?kNz68 ?kSz68 ?kOz68 ?kTz68 ?kKz68 ?kdz68 ?kuz68 ?n1z68 ?n2z68 ?a1z68 ?a2z68 ?kDz68 ?D1z68 ?D2z68 ?_; (case kBz68 => assumption); (case kFz68 => assumption); (case kXz68 => assumption); (case kCz68 => assumption); (case kSz68 => assumption); (case kNz68 => assumption); (case kOz68 => assumption); (case kTz68 => assumption); (case kKz68 => rfl); (case kdz68 => first | exact rm1 (by assumption) | exact rm2 (by assumption) (by decide) | exact rm3 (by assumption) (by decide) | exact rm4 (by assumption) (by decide) | omega | ktr_room); (case kuz68 => first | exact rm1 (by assumption) | exact rm2 (by assumption) (by decide) | exact rm3 (by assumption) (by decide) | exact rm4 (by assumption) (by decide) | omega | ktr_units); (case n1z68 => assumption); (case n2z68 => assumption); (case a1z68 => assumption); (case a2z68 => assumption); (case kDz68 => assumption); (case D1z68 => assumption); (case D2z68 => assumption); intro aDqz68 Vqz68 Dqz68 cqz68 ocqz68 vsqz68 tqz68 hqz68 tkqz68 hocqz68 hovqz68 hc67qz68 hltqz68 h67qz68 iVqz68 lDqz68 vDqz68 bDqz68 Fqz68 Nqz68; (try dsimp only); (try k_fold)))))))
  iterate 23 (first | (k_unfold; (try dsimp only)) | (k_end; wrow_close) | walk1 | (dsimp only; walk1) | (leave1; walk_say "STEP leave1"; try dsimp only))
  rename News _ _ _ _ => N9
  refine' loopRev (JDiv (Builtin.Int.intBits b) b tb _) ?hh ?F N9 ?of ?hm ?hc ?hd (JDiv.nil hb ?hr ?hk) ?hJl ?turn ?done
  case hh => rfl
  case F => assumption
  case hm => exact .tail _ (.head _)
  case hc => rfl
  case hd => rfl
  case hk => kst_all
  case hr =>
    rename _ < _ ∧ _ ∧ _ ∧ _ ∧ AllLt _ (codes2 ++ news) => l9
    obtain ⟨q1, q2, q3, q4, q5⟩ := l9
    exact List.forall_mem_cons.mpr ⟨Nat.ne_of_lt q1, List.forall_mem_cons.mpr ⟨Nat.ne_of_lt q2, List.forall_mem_cons.mpr ⟨Nat.ne_of_lt q3, List.forall_mem_cons.mpr ⟨Nat.ne_of_lt q4, fun p hp => Nat.ne_of_lt (ktn_ltOf q5 p hp)⟩⟩⟩⟩
  case hJl => 
    rintro l m nx ⟨_, _, _, _, _, _, _, _, _, _, _, _, _, _, _, _, _, rfl⟩
    exact .tail _ (.head _)
  case of =>
    rename _ ∧ _ ∧ _ ∧ _ ∧ _ ∧ AllLt _ _ => l9
    obtain ⟨q1, q2, q3, q4, q5, q6⟩ := l9
    refine List.forall_mem_cons.mpr ⟨Nat.ne_of_lt q1, List.forall_mem_cons.mpr ⟨Nat.ne_of_lt q2, List.forall_mem_cons.mpr ⟨Nat.ne_of_lt q3, List.forall_mem_cons.mpr ⟨Nat.ne_of_lt q4, List.forall_mem_cons.mpr ⟨Nat.ne_of_lt q5, fun p hp => Nat.ne_of_lt (ktn_ltOf q6 p hp)⟩⟩⟩⟩⟩
  case turn =>
    rename IntsAre _ _ => iV'
    rename ∀ d ∈ _, 0 ≤ d ∧ _ => bD'
    clear F N N9
    rename Fr _ _ _ _ => F9
    clear F9
    rintro pre v post m₁ nw h tk oI hv ⟨lq, qv, qs, dn, nn, r, tr, tn, h1, h2, h3, hro, h4, h5, h6, h7, hk, hnw⟩ hoff F9 N9
    subst hnw
    obtain ⟨d, t, rfl, hd, h1'⟩ := intsAt (hv ▸ intsRev iV') h1
    replace F9 := fr_kstx hk F9
    dsimp only [kstB] at F9
    have hdl := bD' d (List.mem_reverse.mp hd)
    have h1s := h1
    clear h1
    have hd0 := h4
    clear h4
    have hr1 : 0 ≤ r * 2 ^ ((Builtin.Int.intBits b : Int)).toNat + d := Int.add_nonneg (Int.mul_nonneg h6 (Int.pow_nonneg (by decide))) hdl.1
    have hr2 : r * 2 ^ ((Builtin.Int.intBits b : Int)).toNat + d < 10000000 := by
      have e : (2 : Int) ^ ((Builtin.Int.intBits b : Int)).toNat ≤ 4 := by
        rw [Int.toNat_natCast]
        have : Builtin.Int.intBits b = 1 ∨ Builtin.Int.intBits b = 2 := oneTwo (by assumption) (by assumption)
        rcases this with e | e <;> rw [e] <;> decide
      have z1 := Int.mul_le_mul_of_nonneg_left e h6
      have z2 := hdl.2
      exact hr2L z1 z2 h7 hb' ha'
    iterate 19 (first | (k_unfold; (try dsimp only)) | (k_end; wrow_close) | walk1 | (dsimp only; walk1) | (leave1; walk_say "STEP leave1"; try dsimp only))
    (first | (with_reducible ((k_here; (with_reducible show wpAny _ _ (call (Value.ref 58) _) _ _ _); k_dflt (refine' c_div21 _ _ _ _ _ _ _ _ _ _ _ _ _ _ _ _ _ _ _ _ _ _ _ _ ?kBz69 ?kFz69 ?kXz69 ?kNz69 ?kTz69 ?kKz69 ?kdz69 ?kuz69 ?n1z69 ?n2z69 ?a1z69 ?a2z69 ?b1z69 ?b2z69 ?_; (case kBz69 => assumption); (case kFz69 => assumption); (case kXz69 => assumption); (case kNz69 => assumption); (case kTz69 => assumption); (case kKz69 => rfl); (case kdz69 => first | exact rm1 (by assumption) | exact rm2 (by assumption) (by decide) | exact rm3 (by assumption) (by decide) | exact rm4 (by assumption) (by decide) | omega | ktr_room); (case kuz69 => first | exact rm1 (by assumption) | exact rm2 (by assumption) (by decide) | exact rm3 (by assumption) (by decide) | exact rm4 (by assumption) (by decide) | omega | ktr_units); (case n1z69 => omega); (case n2z69 => omega); (case a1z69 => assumption); (case a2z69 => assumption); (case b1z69 => assumption); (case b2z69 => assumption); intro tpqz69 qqz69 rqz69 tqqz69 trqz69 hqz69 tkqz69 hqqz69 hrqz69 Fqz69 Nqz69 l1qz69; (try dsimp only); (try k_fold))))) | (dsimp only; (with_reducible ((k_here; (with_reducible show wpAny _ _ (call (Value.ref 58) _) _ _ _); k_dflt (refine' c_div21 _ _ _ _ _ _ _ _ _ _ _ _ _ _ _ _ _ _ _ _ _ _ _ _ ?kBz69 ?kFz69 ?kXz69 ?kNz69 ?kTz69 ?kKz69 ?kdz69 ?kuz69 ?n1z69 ?n2z69 ?a1z69 ?a2z69 ?b1z69 ?b2z69 ?_; (case kBz69 => assumption); (case kFz69 => assumption); (case kXz69 => assumption); (case kNz69 => assumption); (case kTz69 => assumption); (case kKz69 => rfl); (case kdz69 => first | exact rm1 (by assumption) | exact rm2 (by assumption) (by decide) | exact rm3 (by assumption) (by decide) | exact rm4 (by assumption) (by decide) | omega | ktr_room); (case kuz69 => first | exact rm1 (by assumption) | exact rm2 (by assumption) (by decide) | exact rm3 (by assumption) (by decide) | exact rm4 (by assumption) (by decide) | omega | ktr_units); (case n1z69 => omega); (case n2z69 => omega); (case a1z69 => assumption); (case a2z69 => assumption); (case b1z69 => assumption); (case b2z69 => assumption); intro tpqz69 qqz69 rqz69 tqqz69 trqz69 hqz69 tkqz69 hqqz69 hrqz69 Fqz69 Nqz69 l1qz69; (try dsimp only); (try k_fold)))))))
    iterate 19 (first | (k_unfold; (try dsimp only)) | (k_end; wrow_close) | walk1 | (dsimp only; walk1) | (leave1; walk_say "STEP leave1"; try dsimp only))
    rename Fr _ _ _ _ => F8
    rename News _ _ _ _ => N8
    rename ∀ p ∈ _, _ < _ => l8
    rename _ = _ / _ => e8
    rename _ = _ % _ => e9
    refine my_append [_, _] F8 N8 ?o1 hro ?sz ?_
    case o1 => exact List.forall_mem_cons.mpr ⟨Nat.ne_of_gt (l8 _ (.tail _ (.head _))), List.forall_mem_cons.mpr ⟨(hoff _ (.head _)).symm, fun _ h => nomatch h⟩⟩
    case sz =>
      have := congrArg List.length hv
      simp only [List.length_reverse, List.length_append, List.length_cons] at this
      have := iV'.length
      omega
    intro h7' F7 N7
    iterate 2 (first | (k_unfold; (try dsimp only)) | (k_end; wrow_close) | walk1 | (dsimp only; walk1) | (leave1; walk_say "STEP leave1"; try dsimp only))
    rw [Int.toNat_natCast] at e8 e9 hr1
    subst e8 e9
    refine' ⟨_, _, _, (lq, _) :: _, rfl, F7, cb_drop N7 (List.forall_mem_cons.mpr ⟨.tail _ (.head _), List.forall_mem_cons.mpr ⟨.tail _ (.tail _ (.head _)), fun p hp => .tail _ (.tail _ (.tail _ hp))⟩⟩), ?c1, lq, _, qs ++ [_], _, _, _, ?tr, tn, h1', intsApp h2 (.cons _ _ .nil), ?c2, hro, ?c3, div_step h5, ?c4, ?c5, ?c6, rfl⟩
    case c6 => kst_all
    case c1 => exact List.forall_mem_cons.mpr ⟨fun e => hoff _ (.head _) (List.mem_singleton.mp e), fun p hp e => hoff p (.tail _ hp) (List.mem_singleton.mp e)⟩
    case c2 => simp only [List.length_append, List.length_cons, List.length_nil, h3]
    case c3 => exact List.forall_mem_append.mpr ⟨hd0, fun q hq => by rw [List.mem_singleton.mp hq]; exact Int.ediv_nonneg hr1 (Int.le_of_lt hb)⟩
    case c4 => exact Int.emod_nonneg _ (Int.ne_of_gt hb)
    case c5 => exact Int.emod_lt_of_pos _ hb
  case done =>
    rename IntsAre _ _ => iV'
    rename ∀ d ∈ _, 0 ≤ d ∧ _ => bD'
    rename valL _ _ = a => vD'
    rename List.length _ = Dn => lD'
    rename _ = Data.fields _ => hoc
    rename _ = some (Value.str qI2d _) => hov
    rename (67 : Nat) ≠ _ => hc67
    clear F N N9
    rename Fr _ _ _ _ => F9
    clear F9
    rintro m₁ nw h tk ⟨lq, qv, qs, dn, nn, r, tr, tn, h1, h2, h3, hro, h4, h5, h6, h7, hk, hnw⟩ F9 N9
    subst hnw
    have e1 := intsUniq h1 (intsRev iV')
    subst e1
    rw [List.reverse_reverse, vD'] at h5
    have hqr := div_done hb h5 h6 h7
    replace F9 := fr_kst hk F9
    dsimp only [kstB] at F9
    iterate 6 (first | (k_unfold; (try dsimp only)) | (k_end; wrow_close) | walk1 | (dsimp only; walk1) | (leave1; walk_say "STEP leave1"; try dsimp only))
    dsimp only
    have hlen : qv.length = Dn := by rw [h3, List.length_reverse, iV'.length, lD']
    refine reverse_head (its := qv.toArray) (hsz := ?sz) F9 N9 hro ?_
    case sz => rw [List.size_toArray, hlen]; exact Nat.le_trans hD2 (by decide)
    intro h7' F7 N7
    have N79 := cb_drop N7 perm5
    iterate 11 (first | (k_unfold; (try dsimp only)) | (k_end; wrow_close) | walk1 | (dsimp only; walk1) | (leave1; walk_say "STEP leave1"; try dsimp only))
    refine' c_d2i _ _ qs.reverse _ _ _ _ _ _ _ _ _ _ _ _ _ _ _ _ _ _ _ _ _ _ _ ?kB ?kF ?kX C2 N79 S2 ?o79 (.head _) ?kT rfl ?kd ?ku hn1 hn2 (intsRev h2) ?hv1 ?hv2 ?hv ?hQ2
    case kB => assumption
    case kF => exact F7
    case kX => assumption
    case kT => assumption
    case kd => first | exact rm1 (by assumption) | exact rm2 (by assumption) (by decide) | exact rm3 (by assumption) (by decide) | exact rm4 (by assumption) (by decide) | omega | ktr_room
    case ku => first | exact rm1 (by assumption) | exact rm2 (by assumption) (by decide) | exact rm3 (by assumption) (by decide) | exact rm4 (by assumption) (by decide) | omega | ktr_units
    case hv1 => rw [List.length_reverse]; show 1 ≤ qv.length; omega
    case hv2 => rw [List.length_reverse]; show qv.length ≤ 64; omega
    case hv =>
      intro i j
      have z := valL_slice (n := Builtin.Int.intBits b) (l := qs.reverse) (fun d hd => h4 d (List.mem_reverse.mp hd)) i j
      have z2 : a / b ≤ a := Int.ediv_le_self _ (Int.le_of_lt ha)
      rw [hqr.1] at z
      exact ⟨z.1, Int.lt_of_le_of_lt (Int.le_trans z.2 z2) ha'⟩
    case o79 =>
      rename ∀ q ∈ _, _ < _ => hlt
      intro p hp b hb
      rw [List.mem_singleton.mp hb]
      rcases List.mem_append.mp hp with hp | hp
      · exact O2 p (List.mem_append_left _ hp) 74 (.head _)
      · refine List.forall_mem_cons.mpr ⟨?_, List.forall_mem_cons.mpr ⟨?_, List.forall_mem_cons.mpr ⟨?_, List.forall_mem_cons.mpr ⟨?_, fun p hp => O2 p (List.mem_append_right _ hp) 74 (.head _)⟩⟩⟩⟩ p hp
        · exact (hro (74, tabObj ps2) (.tail _ (.tail _ (.tail _ (.head _))))).symm
        · exact Nat.ne_of_gt (hlt (74, tabObj ps2) (.head _))
        · exact (by decide : (67 : Nat) ≠ 74)
        · exact ne_of_objs N7 (.tail _ (.tail _ (.tail _ (.head _)))) (.tail _ (.tail _ (.tail _ (.tail _ (.head _))))) (tab_ne S2 hoc hov)
    case hQ2 =>
      intro v t0 c2 oc2 vs2 t2 h8 tk8 ev z1 z2 z3 F8 N8
      clear F9 F7 N9 N7 N79
      rw [hqr.1] at ev
      try dsimp only
      try k_fold
      iterate 13 (first | (k_unfold; (try dsimp only)) | (k_end; wrow_close) | walk1 | (dsimp only; walk1) | (leave1; walk_say "STEP leave1"; try dsimp only))
      rename News h₀ _ _ _ => N1
      rename Fr h₀ _ _ _ => F1
      refine hQ _ _ _ _ _ _ _ _ _ _ _ _ _ _ _ ev hqr.2 hoc hov hc67 z1 z2 z3 F1 (cb_drop N1 (List.forall_mem_cons.mpr ⟨.head _, List.forall_mem_cons.mpr ⟨by walk_at "my mem", List.forall_mem_cons.mpr ⟨by walk_at "my mem", List.forall_mem_cons.mpr ⟨by walk_at "my mem", List.forall_mem_cons.mpr ⟨by walk_at "my mem", fun p hp => by walk_at "my mem"⟩⟩⟩⟩⟩)) ?_
      rename _ ∧ _ ∧ _ ∧ _ ∧ _ ∧ _ ∧ AllLt _ _ => l9
      exact fun p hp => ktn_ltOf l9.2.2.2.2.2.2 p hp
end

end
-- P1
section
noncomputable def addO : Option Int → Option Int → Option Int
  | some x, some w => some (x + w)
  | _, _ => none
noncomputable def maxO : Option Int → Option Int → Option Int
  | none, b => b
  | some a, none => some a
  | some a, some b => some (if a < b then b else a)
noncomputable def nextR (W r : Nat → Option Int) (v : Nat) : Option Int :=
  maxO (maxO (addO (r 0) (W v)) (addO (r 1) (W (3 + v)))) (addO (r 2) (W (6 + v)))
noncomputable def Dk (W : Nat → Option Int) : Nat → Nat → Option Int
  | 0 => fun _ => some 0
  | k + 1 => nextR W (Dk W k)
noncomputable def LeO (a : Int) (o : Option Int) : Prop := ∃ y, o = some y ∧ a ≤ y
theorem addO_some {a b : Option Int} {y : Int} (h : addO a b = some y) : ∃ x w, a = some x ∧ b = some w ∧ y = x + w := by
  cases a with
  | none => cases h
  | some x => cases b with
    | none => cases h
    | some w => exact ⟨x, w, rfl, rfl, (Option.some.inj h).symm⟩
theorem maxO_some {a b : Option Int} {y : Int} (h : maxO a b = some y) : a = some y ∨ b = some y := by
  cases a with
  | none => exact .inr h
  | some a => cases b with
    | none => exact .inl h
    | some b =>
      have h := Option.some.inj h
      split at h
      · exact .inr (by rw [h])
      · exact .inl (by rw [h])
theorem LeO.left {a : Int} {o p : Option Int} (h : LeO a o) : LeO a (maxO o p) := by
  obtain ⟨y, rfl, h⟩ := h
  cases p with
  | none => exact ⟨y, rfl, h⟩
  | some b => exact ⟨_, rfl, by split <;> omega⟩
theorem LeO.right {a : Int} {o p : Option Int} (h : LeO a p) : LeO a (maxO o p) := by
  obtain ⟨y, rfl, h⟩ := h
  cases o with
  | none => exact ⟨y, rfl, h⟩
  | some b => exact ⟨_, rfl, by split <;> omega⟩
theorem LeO.add {a w : Int} {o p : Option Int} (h : LeO a o) (hp : p = some w) : LeO (a + w) (addO o p) := by
  obtain ⟨y, rfl, h⟩ := h
  subst hp
  exact ⟨_, rfl, by omega⟩
theorem nextR_le {W r : Nat → Option Int} {u v : Nat} {x w : Int} (hu : u < 3) (h : LeO x (r u)) (hw : W (3 * u + v) = some w) : LeO (x + w) (nextR W r v) := by
  unfold nextR
  obtain rfl | rfl | rfl := lt3 hu
  · rw [Nat.mul_zero, Nat.zero_add] at hw
    exact .left (.left (h.add hw))
  · exact .left (.right (h.add hw))
  · exact .right (h.add hw)
theorem nextR_att {W r : Nat → Option Int} {v : Nat} {y : Int} (h : nextR W r v = some y) : ∃ u x w, u < 3 ∧ r u = some x ∧ W (3 * u + v) = some w ∧ y = x + w := by
  unfold nextR at h
  rcases maxO_some h with h | h
  · rcases maxO_some h with h | h
    · obtain ⟨x, w, h1, h2, h3⟩ := addO_some h
      exact ⟨0, x, w, by decide, h1, by rw [Nat.mul_zero, Nat.zero_add]; exact h2, h3⟩
    · obtain ⟨x, w, h1, h2, h3⟩ := addO_some h
      exact ⟨1, x, w, by decide, h1, h2, h3⟩
  · obtain ⟨x, w, h1, h2, h3⟩ := addO_some h
    exact ⟨2, x, w, by decide, h1, h2, h3⟩
noncomputable def ring1 (W : Nat → Option Int) (a : Nat) : Option Int := (W a).map (6 * ·)
noncomputable def ring2 (W : Nat → Option Int) (a b : Nat) : Option Int := (addO (W a) (W b)).map (3 * ·)
noncomputable def ring3 (W : Nat → Option Int) (a b c : Nat) : Option Int := (addO (addO (W a) (W b)) (W c)).map (2 * ·)
noncomputable def ringVals (W : Nat → Option Int) : List (Option Int) :=
  [ring1 W 0, ring1 W 4, ring1 W 8, ring2 W 3 1, ring2 W 6 2, ring2 W 7 5, ring3 W 6 1 5, ring3 W 3 2 7]
theorem r1 {W : Nat → Option Int} {u : Nat} {w : Int} (hu : u < 3) (h : W (3 * u + u) = some w) : some (6 * w) ∈ ringVals W := by
  obtain rfl | rfl | rfl := lt3 hu
  all_goals (simp [ringVals, ring1] at h ⊢; simp [h])
theorem r2 {W : Nat → Option Int} {u v : Nat} {a b : Int} (hu : u < 3) (hv : v < 3) (hne : u ≠ v) (h : W (3 * u + v) = some a) (h' : W (3 * v + u) = some b) : some (3 * (a + b)) ∈ ringVals W := by
  have e := Int.add_comm a b
  have hu3 := lt3 hu
  have hv3 := lt3 hv
  rcases hu3 with rfl | rfl | rfl <;> rcases hv3 with rfl | rfl | rfl
  all_goals first | exact absurd rfl hne | (simp only [Nat.mul_zero, Nat.zero_add, Nat.add_zero, Nat.reduceMul, Nat.reduceAdd] at h h'; simp [ringVals, ring2, h, h', addO, e])
theorem r3 {W : Nat → Option Int} {u v x : Nat} {a b c : Int} (hu : u < 3) (hv : v < 3) (hx : x < 3) (h1 : u ≠ v) (h2 : v ≠ x) (h3 : u ≠ x) (ha : W (3 * u + v) = some a) (hb : W (3 * v + x) = some b) (hc : W (3 * x + u) = some c) : some (2 * (a + b + c)) ∈ ringVals W := by
  have e1 : c + a + b = a + b + c := by rw [Int.add_assoc c a b, Int.add_comm c]
  have e2 : b + c + a = a + b + c := by rw [Int.add_comm (b + c) a, ← Int.add_assoc]
  have hu3 := lt3 hu
  have hv3 := lt3 hv
  have hx3 := lt3 hx
  rcases hu3 with rfl | rfl | rfl <;> rcases hv3 with rfl | rfl | rfl <;> rcases hx3 with rfl | rfl | rfl
  all_goals first | exact absurd rfl h1 | exact absurd rfl h2 | exact absurd rfl h3 | (simp only [Nat.mul_zero, Nat.zero_add, Nat.add_zero, Nat.reduceMul, Nat.reduceAdd] at ha hb hc; simp [ringVals, ring3, ha, hb, hc, addO, e1, e2])
theorem up3 {W : Nat → Option Int} {v : Nat} {y : Int} (hv : v < 3) (h : Dk W 3 v = some y) : ∃ ρ, some ρ ∈ ringVals W ∧ ∃ k x, k < 3 ∧ Dk W k v = some x ∧ (6 / (3 - k : Nat) : Int) * (y - x) ≤ ρ := by
  obtain ⟨p2, x2, w2, l2, h2, e2, rfl⟩ := nextR_att (r := Dk W 2) h
  obtain ⟨p1, x1, w1, l1, h1, e1, rfl⟩ := nextR_att (r := Dk W 1) h2
  obtain ⟨p0, x0, w0, l0, h0, e0, rfl⟩ := nextR_att (r := Dk W 0) h1
  have hx0 : x0 = 0 := (Option.some.inj h0).symm
  subst hx0
  have a0 : ∀ u, LeO 0 (Dk W 0 u) := fun u => ⟨0, rfl, Int.le_refl 0⟩
  by_cases c1 : p0 = p1
  · subst c1
    obtain ⟨x, hx, hl⟩ := nextR_le (r := Dk W 1) l2 (nextR_le (r := Dk W 0) (v := p2) l0 (a0 _) e1) e2
    exact ⟨_, r1 l0 e0, 2, x, by decide, hx, a61 hl⟩
  by_cases c2 : p1 = p2
  · subst c2
    obtain ⟨x, hx, hl⟩ := nextR_le (r := Dk W 1) l1 (nextR_le (r := Dk W 0) (v := p1) l0 (a0 _) e0) e2
    exact ⟨_, r1 l1 e1, 2, x, by decide, hx, a62 hl⟩
  by_cases c3 : p2 = v
  · subst c3
    obtain ⟨x, hx, hl⟩ := nextR_le (r := Dk W 1) l1 (nextR_le (r := Dk W 0) (v := p1) l0 (a0 _) e0) e1
    exact ⟨_, r1 l2 e2, 2, x, by decide, hx, a63 hl⟩
  by_cases c4 : p0 = p2
  · subst c4
    obtain ⟨x, hx, hl⟩ := nextR_le (r := Dk W 0) (v := v) l0 (a0 _) e2
    exact ⟨_, r2 l0 l1 c1 e0 e1, 1, x, by decide, hx, a31 hl⟩
  by_cases c5 : p1 = v
  · subst c5
    obtain ⟨x, hx, hl⟩ := nextR_le (r := Dk W 0) (v := p1) l0 (a0 _) e0
    exact ⟨_, r2 l1 l2 c2 e1 e2, 1, x, by decide, hx, a32 hl⟩
  have c6 : p0 = v := last3 p0 l0 p1 l1 p2 l2 v hv c1 c2 c3 c4 c5
  subst c6
  exact ⟨_, r3 l0 l1 l2 c1 c2 c4 e0 e1 e2, 0, 0, by decide, rfl, a20⟩
theorem down {W : Nat → Option Int} {l : Int} (hl : ∀ ρ, some ρ ∈ ringVals W → ρ ≤ l) : ∀ j v x, v < 3 → Dk W j v = some x → ∃ k x', k < 3 ∧ Dk W k v = some x' ∧ 6 * x - j * l ≤ 6 * x' - k * l := by
  intro j
  induction j with
  | zero => intro v x _ h; exact ⟨0, x, by decide, h, Int.le_refl _⟩
  | succ j ih =>
    intro v x hv h
    obtain ⟨u, x1, w, hu, h1, hw, rfl⟩ := nextR_att (r := Dk W j) h
    obtain ⟨k, x', hk, hx', hle⟩ := ih u x1 hu h1
    obtain ⟨x2, hx2, hl2⟩ := nextR_le (r := Dk W k) (v := v) hu ⟨x', hx', Int.le_refl _⟩ hw
    have e := adn hle hl2
    obtain hk2 | rfl := lt3s hk
    · exact ⟨k + 1, x2, hk2, hx2, e⟩
    · obtain ⟨ρ, hρ, k3, x3, hk3, hx3, h3⟩ := up3 hv hx2
      exact ⟨k3, x3, hk3, hx3, Int.le_trans e (adn3 hk3 (hl ρ hρ) h3)⟩
theorem attain {W : Nat → Option Int} {l : Int} (hl : ∀ ρ, some ρ ∈ ringVals W → ρ ≤ l) {c0 c1 c2 c3 c4 c5 : Nat} {w0 w1 w2 w3 w4 w5 : Int} (b0 : c0 < 3) (b1 : c1 < 3) (b2 : c2 < 3) (b3 : c3 < 3) (b4 : c4 < 3) (b5 : c5 < 3)
    (h0 : W (3 * c0 + c1) = some w0) (h1 : W (3 * c1 + c2) = some w1) (h2 : W (3 * c2 + c3) = some w2) (h3 : W (3 * c3 + c4) = some w3) (h4 : W (3 * c4 + c5) = some w4) (h5 : W (3 * c5 + c0) = some w5) (hs : w0 + w1 + w2 + w3 + w4 + w5 = l) :
    ∃ v y, v < 3 ∧ Dk W 3 v = some y ∧ ∀ k x, k < 3 → Dk W k v = some x → l ≤ (6 / (3 - k : Nat) : Int) * (y - x) := by
  obtain ⟨ks, p, hks, hp, hbest⟩ : ∃ ks p, ks < 3 ∧ Dk W ks c0 = some p ∧ ∀ k x, k < 3 → Dk W k c0 = some x → 6 * x - k * l ≤ 6 * p - ks * l := by
    have step : ∀ n, 0 < n → ∃ ks p, ks < n ∧ Dk W ks c0 = some p ∧ ∀ k x, k < n → Dk W k c0 = some x → 6 * x - k * l ≤ 6 * p - ks * l := by
      intro n
      induction n with
      | zero => intro h; exact absurd h (Nat.lt_irrefl 0)
      | succ n ih =>
        intro _
        cases n with
        | zero =>
          refine ⟨0, 0, Nat.one_pos, rfl, fun k x hk hx => ?_⟩
          obtain rfl : k = 0 := Nat.lt_one_iff.mp hk
          exact (Option.some.inj hx) ▸ Int.le_refl _
        | succ n =>
          obtain ⟨ks, p, a, b, c⟩ := ih (Nat.succ_pos n)
          cases hd : Dk W (n + 1) c0 with
          | none =>
            refine ⟨ks, p, Nat.lt_succ_of_lt a, b, fun k x hk hx => ?_⟩
            rcases Nat.lt_succ_iff_lt_or_eq.mp hk with h | rfl
            · exact c k x h hx
            · rw [hd] at hx; cases hx
          | some z =>
            by_cases hle : 6 * z - (n + 1 : Nat) * l ≤ 6 * p - ks * l
            · refine ⟨ks, p, Nat.lt_succ_of_lt a, b, fun k x hk hx => ?_⟩
              rcases Nat.lt_succ_iff_lt_or_eq.mp hk with h | rfl
              · exact c k x h hx
              · rw [hd] at hx; cases hx; exact hle
            · refine ⟨n + 1, z, Nat.lt_succ_self _, hd, fun k x hk hx => ?_⟩
              rcases Nat.lt_succ_iff_lt_or_eq.mp hk with h | rfl
              · exact Int.le_trans (c k x h hx) (Int.le_of_lt (Int.not_le.mp hle))
              · rw [hd] at hx; cases hx; exact Int.le_refl _
    exact step 3 (by decide)
  have fin : ∀ j x, LeO x (Dk W j c0) → 6 * x - j * l ≤ 6 * p - ks * l := by
    rintro j x ⟨y, hy, hxy⟩
    obtain ⟨k, x', hk, hx', hle⟩ := down hl j c0 y b0 hy
    exact afin hxy (Int.le_trans hle (hbest k x' hk hx'))
  obtain rfl | rfl | rfl := lt3 hks
  · obtain ⟨y, hy, hle⟩ := nextR_le (r := Dk W 2) b2 (nextR_le (r := Dk W 1) b1 (nextR_le (r := Dk W 0) b0 ⟨p, hp, Int.le_refl _⟩ h0) h1) h2
    refine ⟨c3, y, b3, hy, fun k x hk hx => ?_⟩
    exact aend hk 0 (s3 hs) (s3a hle) (s3b (fin (k + 3) _ (nextR_le (r := Dk W (k + 2)) b5 (nextR_le (r := Dk W (k + 1)) b4 (nextR_le (r := Dk W k) b3 ⟨x, hx, Int.le_refl _⟩ h3) h4) h5)))
  · obtain ⟨y, hy, hle⟩ := nextR_le (r := Dk W 2) b1 (nextR_le (r := Dk W 1) b0 ⟨p, hp, Int.le_refl _⟩ h0) h1
    refine ⟨c2, y, b2, hy, fun k x hk hx => ?_⟩
    exact aend hk 1 (s4 hs) (s4a hle) (s4b (fin (k + 4) _ (nextR_le (r := Dk W (k + 3)) b5 (nextR_le (r := Dk W (k + 2)) b4 (nextR_le (r := Dk W (k + 1)) b3 (nextR_le (r := Dk W k) b2 ⟨x, hx, Int.le_refl _⟩ h2) h3) h4) h5)))
  · obtain ⟨y, hy, hle⟩ := nextR_le (r := Dk W 2) b0 ⟨p, hp, Int.le_refl _⟩ h0
    refine ⟨c1, y, b1, hy, fun k x hk hx => ?_⟩
    exact aend hk 2 (s5 hs) hle (s5b (fin (k + 5) _ (nextR_le (r := Dk W (k + 4)) b5 (nextR_le (r := Dk W (k + 3)) b4 (nextR_le (r := Dk W (k + 2)) b3 (nextR_le (r := Dk W (k + 1)) b2 (nextR_le (r := Dk W k) b1 ⟨x, hx, Int.le_refl _⟩ h1) h2) h3) h4) h5)))

end
-- N2
section
noncomputable def Nd (l : Led) : Prop := (l.map (·.1)).Nodup
theorem Nd.nil : Nd [] := List.nodup_nil
theorem Nd.cons {a : Addr × Obj} {l : Led} (h : ∀ p ∈ l, p.1 ≠ a.1) (n : Nd l) : Nd (a :: l) :=
  List.nodup_cons.mpr ⟨fun hm => by obtain ⟨p, hp, e⟩ := List.mem_map.mp hm; exact h p hp e, n⟩
theorem Nd.new {a : Addr × Obj} {l : Led} (n : Nd l) (h : ∀ p ∈ l, p.1 < a.1) : Nd (a :: l) := .cons (fun p hp => Nat.ne_of_lt (h p hp)) n
theorem Nd.off {a : Addr × Obj} {l : Led} (n : Nd (a :: l)) : ∀ p ∈ l, p.1 ≠ a.1 := fun p hp e =>
  (List.nodup_cons.mp n).1 (by show a.1 ∈ l.map (·.1); rw [← e]; exact List.mem_map_of_mem hp)
theorem Nd.tail {a : Addr × Obj} {l : Led} (n : Nd (a :: l)) : Nd l := (List.nodup_cons.mp n).2
theorem Nd.perm {l l' : Led} (n : Nd l) (h : l.Perm l') : Nd l' := (h.map _).nodup_iff.mp n
theorem Nd.left {a b : Led} (n : Nd (a ++ b)) : Nd a := (List.nodup_append.mp (by rw [Nd, List.map_append] at n; exact n)).1
theorem Nd.right {a b : Led} (n : Nd (a ++ b)) : Nd b := (List.nodup_append.mp (by rw [Nd, List.map_append] at n; exact n)).2.1
theorem Nd.one {a : Addr × Obj} {l : Led} (n : Nd (a :: l)) (P : Addr) (h : P = a.1) : OwnOff l [P] := fun p hp b hb => by
  rw [List.mem_singleton.mp hb, h]; exact n.off p hp
theorem news_perm {h₀ h : Heap} {L : Addr} {l l' : Led} (N : News h₀ L h l) (e : l.Perm l') : News h₀ L h l' := cb_drop N fun _ hp => e.mem_iff.mpr hp

end
-- C7
section
example : True := by w_top off; exact trivial
noncomputable abbrev tab3 (c : Addr) : Obj := tabObj #[rawInt (posOf leadDef).line, rawInt (posOf leadDef).col, .ref c]
noncomputable def qLead : Str := Str.ofString "_law_lookup" ++ Str.ofString ".<locals>." ++ Str.ofString "_law_lead"
section
variable {w : World} {p : Program} {loose : List Str} {mean : ExcName → Option Value} {mg mb : Str → Option Value}
theorem c_lookNone (wt fd : Option Int) (tw tf : Tok) (aA : Addr) (news : Led) (dp un : Nat) (gd : Option (List Code)) (cn : Str) (cs : Scope) (fa : Addr) (ccd : Value) (cl : List (Str × Addr)) (outer : List Env) (A₀ : Around) (base h₀ : Heap) (L : Addr) (m : Str → Option Value) (s : Shared) (Q E : Value → Shared → Prop)
    (B : Below A₀ base outer h₀) (F : Fr h₀ L s.heap m) (X : (Mine.hd.heap_39 w.params).In h₀) (N : News h₀ L s.heap news) (T : Top p loose mean mg mb h₀) (hcs : cs.kind = .function) (hd : dp + 100 < recursionLimit) (hu : un + 1000 < cLine)
    (hx : wt = none ∨ fd = none)
    (hQ : ∀ h' tk', Fr h₀ L h' m → News h₀ L h' news → Q .none { s with heap := h', toks := tk' }) :
    wpAny (model PySem.Challenge.rw_wo0033_01.row.prog w) (ktrTop dp un gd cn cs L fa ccd cl outer) (call (.ref 112) [ov wt tw, ov fd tf, .ref aA]) Q E s := by
  revert X; k_fill; intro X
  refine wpAny_call ?_
  cases wt with
  | none =>
    dsimp only [ov]
    k_dflt (((refine' code_defC ?k1z70 ?k2z70 ?k3z70 ?k4z70 ?k5z70 ?kAz70 ?kFz70 ?kKz70 ?k6z70 ?k7z70 ?k8z70 ?k9z70 ?kBz70 ?kDz70 ?_ ?c2z70 ?c3z70 ?c4z70; (case kAz70 => exact rfl); (case kFz70 => exact rfl); (case kKz70 => assumption); (case k1z70 => k_asm); (case k2z70 => k_asm); (case k3z70 => k_asm); (case k4z70 => k_asm); (case k5z70 => k_asm); (case k6z70 => k_is); (case k7z70 => k_is); (case k8z70 => first | exact rm1 (by assumption) | ktr_room); (case k9z70 => exact BindsTo.of_eq rfl); (case kBz70 => exact rfl); (case kDz70 => decide +kernel); (case c2z70 => exact rfl); (case c3z70 => exact rfl); (case c4z70 => exact rfl); k_whole; intro gqz70 Lqz70 hqz70 tkqz70 cellsqz70 FGqz70 Fqz70 Nqz70 Yqz70 Bqz70 Xqz70 Tqz70 l1z70; (try k_lt l1z70); k_cells Yqz70; (try simp only [List.cons_append, List.nil_append] at Nqz70); (try dsimp only); (try k_fold))))
    iterate 14 (first | (k_unfold; (try dsimp only)) | (k_end; wrow_close) | walk1 | (dsimp only; walk1) | (leave1; walk_say "STEP leave1"; try dsimp only))
    exact hQ _ _ (by assumption) (cb_drop (by assumption) (fun p hp => by walk_at "my mem"))
  | some wt =>
    cases fd with
    | none =>
      dsimp only [ov]
      k_dflt (((refine' code_defC ?k1z71 ?k2z71 ?k3z71 ?k4z71 ?k5z71 ?kAz71 ?kFz71 ?kKz71 ?k6z71 ?k7z71 ?k8z71 ?k9z71 ?kBz71 ?kDz71 ?_ ?c2z71 ?c3z71 ?c4z71; (case kAz71 => exact rfl); (case kFz71 => exact rfl); (case kKz71 => assumption); (case k1z71 => k_asm); (case k2z71 => k_asm); (case k3z71 => k_asm); (case k4z71 => k_asm); (case k5z71 => k_asm); (case k6z71 => k_is); (case k7z71 => k_is); (case k8z71 => first | exact rm1 (by assumption) | ktr_room); (case k9z71 => exact BindsTo.of_eq rfl); (case kBz71 => exact rfl); (case kDz71 => decide +kernel); (case c2z71 => exact rfl); (case c3z71 => exact rfl); (case c4z71 => exact rfl); k_whole; intro gqz71 Lqz71 hqz71 tkqz71 cellsqz71 FGqz71 Fqz71 Nqz71 Yqz71 Bqz71 Xqz71 Tqz71 l1z71; (try k_lt l1z71); k_cells Yqz71; (try simp only [List.cons_append, List.nil_append] at Nqz71); (try dsimp only); (try k_fold))))
      iterate 21 (first | (k_unfold; (try dsimp only)) | (k_end; wrow_close) | walk1 | (dsimp only; walk1) | (leave1; walk_say "STEP leave1"; try dsimp only))
      exact hQ _ _ (by assumption) (cb_drop (by assumption) (fun p hp => by walk_at "my mem"))
    | some fd => exact absurd hx (by simp)
theorem c_look (wt fd : Int) (tw tf : Tok) (aA : Addr) (ps : Array Value) (codes news : Led) (dp un : Nat) (gd : Option (List Code)) (cn : Str) (cs : Scope) (fa : Addr) (ccd : Value) (cl : List (Str × Addr)) (outer : List Env) (A₀ : Around) (base h₀ : Heap) (L : Addr) (m : Str → Option Value) (s : Shared) (Q E : Value → Shared → Prop)
    (B : Below A₀ base outer h₀) (F : Fr h₀ L s.heap m) (X : (Mine.hd.heap_39 w.params).In h₀) (C : CodeHd base 111 107) (N : News h₀ L s.heap ((107, tabObj ps) :: (codes ++ news))) (hS : TabSt leadDef qLead ps codes) (hnd : Nd ((107, tabObj ps) :: (codes ++ news))) (T : Top p loose mean mg mb h₀) (hcs : cs.kind = .function) (hd : dp + 100 < recursionLimit) (hu : un + 1000 < cLine)
    (hQ : ∀ f doc pm ctv cw ca ow oa c' oc vs t h' tk', ow.data = .cell (some (.int wt tw)) → oa.data = .cell (some (.ref aA)) → oc.data = .fields vs → vs[1]? = some (.str qLead t) → Nd ((107, tab3 c') :: (c', oc) :: news) → (∀ p ∈ news, p.1 < f) → (∀ p ∈ news, p.1 < cw) → (∀ p ∈ news, p.1 < ca) → (107 : Nat) < f → cw < f → ca < f → Fr h₀ L h' m → News h₀ L h' ((f, fnMade (Str.ofString "_law_lead") qLead (paramsOf leadDef) (bodyOf leadDef) (scopeOf leadDef) [(Str.ofString "weight", cw), (Str.ofString "asked", ca)] doc pm c' ctv) :: (cw, ow) :: (ca, oa) :: (107, tab3 c') :: (c', oc) :: news) → Q (.ref f) { s with heap := h', toks := tk' }) :
    wpAny (model PySem.Challenge.rw_wo0033_01.row.prog w) (ktrTop dp un gd cn cs L fa ccd cl outer) (call (.ref 112) [.int wt tw, .int fd tf, .ref aA]) Q E s := by
  revert X; k_fill; intro X
  have hoff := hnd.one 107 rfl
  cases hS with
  | fresh =>
    simp only [List.nil_append] at N hoff hnd
    refine wpAny_call ?_
    have hoff9 := hoff
    k_dflt (((refine' code_defC ?k1z72 ?k2z72 ?k3z72 ?k4z72 ?k5z72 ?kAz72 ?kFz72 ?kKz72 ?k6z72 ?k7z72 ?k8z72 ?k9z72 ?kBz72 ?kDz72 ?_ ?c2z72 ?c3z72 ?c4z72; (case kAz72 => exact rfl); (case kFz72 => exact rfl); (case kKz72 => assumption); (case k1z72 => k_asm); (case k2z72 => k_asm); (case k3z72 => k_asm); (case k4z72 => k_asm); (case k5z72 => k_asm); (case k6z72 => k_is); (case k7z72 => k_is); (case k8z72 => first | exact rm1 (by assumption) | ktr_room); (case k9z72 => exact BindsTo.of_eq rfl); (case kBz72 => exact rfl); (case kDz72 => decide +kernel); (case c2z72 => exact rfl); (case c3z72 => exact rfl); (case c4z72 => exact rfl); k_whole; intro gqz72 Lqz72 hqz72 tkqz72 cellsqz72 FGqz72 Fqz72 Nqz72 Yqz72 Bqz72 Xqz72 Tqz72 l1z72; (rename OwnOff _ _ => hO9z72; replace hO9z72 := offL hO9z72 (fun p hp => l1z72 p (by walk_at "my mem"))); (try k_lt l1z72); k_cells Yqz72; (try simp only [List.cons_append, List.nil_append] at Nqz72); (try dsimp only); (try k_fold))))
    iterate 26 (first | (k_unfold; (try dsimp only)) | (k_end; wrow_close) | walk1 | (dsimp only; walk1) | (leave1; walk_say "STEP leave1"; try dsimp only))
    rename News h₀ _ _ _ => N1
    rename Fr h₀ _ _ _ => F1
    rename _ = Data.fields _ => zf
    rename _ = some (Value.str _ _) => zv
    rename (107 : Nat) < _ ∧ AllLt _ news => lA
    rename _ < _ ∧ _ < _ ∧ (107 : Nat) < _ ∧ AllLt _ news => lB
    rename _ < _ => lC
    refine' hQ _ _ _ _ _ _ _ _ _ _ _ _ _ _ ?d1 ?d2 zf zv ?d5 ?d6 ?d7 ?d8 ?d9 ?d10 ?d11 F1 (cb_drop N1 (List.forall_mem_cons.mpr ⟨.head _, List.forall_mem_cons.mpr ⟨by walk_at "my mem", List.forall_mem_cons.mpr ⟨by walk_at "my mem", List.forall_mem_cons.mpr ⟨by walk_at "my mem", List.forall_mem_cons.mpr ⟨by walk_at "my mem", fun p hp => by walk_at "my mem"⟩⟩⟩⟩⟩))
    case d1 => assumption
    case d2 => assumption
    case d7 => exact fun p hp => Nat.lt_succ_of_lt (ktn_ltOf lA.2 p hp)
    case d8 => exact fun p hp => Nat.lt_succ_of_lt (Nat.lt_succ_of_lt (ktn_ltOf lA.2 p hp))
    case d5 => exact Nd.cons (List.forall_mem_cons.mpr ⟨Nat.ne_of_gt lB.2.2.1, hnd.off⟩) (Nd.new hnd.tail (ktn_ltOf lB.2.2.2))
    case d6 => exact fun p hp => Nat.lt_trans (ktn_ltOf lB.2.2.2 p hp) lC
    case d9 => exact Nat.lt_trans lB.2.2.1 lC
    case d10 => exact Nat.lt_trans lB.2.1 lC
    case d11 => exact Nat.lt_trans lB.1 lC
  | made c' oc vs t h1 h2 =>
    simp only [List.cons_append, List.nil_append] at N hoff hnd
    refine wpAny_call ?_
    have hoff9 := hoff
    have hoff : OwnOff news [107] := fun p hp => hoff p (List.Mem.tail _ hp)
    k_dflt (((refine' code_defC ?k1z73 ?k2z73 ?k3z73 ?k4z73 ?k5z73 ?kAz73 ?kFz73 ?kKz73 ?k6z73 ?k7z73 ?k8z73 ?k9z73 ?kBz73 ?kDz73 ?_ ?c2z73 ?c3z73 ?c4z73; (case kAz73 => exact rfl); (case kFz73 => exact rfl); (case kKz73 => assumption); (case k1z73 => k_asm); (case k2z73 => k_asm); (case k3z73 => k_asm); (case k4z73 => k_asm); (case k5z73 => k_asm); (case k6z73 => k_is); (case k7z73 => k_is); (case k8z73 => first | exact rm1 (by assumption) | ktr_room); (case k9z73 => exact BindsTo.of_eq rfl); (case kBz73 => exact rfl); (case kDz73 => decide +kernel); (case c2z73 => exact rfl); (case c3z73 => exact rfl); (case c4z73 => exact rfl); k_whole; intro gqz73 Lqz73 hqz73 tkqz73 cellsqz73 FGqz73 Fqz73 Nqz73 Yqz73 Bqz73 Xqz73 Tqz73 l1z73; (rename OwnOff _ _ => hO9z73; replace hO9z73 := offL hO9z73 (fun p hp => l1z73 p (by walk_at "my mem"))); (try k_lt l1z73); k_cells Yqz73; (try simp only [List.cons_append, List.nil_append] at Nqz73); (try dsimp only); (try k_fold))))
    iterate 26 (first | (k_unfold; (try dsimp only)) | (k_end; wrow_close) | walk1 | (dsimp only; walk1) | (leave1; walk_say "STEP leave1"; try dsimp only))
    rename News h₀ _ _ _ => N1
    rename Fr h₀ _ _ _ => F1
    rename (107 : Nat) < _ ∧ _ < _ ∧ AllLt _ news => lA
    rename _ < _ ∧ _ < _ ∧ (107 : Nat) < _ ∧ _ ∧ AllLt _ news => lB
    refine' hQ _ _ _ _ _ _ _ _ _ _ _ _ _ _ ?e1 ?e2 h1 h2 ?e5 ?e6 ?e7 ?e8 ?e9 ?e10 ?e11 F1 (cb_drop N1 (List.forall_mem_cons.mpr ⟨.head _, List.forall_mem_cons.mpr ⟨by walk_at "my mem", List.forall_mem_cons.mpr ⟨by walk_at "my mem", List.forall_mem_cons.mpr ⟨by walk_at "my mem", List.forall_mem_cons.mpr ⟨by walk_at "my mem", fun p hp => by walk_at "my mem"⟩⟩⟩⟩⟩))
    case e1 => assumption
    case e2 => assumption
    case e5 => exact hnd
    case e6 => exact ktn_ltOf lB.2.2.2.2
    case e7 => exact fun p hp => Nat.lt_succ_of_lt (ktn_ltOf lA.2.2 p hp)
    case e8 => exact fun p hp => Nat.lt_succ_of_lt (Nat.lt_succ_of_lt (ktn_ltOf lA.2.2 p hp))
    case e9 => exact lB.2.2.1
    case e10 => exact lB.2.1
    case e11 => exact lB.1
end

end
-- C8a
section
section
variable {prog : Program} {w : World} {A : Around} {E : Value → Shared → Prop} {s : Shared}
theorem merge_one {d D : Addr} {o : Obj} {hsh : Int} {k : Str} {t : Tok} {v : Value} {ep : Nat} {Q : Unit → Shared → Prop} (hd : s.heap.get? d = some (dictOf [] 0)) (hD : s.heap.get? D = some o) (hc : o.cls = .type "dict") (hdt : o.data = .dict #[⟨hsh, .str k t, v⟩] ep) (hne : D ≠ d) (hm : (D == sysModules) = false)
    (h : Q () { s with heap := s.heap.update d (Obj.mapDictKeys (·.push ⟨hsh, .str k t, v⟩)) }) : wpAny (model prog w) A (mergeMapping d (.ref D) true) Q E s := by
  have hT : s.TypeIs (.ref D) "dict" := ⟨o, hD, hc⟩
  have hDf : wpAny (model prog w) A (dictFind d (.str k t) hsh) (fun r s' => r = none ∧ s = s') E s := KTD.kt_dictFind_strs hd rfl (by simp) ⟨by simp, rfl⟩
  unfold mergeMapping
  refine wpAny_bind (wpAny_isInstance hT PySem.F.sub_dict_dict ?_)
  rw [if_pos rfl]
  refine wpAny_bind (wpAny_specialOf hT PySem.F.slot_dict_iter.lookup ?_)
  refine wpAny_bind (wpAny_pure ?_)
  rw [beq_self_eq_true]
  dsimp only
  rw [if_neg (by rw [hm]; decide)]
  refine wpAny_bind (wpAny_dictEntries hd rfl ?_)
  rw [if_pos (by rfl)]
  refine wpAny_bind (wpAny_dictEntries hD hdt ?_)
  refine wpAny_bind ?_
  rw [← Array.forIn_toList, List.forIn_cons]
  refine wpAny_bind (wpAny_pure ?_)
  dsimp only
  rw [List.forIn_nil]
  refine wpAny_pure ?_
  refine wpAny_bind (wpAny_dictEntries hD hdt (wpAny_bind (wpAny_dictEpoch hD hdt (wpAny_bind ?_))))
  have e1 : List.range (#[(⟨hsh, .str k t, v⟩ : DictEntry)]).size = [0] := rfl
  rw [e1, List.forIn_cons]
  refine wpAny_bind (wpAny_bind (wpAny_dictEntries hD hdt ?_))
  have e2 : (#[(⟨hsh, .str k t, v⟩ : DictEntry)])[0]? = some ⟨hsh, .str k t, v⟩ := rfl
  rw [e2]
  dsimp only
  refine wpAny_bind (wpAny_holding ?_)
  rw [if_pos rfl]
  refine wpAny_bind (wpAny_mono hDf ?_ fun _ _ e => e)
  rintro _ _ ⟨rfl, rfl⟩
  rw [if_neg (by decide)]
  unfold dictPut
  refine wpAny_bind (wpAny_mono hDf ?_ fun _ _ e => e)
  rintro _ _ ⟨rfl, rfl⟩
  dsimp only
  have hD' : (s.heap.update d (Obj.mapDictKeys (·.push ⟨hsh, .str k t, v⟩))).get? D = some o := by
    rw [← hD]; exact (Heap.SameBut.update ..).2 _ hne
  refine wpAny_updateDictKeys hd rfl ?_ (by simp) (by simp)
  refine wpAny_bind (wpAny_dictEpoch hD' hdt ?_)
  rw [if_neg (by simp)]
  refine wpAny_pure ?_
  dsimp only
  rw [List.forIn_nil]
  exact wpAny_pure (wpAny_pure h)
theorem merged_one {f : Value} {x : Sem Value} {k : Str} {v : Value} {Q : Addr → Shared → Prop}
    (hx : wpAny (model prog w) A x (fun a s₂ => ∃ D o hsh t ep, a = .ref D ∧ s₂.heap.get? D = some o ∧ o.cls = .type "dict" ∧ o.data = .dict #[⟨hsh, .str k t, v⟩] ep ∧ (D == sysModules) = false ∧ s₂.heap.get? s.heap.objs.size = some (dictOf [] 0) ∧ D ≠ s.heap.objs.size ∧
      Q s.heap.objs.size { s₂ with heap := s₂.heap.update s.heap.objs.size (Obj.mapDictKeys (·.push ⟨hsh, .str k t, v⟩)) }) E { s with heap := s.heap.push (dictOf [] 0) }) :
    wpAny (model prog w) A (mergedKeywords f [(none, x)]) Q E s := by
  unfold mergedKeywords
  refine wpAny_bind (wpAny_alloc ?_)
  refine wpAny_bind (wpAny_holding ?_)
  dsimp only
  rw [List.forIn_cons]
  dsimp only
  refine wpAny_bind (wpAny_bind (wpAny_bind ?_))
  rw [if_pos (by rfl)]
  refine wpAny_pure (wpAny_bind (wpAny_mono hx ?_ fun _ _ e => e))
  rintro _ s₂ ⟨D, o, hsh, t, ep, rfl, hD, hc, hdt, hm, hd, hne, hQ⟩
  refine wpAny_bind (wpAny_onRaise (wpAny_holding (wpAny_tryCatch (wpAny_onRaise (merge_one hd hD hc hdt hne hm ?_)))))
  refine wpAny_pure ?_
  dsimp only
  rw [List.forIn_nil]
  exact wpAny_pure (wpAny_pure (wpAny_pure hQ))
theorem keywords_one {f : Value} {d : Addr} {o : Obj} {hsh : Int} {k : Str} {t : Tok} {v : Value} {ep : Nat} {Q : List (Str × Value) → Shared → Prop} (hd : s.heap.get? d = some o) (hdt : o.data = .dict #[⟨hsh, .str k t, v⟩] ep)
    (h : Q [(k, v)] s) : wpAny (model prog w) A (keywordsIn f d) Q E s := by
  unfold keywordsIn
  refine wpAny_bind (wpAny_dictEntries hd hdt ?_)
  refine wpAny_bind ?_
  rw [← Array.forIn_toList, List.forIn_cons]
  dsimp only
  refine wpAny_bind (wpAny_pure ?_)
  dsimp only
  rw [List.forIn_nil]
  exact wpAny_pure (wpAny_pure h)
theorem evalArgs_KW {f : Value} {x y : Sem Value} {k : Str} {v : Value} {Q : Args → Shared → Prop}
    (h : wpAny (model prog w) A y (fun v1 s₁ => wpAny (model prog w) A (mergedKeywords f [(none, x)]) (fun d s₂ => ∃ o hsh t ep, s₂.heap.get? d = some o ∧ o.data = .dict #[⟨hsh, .str k t, v⟩] ep ∧ Q ⟨[v1], [(k, v)]⟩ s₂) E s₁) E s) :
    wpAny (model prog w) A (evalArgs f true [(false, y)] [(none, x)]) Q E s := by
  unfold evalArgs
  show wpAny (model prog w) A (spliced [(false, y)] >>= _) Q E s
  refine wpAny_bind (spliced_cons (wpAny_mono h (fun v1 s₁ h₁ => spliced_nil ?_) fun _ _ x => x))
  refine wpAny_bind (wpAny_pure ?_)
  dsimp only
  refine wpAny_holding ?_
  refine wpAny_bind ?_
  refine wpAny_mono h₁ ?_ fun _ _ x => x
  rintro d s₂ ⟨o, hsh, t, ep, hd, hdt, hQ⟩
  exact wpAny_bind (wpAny_pure (wpAny_bind (wpAny_holding (keywords_one hd hdt (wpAny_pure hQ)))))
theorem callKW_keep {f : Value} {pos : Pos} {x y : Sem Value} {Q : Value → Shared → Prop}
    (h : wpAny (model prog w) A (evalArgs f true [(false, y)] [(none, x)]) (fun a s₁ => (∃ q, f = .ref q ∧ FnAt q s₁.heap) ∧ wpAny (model prog w) A (call f a.pos a.kw) Q E s₁) E s) : wpAny (model prog w) A (callWith pos f [] [(false, y)] [(none, x)]) Q E s := by
  unfold callWith
  refine wpAny_bind (wpAny_holding (wpAny_mono h (fun a s₁ h₁ => wpAny_bind (wpAny_standAt ?_)) fun _ _ x => x))
  obtain ⟨⟨q, rfl, oc, od, fd, sl, e⟩, h₁⟩ := h₁
  have L : Looks (model prog w) s₁.heap (keeperOf (.ref q)) .frame := (Looks.ld (part := none) e).andThen .now
  refine wpAny_bind (L.here ?_)
  dsimp only
  refine wpAny_bind (wpAny_mono ?_ (fun r s₂ hr => wpAny_bind (wpAny_holding (wpAny_point (wpAny_pure hr)))) fun _ _ x => x)
  unfold callMarked
  exact Calls.wpAny_keep h₁
theorem callKW_N {q D : Addr} {pos p2 : Pos} {env : Env} {e1 e2 : Expr} {h₀ : Heap} {L : Addr} {m : Names} {o : Obj} {news : Led} {hsh : Int} {t : Tok} {ep : Nat} {k : Str} {v v1 : Value} {oc : Value} {od : Option Addr} {fd : FuncData} {sl : Array (Option Value)} {Q : Value → Shared → Prop}
    (F : Fr h₀ L s.heap m) (N : News h₀ L s.heap news) (hq : (q, (⟨oc, od, .func fd, sl⟩ : Obj)) ∈ news) (hD : (D, o) ∈ news) (hc : o.cls = .type "dict") (hdt : o.data = .dict #[⟨hsh, .str k t, v⟩] ep) (hm : (D == sysModules) = false)
    (h1 : wpAny (model prog w) A (eval e1 env) (fun a s' => a = v1 ∧ s = s') E s)
    (h2 : ∀ h', Fr h₀ L h' m → wpAny (model prog w) A (eval e2 env) (fun a s' => a = .ref D ∧ s' = { s with heap := h' }) E { s with heap := h' })
    (h : ∀ d h', Fr h₀ L h' m → News h₀ L h' ((d, dictOf [⟨hsh, .str k t, v⟩] 1) :: news) → (∀ p ∈ news, p.1 < d) → wpAny (model prog w) A (call (.ref q) [v1] [(k, v)]) Q E { s with heap := h' })
    (ea : backTo pos (starEach [e1] env) = [(false, eval e1 env)] := by rfl) :
    wpAny (model prog w) A (callWith pos (.ref q) [] (backTo pos (starEach [e1] env)) (backToKw pos (keywordEach [⟨none, e2, p2⟩] env))) Q E s := by
  rw [ea]
  refine callKW_keep (evalArgs_KW (k := k) (v := v) (wpAny_mono h1 ?_ fun _ _ e => e))
  rintro _ _ ⟨rfl, rfl⟩
  have lt : ∀ p ∈ news, p.1 < s.heap.objs.size := fun p hp => Heap.lt_size (N p hp).1
  have F1 := F.push (dictOf [] 0)
  have N1 : News h₀ L (s.heap.push (dictOf [] 0)) ((s.heap.objs.size, dictOf [] 0) :: news) := News.push F N _ rfl
  refine merged_one (k := k) (v := v) (wpAny_bind (wpAny_mono (h2 _ F1) ?_ fun _ _ e => e))
  rintro _ _ ⟨rfl, rfl⟩
  refine wpAny_bind (wpAny_standAt (wpAny_pure ?_))
  have hs : Heap.SameBut s.heap.objs.size (s.heap.push (dictOf [] 0)) ((s.heap.push (dictOf [] 0)).update s.heap.objs.size (Obj.mapDictKeys (·.push ⟨hsh, .str k t, v⟩))) := Heap.SameBut.update ..
  have ho : ((s.heap.push (dictOf [] 0)).update s.heap.objs.size (Obj.mapDictKeys (·.push ⟨hsh, .str k t, v⟩))).get? s.heap.objs.size = some (dictOf [⟨hsh, .str k t, v⟩] 1) := Heap.get?_update_self _ (N1 _ (.head _)).1 rfl
  have N2 := N1.setHead (fun p hp => Nat.ne_of_lt (lt p hp)) hs ho
  have F2 := F1.change hs (N1 _ (.head _)).2.1 (N1 _ (.head _)).2.2
  exact ⟨D, o, hsh, t, ep, rfl, (N1 _ (.tail _ hD)).1, hc, hdt, hm, (N1 _ (.head _)).1, Nat.ne_of_lt (lt _ hD), dictOf [⟨hsh, .str k t, v⟩] 1, hsh, t, 1, ho, rfl, ⟨q, rfl, FnAt.of N2 (.tail _ hq)⟩, h _ _ F2 N2 lt⟩
end

end
-- C8b
section
section
variable {prog : Program} {w : World} {A A₀ : Around} {s : Shared} {K : Frag} {L : Addr} {h₀ base : Heap} {m mg mb : Str → Option Value} {news : List (Addr × Obj)} {p : Program} {loose : List Str} {mean : ExcName → Option Value}
theorem enter_more {env : Env} {outer : List Env} {R : Result → Shared → Prop} {name qual : Str} {params : Arguments} {body : List Stmt} {scope : Scope} {dV kV doc pm cdv ct oc : Value} {an od : Option Addr} {osl : Array (Option Value)} {f : Addr} {args : Args} {nm k : Str} {v : Value} {front : List (Str × Value)} {g₁ : Addr → Sem (List (Str × Value))}
    (B : Below A₀ base outer h₀) (F : Fr h₀ L s.heap m) (X₀ : K.In h₀) (N : News h₀ L s.heap news) (T : Top p loose mean mg mb h₀) (hA : A.frames = some (env :: outer)) (hf : env.frame = some L) (hke : env.scope.kind = .function)
    (ho : K.lookup f = some ⟨oc, od, .func (fnOf name qual params body scope dV kV doc pm an cdv ct), osl⟩) (hcd : codeIn K cdv qual = true) (hroom : A.depth < recursionLimit)
    (hp : peekA K ⟨prog, w.params⟩ (bindArgs (fnOf name qual params body scope dV kV doc pm an cdv ct) args) = some (dictOf [] 0, g₁))
    (hk₁ : ∀ D, g₁ D = (forIn [(k, v)] PUnit.unit (fun x _ => (nsSet D x.1 x.2 >>= fun _ => pure (ForInStep.yield PUnit.unit))) >>= fun _ => pure (front ++ [(nm, Value.ref D)])))
    (hloc : ∀ D, ∀ y ∈ front ++ [(nm, Value.ref D)], scope.names.lookup y.1 = some .local)
    (h : ∀ D hsh t g L' h₁ tk, (∀ p ∈ news, p.1 < D) → (D == sysModules) = false → Fr h₀ L g m → Fr g L' h₁ (fun y => (front ++ [(nm, Value.ref D)]).reverse.lookup y) → News g L' h₁ ((D, dictOf [⟨hsh, .str k t, v⟩] 1) :: news) → Below A base (env :: outer) g → K.In g → Top p loose mean mg mb g →
      wpAny (model prog w) (A.deeper (envOf qual scope L' f cdv)) (execs body (envOf qual scope L' f cdv))
        (fun fl s' => LeaveK h₀ L m g R (match fl with | .ret v => v | _ => .none) s')
        (fun e s' => wpAny (model prog w) (A.deeper (envOf qual scope L' f cdv)) (leaving (envOf qual scope L' f cdv) e) (fun _ s'' => R (.error e) s'') (fun e' s'' => R (.error e') s'') s')
        { s with heap := h₁, toks := tk })
    (hco : scope.isCoroutine = false) (hgen : scope.isGenerator = false) (hk : scope.kind = .function)
    (hcell : ∀ x ∈ scope.names, x.2 ≠ .cell) : codeAny (model prog w) A (.call (.ref f) args) R s := by
  refine codeAny_call_function (fd := fnOf name qual params body scope dV kV doc pm an cdv ct) (body := body) hroom ((X₀.keeps F.keep) _ _ ho) rfl hco hgen rfl (codeRec_of (X₀.keeps F.keep) hcd) ?_
  refine wp_of_peekA (o := dictOf [] 0) F N (X₀.keeps F.keep) rfl _ g₁ hp fun h' F' N' l => ?_
  rw [hk₁]
  refine wpAny_bind (kp_fill [(k, v)] { s with heap := h' } [] 0 F' N' (fun p hp => Nat.ne_of_lt (l p hp)) (fun _ he => nomatch he) (fun _ he => nomatch he) (by simp) fun h'' F'' N'' => wpAny_pure ?_)
  exact kp_frame (cl := []) (s := { s with heap := h'', toks := s.toks + 1 }) B F'' N'' T.nolimit hA hf hke (hloc _)
    (fun g L' h₁ FG FL NG BG st => h _ _ _ g L' h₁ _ l (F.notModules (modules_low T.nolimit)) FG FL NG BG (X₀.keeps st) (T.keeps st)) hcell hk
end
section
variable {prog : Program} {w : World} {A : Around} {E : Value → Shared → Prop} {s : Shared} {h₀ : Heap} {L : Addr} {news : Led}
theorem my_item {value slice : PySem.Expr} {l : Addr} {vs : List Value} {kk : Nat} {k : Int} {u : Tok} {v : Value} {Q : Value → Shared → Prop}
    (N : News h₀ L s.heap news) (hl : (l, listOf vs.toArray kk) ∈ news) (h0 : 0 ≤ k) (hhi : k < 1000000) (hx : vs[k.toNat]? = some v) (h : Q v s)
    (hs : subscripted slice false (.ref l) (.int k u) = operate [.ref l, .int k u] (getItem (.ref l) (.int k u)) := by with_unfolding_all rfl) :
    wpAny (model prog w) A (subscriptTail value slice (.ref l) (.int k u)) Q E s := by
  have hl' : s.heap.IsList l vs.toArray := ⟨_, (N _ hl).1, rfl, kk, rfl⟩
  exact tail_any hl'.typeIs slot_list_getitem.lookup (wpAny_getItem_list hl' h0 (Int.lt_trans hhi (by decide)) (by simpa using hx) h) hs
theorem my_last {value slice : PySem.Expr} {l : Addr} {vs : List Value} {kk : Nat} {u : Tok} {v : Value} {Q : Value → Shared → Prop}
    (N : News h₀ L s.heap news) (hl : (l, listOf vs.toArray kk) ∈ news) (hlen : vs.length ≤ 1000) (hne : 1 ≤ vs.length) (hx : vs[vs.length - 1]? = some v) (h : Q v s)
    (hs : subscripted slice false (.ref l) (.int (-1) u) = operate [.ref l, .int (-1) u] (getItem (.ref l) (.int (-1) u)) := by with_unfolding_all rfl) :
    wpAny (model prog w) A (subscriptTail value slice (.ref l) (.int (-1) u)) Q E s := by
  have hl' : s.heap.IsList l vs.toArray := ⟨_, (N _ hl).1, rfl, kk, rfl⟩
  have e : (-1 + (vs.toArray.size : Int)).toNat = vs.length - 1 := by rw [List.size_toArray]; omega
  refine tail_any hl'.typeIs slot_list_getitem.lookup (wpAny_getItem_list_neg hl' (by decide) (by rw [List.size_toArray]; omega) (by decide) ?_ h) hs
  rw [e]; simpa using hx
end

end
-- C8c
section
noncomputable abbrev tupO (vs : List Value) : Obj := { cls := .type "tuple", data := .seq vs.toArray 0 }
theorem noFill_tuple_mul : fillsNumberSlot (.type "tuple") "mul" = pure false :=
  PySem.fillsNumberSlot_seq (id := "tuple.__mul__") (r := some (.builtin "tuple.__rmul__")) PySem.F.slot_tuple_mul.lookup (by decide +kernel) PySem.F.slot_tuple_rmul.lookup (by decide +kernel)
theorem repeat_tuple : seqRepeat? (.type "tuple") = pure (some (.builtin "tuple.__mul__")) := by
  unfold seqRepeat?
  rw [PySem.seqSlot_of (T := "tuple") (name := "__mul__") (id := "tuple.__mul__") PySem.F.slot_tuple_mul.lookup (by decide +kernel), PySem.seqSlot_of (T := "tuple") (name := "__rmul__") (id := "tuple.__rmul__") PySem.F.slot_tuple_rmul.lookup (by decide +kernel)]
  rfl
theorem rmul_int_tuple (a : Int) (t : Tok) (l : Addr) (vs : List Value) :
    Meets (Builtin.«int.__rmul__» ⟨[.int a t, .ref l], []⟩) (fun _ R s => s.heap.get? l = some (tupO vs) ∧ R (.ok (.ret Value.notImplemented)) s) :=
  .of_wp fun prog w A R s h => by obtain ⟨hp, g, d, tk, os⟩ := s; obtain ⟨hl, h⟩ := h; wp_walk; exact ⟨_, rfl, h⟩
theorem mul_tuple_two (l : Addr) (x : Value) (u : Tok) :
    Meets (Builtin.«tuple.__mul__» ⟨[.ref l, .int 2 u], []⟩) (fun _ R s => s.heap.get? l = some (tupO [x]) ∧ R (.ok (.ret (Value.ref s.heap.objs.size))) { s with heap := s.heap.push (tupO [x, x]) }) :=
  .of_wp fun prog w A R s h => by
    obtain ⟨hp, g, d, tk, os⟩ := s; obtain ⟨hl, h⟩ := h
    wp_walk
    exact ⟨_, rfl, h⟩
section
variable {prog : Program} {w : World} {A : Around} {E : Value → Shared → Prop} {s : Shared} {h₀ : Heap} {L : Addr} {m : Names} {news : Led}
theorem mul_tup2 {l : Addr} {x : Value} {u : Tok} {Q : Value → Shared → Prop} (Fm : Fr h₀ L s.heap m) (N : News h₀ L s.heap news) (hm : (l, tupO [x]) ∈ news)
    (h : ∀ D h', Fr h₀ L h' m → News h₀ L h' ((D, tupO [x, x]) :: news) → (∀ p ∈ news, p.1 < D) → Q (.ref D) { s with heap := h' }) :
    wpAny (model prog w) A (binaryOp .Mult (.ref l) (.int 2 u)) Q E s := by
  have hl := (N _ hm).1
  exact wpAny_binaryOp_repeat_ref (T := "tuple") (U := "int") (by decide) ⟨_, hl, rfl⟩ (fun s' => typeIs_int s' 2 u) noFill_tuple_mul PySem.F.fills_int_mul PySem.F.slot_int_rmul repeat_tuple PySem.F.slot_int_index.lookup
    (call_meets PySem.F.slot_int_rmul (typeIs_int s 2 u) PySem.F.entry_int_rmul (PySem.F.args_int_rmul_2 _ _) (rmul_int_tuple 2 u l [x])
      ⟨hl, rfl, ⟨_, hl, rfl⟩, call_meets PySem.F.slot_tuple_mul ⟨_, hl, rfl⟩ PySem.F.entry_tuple_mul (PySem.F.args_tuple_mul_2 _ _) (mul_tuple_two l x u)
        ⟨hl, h _ _ (Fm.push _) (News.push Fm N _ rfl) fun p hp => Heap.lt_size (N p hp).1⟩⟩)
end

end
-- C8
section
example : True := by w_top off; exact trivial
section
variable {w : World} {p : Program} {loose : List Str} {mean : ExcName → Option Value} {mg mb : Str → Option Value}
theorem c_nameNone (u : Int) (tu : Tok) (l : Addr) (news : Led) (dp un : Nat) (gd : Option (List Code)) (cn : Str) (cs : Scope) (fa : Addr) (ccd : Value) (cl : List (Str × Addr)) (outer : List Env) (A₀ : Around) (base h₀ : Heap) (L : Addr) (m : Str → Option Value) (s : Shared) (Q E : Value → Shared → Prop)
    (B : Below A₀ base outer h₀) (F : Fr h₀ L s.heap m) (X : (Mine.hd.heap_39 w.params).In h₀) (N : News h₀ L s.heap news) (T : Top p loose mean mg mb h₀) (hcs : cs.kind = .function) (hd : dp + 100 < recursionLimit) (hu : un + 1000 < cLine)
    (hQ : ∀ tp ts h' tk', Fr h₀ L h' m → News h₀ L h' ((tp, ({ cls := .type "tuple", data := .seq #[Value.ref 37, Value.str (Str.ofString "") ts] 0 } : Obj)) :: news) → (∀ p ∈ news, p.1 < tp) → Q (.ref tp) { s with heap := h', toks := tk' }) :
    wpAny (model PySem.Challenge.rw_wo0033_01.row.prog w) (ktrTop dp un gd cn cs L fa ccd cl outer) (call (.ref 44) [.int u tu, .none] [(Str.ofString "sums", .ref l)]) Q E s := by
  revert X; k_fill; intro X
  refine wpAny_call ?_
  k_dflt (((refine' enter_more ?k1z74 ?k2z74 ?k3z74 ?k4z74 ?k5z74 ?kAz74 ?kFz74 ?kKz74 ?k6z74 ?k7z74 ?k8z74 ?kPz74 ?kTz74 ?kBz74 ?_ ?c2z74 ?c3z74 ?c4z74 ?c5z74; (case kAz74 => exact rfl); (case kFz74 => exact rfl); (case kKz74 => assumption); (case k1z74 => k_asm); (case k2z74 => k_asm); (case k3z74 => k_asm); (case k4z74 => k_asm); (case k5z74 => k_asm); (case k6z74 => k_is); (case k7z74 => k_is); (case k8z74 => first | exact rm1 (by assumption) | ktr_room); (case kPz74 => exact rfl); (case kTz74 => exact fun _ => rfl); (case kBz74 => exact fun _ => locs rfl); (case c5z74 => decide); (case c2z74 => exact rfl); (case c3z74 => exact rfl); (case c4z74 => exact rfl); k_whole; intro Dqz74 hshqz74 tqz74 gqz74 Lqz74 hqz74 tkqz74 l1z74 loqz74 FGqz74 Fqz74 Nqz74 Bqz74 Xqz74 Tqz74; have l1cz74 := l1z74; (try k_lt l1z74); (try dsimp only); (try k_fold))))
  iterate 18 (first | (k_unfold; (try dsimp only)) | (k_end; wrow_close) | walk1 | (dsimp only; walk1) | (leave1; walk_say "STEP leave1"; try dsimp only))
  rename _ < _ ∧ AllLt _ news => l9
  rename News h₀ _ _ _ => N1
  rename Fr h₀ _ _ _ => F1
  exact hQ _ _ _ _ F1 (cb_drop N1 (List.forall_mem_cons.mpr ⟨.head _, fun p hp => .tail _ (.tail _ hp)⟩)) (ktn_ltOf l9.2)
theorem c_name (u fu wt : Int) (tu tfu tw : Tok) (f cw ca aA l c' : Addr) (vs avs : List Value) (kk n : Nat) (ow oa oc : Obj) (doc pm ctv : Value) (vs0 : Array Value) (t0 : Tok) (rest : Led) (dp un : Nat) (gd : Option (List Code)) (cn : Str) (cs : Scope) (fa : Addr) (ccd : Value) (cl : List (Str × Addr)) (outer : List Env) (A₀ : Around) (base h₀ : Heap) (L : Addr) (m : Str → Option Value) (s : Shared) (Q E : Value → Shared → Prop)
    (B : Below A₀ base outer h₀) (F : Fr h₀ L s.heap m) (X : (Mine.hd.heap_39 w.params).In h₀) (N : News h₀ L s.heap ((aA, listOf avs.toArray n) :: rest)) (hoff : ∀ p ∈ rest, p.1 ≠ aA)
    (m1 : (f, fnMade (Str.ofString "_law_lead") qLead (paramsOf leadDef) (bodyOf leadDef) (scopeOf leadDef) [(Str.ofString "weight", cw), (Str.ofString "asked", ca)] doc pm c' ctv) ∈ rest) (m2 : (cw, ow) ∈ rest) (m3 : (ca, oa) ∈ rest) (m4 : (c', oc) ∈ rest) (m5 : (l, listOf vs.toArray kk) ∈ rest)
    (d2 : ow.data = .cell (some (.int wt tw))) (d3 : oa.data = .cell (some (.ref aA))) (d4 : oc.data = .fields vs0) (d5 : vs0[1]? = some (.str qLead t0))
    (T : Top p loose mean mg mb h₀) (hcs : cs.kind = .function) (hd : dp + 100 < recursionLimit) (hu : un + 1000 < cLine)
    (hu0 : 0 ≤ u) (hul : u < vs.length) (hv : vs[u.toNat]? = some (Value.int fu tfu)) (hvl : vs.length ≤ 1000) (hal : avs.length ≤ 1000)
    (hQ : ∀ tp r tr h' tk', r = fu + wt → Fr h₀ L h' m → News h₀ L h' ((tp, ({ cls := .type "tuple", data := .seq #[Value.int r tr, Value.int r tr] 0 } : Obj)) :: (aA, listOf (avs ++ [Value.int u tu]).toArray (n + 1)) :: rest) → aA < tp → (∀ p ∈ rest, p.1 < tp) → Q (.ref tp) { s with heap := h', toks := tk' }) :
    wpAny (model PySem.Challenge.rw_wo0033_01.row.prog w) (ktrTop dp un gd cn cs L fa ccd cl outer) (call (.ref 44) [.int u tu, .ref f] [(Str.ofString "sums", .ref l)]) Q E s := by
  revert X; k_fill; intro X
  refine wpAny_call ?_
  k_dflt (((refine' enter_more ?k1z75 ?k2z75 ?k3z75 ?k4z75 ?k5z75 ?kAz75 ?kFz75 ?kKz75 ?k6z75 ?k7z75 ?k8z75 ?kPz75 ?kTz75 ?kBz75 ?_ ?c2z75 ?c3z75 ?c4z75 ?c5z75; (case kAz75 => exact rfl); (case kFz75 => exact rfl); (case kKz75 => assumption); (case k1z75 => k_asm); (case k2z75 => k_asm); (case k3z75 => k_asm); (case k4z75 => k_asm); (case k5z75 => k_asm); (case k6z75 => k_is); (case k7z75 => k_is); (case k8z75 => first | exact rm1 (by assumption) | ktr_room); (case kPz75 => exact rfl); (case kTz75 => exact fun _ => rfl); (case kBz75 => exact fun _ => locs rfl); (case c5z75 => decide); (case c2z75 => exact rfl); (case c3z75 => exact rfl); (case c4z75 => exact rfl); k_whole; intro Dqz75 hshqz75 tqz75 gqz75 Lqz75 hqz75 tkqz75 l1z75 loqz75 FGqz75 Fqz75 Nqz75 Bqz75 Xqz75 Tqz75; have l1cz75 := l1z75; (try k_lt l1z75); (try dsimp only); (try k_fold))))
  iterate 12 (first | (k_unfold; (try dsimp only)) | (k_end; wrow_close) | walk1 | (dsimp only; walk1) | (leave1; walk_say "STEP leave1"; try dsimp only))
  rename News _ _ _ _ => N1
  rename Fr _ _ _ _ => F1
  refine callKW_N (v1 := .int u tu) F1 N1 (.tail _ (.tail _ m1)) (.head _) rfl rfl (by assumption) ?_ ?_ ?_
  · iterate 1 (first | (k_unfold; (try dsimp only)) | (k_end; wrow_close) | walk1 | (dsimp only; walk1) | (leave1; walk_say "STEP leave1"; try dsimp only))
    exact ⟨rfl, rfl⟩
  · intro h2 F2
    iterate 1 (first | (k_unfold; (try dsimp only)) | (k_end; wrow_close) | walk1 | (dsimp only; walk1) | (leave1; walk_say "STEP leave1"; try dsimp only))
    exact ⟨rfl, rfl⟩
  · intro d2' h2' F2 N2 l2
    have off2 : ∀ p ∈ rest, p.1 ≠ aA := hoff
    clear F1 N1
    change (f, fnMade (Str.ofString "_law_lead") qLead ⟨_, _, _, _, _, _, _⟩ (_ :: _) ⟨_, _, _, _, _⟩ [(Str.ofString "weight", cw), (Str.ofString "asked", ca)] doc pm c' ctv) ∈ rest at m1
    refine wpAny_call ?_
    refine' code_nest (cl := [(Str.ofString "weight", cw), (Str.ofString "asked", ca)]) ?kB1 F2 ?kX1 N2 ?kT1 ?kA ?kF ?kK (.tail _ (.tail _ (.tail _ m1))) ⟨c', oc, vs0, t0, rfl, (N2 _ (.tail _ (.tail _ (.tail _ m4)))).1, d4, d5⟩ ?k8 ?k9 ?kB ?_ ?c2 ?c3 ?c4 ?c5
    case kB1 => assumption
    case kX1 => assumption
    case kT1 => assumption
    case kA => exact rfl
    case kF => exact rfl
    case kK => exact rfl
    case k8 => first | exact rm1 (by assumption) | ktr_room
    case k9 => exact BindsTo.of_eq rfl
    case c5 => decide
    case kB => exact locs rfl
    case c2 => exact rfl
    case c3 => exact rfl
    case c4 => exact rfl
    intro g3 L3 h3 FG3 F3 N3 B3 X3 T3
    (try dsimp only); (try k_fold)
    iterate 4 (first | (k_unfold; (try dsimp only)) | (k_end; wrow_close) | walk1 | (dsimp only; walk1) | (leave1; walk_say "STEP leave1"; try dsimp only))
    (first | (with_reducible ((k_here; k_dflt (refine' nameX_F ?Nz76 ?cz76 ?mz76 ?dz76 ?_ ?az76 ?bz76; (case az76 => rfl); (case bz76 => rfl); (case Nz76 => k_asm); (case cz76 => rfl); (case mz76 => walk_at "my mem"); (case dz76 => assumption); k_whole)))) | (dsimp only; (with_reducible ((k_here; k_dflt (refine' nameX_F ?Nz76 ?cz76 ?mz76 ?dz76 ?_ ?az76 ?bz76; (case az76 => rfl); (case bz76 => rfl); (case Nz76 => k_asm); (case cz76 => rfl); (case mz76 => walk_at "my mem"); (case dz76 => assumption); k_whole))))))
    iterate 5 (first | (k_unfold; (try dsimp only)) | (k_end; wrow_close) | walk1 | (dsimp only; walk1) | (leave1; walk_say "STEP leave1"; try dsimp only))
    rename Fr _ _ _ _ => F8
    rename News _ _ _ _ => N8
    clear F2 N2
    rename ∀ p ∈ (aA, _) :: rest, _ < _ => l1c
    refine my_append [_, _] F8 N8 ?o1 off2 ?sz ?_
    case o1 => exact List.forall_mem_cons.mpr ⟨Nat.ne_of_gt (l2 _ (.tail _ (.head _))), List.forall_mem_cons.mpr ⟨Nat.ne_of_gt (l1c _ (.head _)), fun _ h => nomatch h⟩⟩
    case sz => omega
    intro h4 F4 N4
    replace N4 : News _ _ _ (_ :: _ :: _ :: _) := N4
    clear F8 N8
    iterate 6 (first | (k_unfold; (try dsimp only)) | (k_end; wrow_close) | walk1 | (dsimp only; walk1) | (leave1; walk_say "STEP leave1"; try dsimp only))
    refine my_item N4 (.tail _ (.tail _ (.tail _ m5))) hu0 (by omega) hv ?_
    (first | (with_reducible ((k_here; k_dflt (refine' nameX_F ?Nz77 ?cz77 ?mz77 ?dz77 ?_ ?az77 ?bz77; (case az77 => rfl); (case bz77 => rfl); (case Nz77 => k_asm); (case cz77 => rfl); (case mz77 => walk_at "my mem"); (case dz77 => assumption); k_whole)))) | (dsimp only; (with_reducible ((k_here; k_dflt (refine' nameX_F ?Nz77 ?cz77 ?mz77 ?dz77 ?_ ?az77 ?bz77; (case az77 => rfl); (case bz77 => rfl); (case Nz77 => k_asm); (case cz77 => rfl); (case mz77 => walk_at "my mem"); (case dz77 => assumption); k_whole))))))
    iterate 14 (first | (k_unfold; (try dsimp only)) | (k_end; wrow_close) | walk1 | (dsimp only; walk1) | (leave1; walk_say "STEP leave1"; try dsimp only))
    rename _ < _ ∧ _ < _ ∧ aA < _ ∧ AllLt _ rest => l9
    rename News h₀ _ _ _ => N5
    rename Fr h₀ _ _ _ => F5
    exact hQ _ _ _ _ _ rfl F5 (cb_drop N5 (List.forall_mem_cons.mpr ⟨.head _, fun p hp => .tail _ (.tail _ (.tail _ hp))⟩)) l9.2.2.1 (ktn_ltOf l9.2.2.2)
end

end
-- C9
section
example : True := by w_top off; exact trivial
theorem off1_mem {D : Addr} : ∀ {l : Led}, LCg.Off1 D l → ∀ p ∈ l, p.1 ≠ D
  | [], _, _, hp => nomatch hp
  | _ :: _, h, p, hp => by
    rcases List.mem_cons.mp hp with rfl | hp
    · exact h.1
    · exact off1_mem h.2 p hp
noncomputable def Held (p : Prop) : Prop := p
theorem Held.of {p : Prop} (h : Held p) : p := h
section
variable {w : World} {p : Program} {loose : List Str} {mean : ExcName → Option Value} {mg mb : Str → Option Value}
theorem c_cells (l : Addr) (vs : List Value) (ns : List Int) (news : Led) (dp un : Nat) (gd : Option (List Code)) (cn : Str) (cs : Scope) (fa : Addr) (ccd : Value) (cl : List (Str × Addr)) (outer : List Env) (A₀ : Around) (base h₀ : Heap) (L : Addr) (m : Str → Option Value) (s : Shared) (Q E : Value → Shared → Prop)
    (B : Below A₀ base outer h₀) (F : Fr h₀ L s.heap m) (X : (Mine.hd.heap_39 w.params).In h₀) (N : News h₀ L s.heap news) (T : Top p loose mean mg mb h₀) (hcs : cs.kind = .function) (hd : dp + 100 < recursionLimit) (hu : un + 1000 < cLine)
    (hl : h₀.IsList l vs.toArray) (hI : IntsAre vs ns) (hn : ns.length ≤ 63)
    (hQ : ∀ D cv cn h' tk', IntsAre cv cn → cn.length = 9 → Fr h₀ L h' m → News h₀ L h' ((D, LCg.lst cv) :: news) → (∀ p ∈ news, p.1 ≠ D) → Q (.ref D) { s with heap := h', toks := tk' }) :
    wpAny (model PySem.Challenge.rw_wo0033_01.row.prog w) (ktrTop dp un gd cn cs L fa ccd cl outer) (call (.ref 105) [.ref l]) Q E s := by
  revert X; k_fill; intro X
  refine wpAny_call ?_
  have hoff : OwnOff news [s.heap.objs.size] := fun p hp b hb => by rw [List.mem_singleton.mp hb]; exact Nat.ne_of_lt (Heap.lt_size (N p hp).1)
  k_dflt (((refine' code_defC ?k1z78 ?k2z78 ?k3z78 ?k4z78 ?k5z78 ?kAz78 ?kFz78 ?kKz78 ?k6z78 ?k7z78 ?k8z78 ?k9z78 ?kBz78 ?kDz78 ?_ ?c2z78 ?c3z78 ?c4z78; (case kAz78 => exact rfl); (case kFz78 => exact rfl); (case kKz78 => assumption); (case k1z78 => k_asm); (case k2z78 => k_asm); (case k3z78 => k_asm); (case k4z78 => k_asm); (case k5z78 => k_asm); (case k6z78 => k_is); (case k7z78 => k_is); (case k8z78 => first | exact rm1 (by assumption) | ktr_room); (case k9z78 => exact BindsTo.of_eq rfl); (case kBz78 => exact rfl); (case kDz78 => decide +kernel); (case c2z78 => exact rfl); (case c3z78 => exact rfl); (case c4z78 => exact rfl); k_whole; intro gqz78 Lqz78 hqz78 tkqz78 cellsqz78 FGqz78 Fqz78 Nqz78 Yqz78 Bqz78 Xqz78 Tqz78 l1z78; (rename OwnOff _ _ => hO9z78; replace hO9z78 := offL hO9z78 (fun p hp => l1z78 p (by walk_at "my mem"))); (try k_lt l1z78); k_cells Yqz78; (try simp only [List.cons_append, List.nil_append] at Nqz78); (try dsimp only); (try k_fold))))
  iterate 27 (first | (k_unfold; (try dsimp only)) | (k_end; wrow_close) | walk1 | (dsimp only; walk1) | (leave1; walk_say "STEP leave1"; try dsimp only))
  (first | (with_reducible ((k_here; k_dflt (refine LCg.ListComp_U (F₀ := by k_asm) (by rfl) (by decide) (by rfl) (by decide) (by rfl) ?_)))) | (dsimp only; (with_reducible ((k_here; k_dflt (refine LCg.ListComp_U (F₀ := by k_asm) (by rfl) (by decide) (by rfl) (by decide) (by rfl) ?_))))))
  iterate 7 (k_dflt (first | walk1 | (dsimp only; walk1)))
  (k_dflt (first | (with_reducible ((k_here; k_dflt ((refine LCg.CompSrc.range (by rfl) (by k_asm) (by k_asm) (by assumption) (by first | decide | rfl) (by first | rfl | decide) (by first | size_fits | exact Nat.le_of_ble_eq_true rfl) ?_; intro gqz80; (try dsimp only); refine Held.of ?_))))) | (dsimp only; (with_reducible ((k_here; k_dflt ((refine LCg.CompSrc.range (by rfl) (by k_asm) (by k_asm) (by assumption) (by first | decide | rfl) (by first | rfl | decide) (by first | size_fits | exact Nat.le_of_ble_eq_true rfl) ?_; intro gqz80; (try dsimp only); refine Held.of ?_))))))))
  rename News _ _ _ ((_, listOf #[_, _, _, _, _, _, _, _, _] 0) :: _) => N3
  rename Fr _ _ _ _ => F3
  refine restU (fun i ys nw => nw = _ ∧ ∃ zs : List Int, IntsAre ys zs ∧ zs.length = i) ⟨rfl, [], .nil, rfl⟩ ?turn ?fin
  case fin =>
    clear F3 N3
    rintro ys nw ⟨hnw, zs, hz, hzl⟩
    subst hnw
    intro D h8 tk8 F8 N8 o8
    iterate 1 (first | (k_unfold; (try dsimp only)) | (k_end; wrow_close) | walk1 | (dsimp only; walk1) | (leave1; walk_say "STEP leave1"; try dsimp only))
    rename News h₀ _ _ _ => N9
    rename Fr h₀ _ _ _ => F9
    exact hQ D ys zs _ _ hz hzl F9 (cb_drop N9 (List.forall_mem_cons.mpr ⟨.head _, fun p hp => .tail _ (.tail _ (.tail _ (.tail _ hp)))⟩)) (off1_mem o8.2.2.2)
  case turn =>
    clear F3 N3
    rintro i v I oI C oC D m₂ ys h tk nw E' hi ⟨t, hv⟩ ⟨hnw, zs, hz, hzl⟩ hC hx F9 N9 off ne
    subst hv hnw
    (try dsimp only)
    replace hi : i < 9 := hi
    iterate 17 (first | (k_unfold; (try dsimp only)) | (k_end; wrow_close) | walk1 | (dsimp only; walk1) | (leave1; walk_say "STEP leave1"; try dsimp only))
    rename Fr h₀ _ _ _ => FG
    have hl9 := (hl.at fun o e => FG.keep _ _ e).at fun o e => F9.keep _ _ e
    k_dflt (refine slice_list3 F9 N9 hl9 (.int _ _) .none (.int _ _) (by decide) (fun h8 F8 N8 => ?_) (by with_unfolding_all rfl) (by intro _; with_unfolding_all rfl) (by rw [List.size_toArray, hI.length]; exact Nat.le_trans hn (by decide)))
    clear F9 N9
    have hI8 := hI.pick (some (0 + (i : Int))) none (some 9)
    (try dsimp only)
    iterate 3 (first | (k_unfold; (try dsimp only)) | (k_end; wrow_close) | walk1 | (dsimp only; walk1) | (leave1; walk_say "STEP leave1"; try dsimp only))
    rename News _ _ _ _ => N7
    rename Fr _ _ _ _ => F7
    refine LCg.CompEnd.intro F7 N7 _ (fun p hp => .tail _ hp) off trivial ⟨rfl, _, intsApp hz (.cons _ _ .nil), by rw [List.length_append, hzl]; rfl⟩
end

end
-- L0
section
example : True := by w_top off; exact trivial
theorem ovApp : ∀ {os ps : List (Option Int)} {vs ws : List Value}, OvL os vs → OvL ps ws → OvL (os ++ ps) (vs ++ ws)
  | _, _, _, _, .nil, h => h
  | _, _, _, _, .cons r, h => .cons (ovApp r h)
theorem fm20 (x : Int) : 0 ≤ x.fmod 20 ∧ x.fmod 20 ≤ 19 := by
  rw [Int.fmod_eq_emod_of_nonneg _ (by decide)]; omega
theorem sz_of {vs : List Value} (h : vs.length ≤ 1000) : vs.toArray.size ≤ sizeLine := by rw [List.size_toArray]; exact Nat.le_trans h (by decide)
noncomputable abbrev lawCells (L : Addr) : List (Str × Addr) := [(Str.ofString "ring", L + 1 + 1 + 1), (Str.ofString "leads", L + 1 + 1), (Str.ofString "weights", L + 1)]
noncomputable abbrev lawEnv (L fa : Addr) (ccd : Value) : Env := envX (Str.ofString "law") lawScope L fa ccd (lawCells L)
noncomputable abbrev lawA (dp un : Nat) (gd : Option (List Code)) (L fa : Addr) (ccd : Value) (outer : List Env) : Around := ktrTop dp un gd (Str.ofString "law") lawScope L fa ccd (lawCells L) outer
section
variable {w : World} {p : Program} {loose : List Str} {mean : ExcName → Option Value} {mg mb : Str → Option Value}
theorem t_A (l : Addr) (tl : Value) (vs : List Value) (ns : List Int) (o1 o2 o3 : Obj) (c1 c2 c3 : Option Value) (dp un : Nat) (gd : Option (List Code)) (fa : Addr) (ccd : Value) (outer : List Env) (A₀ : Around) (base h₀ : Heap) (L : Addr) (m : Str → Option Value) (s : Shared) (Q : Flow → Shared → Prop) (E : Value → Shared → Prop) (rest : List Stmt)
    (B : Below A₀ base outer h₀) (F : Fr h₀ L s.heap m) (X : (Mine.hd.heap_39 w.params).In h₀) (T : Top p loose mean mg mb h₀)
    (N : News h₀ L s.heap [(L + 1 + 1 + 1, o3), (L + 1 + 1, o2), (L + 1, o1), (107, tabObj #[]), (74, tabObj #[]), (67, tabObj #[])])
    (hL : (107 : Nat) < L ∧ (74 : Nat) < L ∧ (67 : Nat) < L) (hd : dp + 300 < recursionLimit) (hu : un + 3000 < cLine)
    (d1 : o1.data = .cell c1) (d2 : o2.data = .cell c2) (d3 : o3.data = .cell c3)
    (hm : m (Str.ofString "script") = some (.ref l)) (hl : h₀.IsList l vs.toArray) (hI : IntsAre vs ns) (hn : ns.length ≤ 63)
    (hK : ∀ wD wv os wk r0 t1 t2 t3 o1' m' h' tk', OvL os wv → os.length = 9 → (∀ v, some v ∈ os → 0 ≤ v ∧ v ≤ 19) → o1'.data = .cell (some (.ref wD)) → m' (Str.ofString "walks") = some (.ref wk) → Fr h₀ L h' m' →
      News h₀ L h' [(wk, listOf #[Value.ref r0] 0), (r0, listOf #[Value.int 0 t1, Value.int 0 t2, Value.int 0 t3] 0), (wD, LCg.lst wv), (L + 1 + 1 + 1, o3), (L + 1 + 1, o2), (L + 1, o1'), (107, tabObj #[]), (74, tabObj #[]), (67, tabObj #[])] →
      Nd [(wk, listOf #[Value.ref r0] 0), (r0, listOf #[Value.int 0 t1, Value.int 0 t2, Value.int 0 t3] 0), (wD, LCg.lst wv), (L + 1 + 1 + 1, o3), (L + 1 + 1, o2), (L + 1, o1'), (107, tabObj #[]), (74, tabObj #[]), (67, tabObj #[])] →
      wpAny (model PySem.Challenge.rw_wo0033_01.row.prog w) (lawA dp un gd L fa ccd outer) (execs rest (lawEnv L fa ccd)) Q E { s with heap := h', toks := tk' }) :
    wpAny (model PySem.Challenge.rw_wo0033_01.row.prog w) (lawA dp un gd L fa ccd outer) (execs (lawS 0 :: lawS 1 :: rest) (lawEnv L fa ccd)) Q E s := by
  revert X; k_fill; intro X
  change wpAny _ (ktrTop dp un gd _ ⟨_, _, _, _, _⟩ L fa ccd _ outer) (execs (.Assign _ _ _ :: .Assign _ _ _ :: _) (envX _ ⟨_, _, _, _, _⟩ _ _ _ _)) _ _ _
  have hk : ∀ p ∈ [(Str.ofString "script", Value.ref l)], m p.1 = some p.2 := List.forall_mem_cons.mpr ⟨hm, fun _ h => nomatch h⟩
  replace F := fr_kst hk F
  dsimp only [kstB] at F
  iterate 2 (first | (k_unfold; (try dsimp only)) | (k_end; wrow_close) | walk1 | (dsimp only; walk1) | (leave1; walk_say "STEP leave1"; try dsimp only))
  (first | (with_reducible ((k_here; k_dflt (refine LCg.ListComp_U (F₀ := by k_asm) (by rfl) (by decide) (by rfl) (by decide) (by rfl) ?_)))) | (dsimp only; (with_reducible ((k_here; k_dflt (refine LCg.ListComp_U (F₀ := by k_asm) (by rfl) (by decide) (by rfl) (by decide) (by rfl) ?_))))))
  iterate 7 (k_dflt (first | walk1 | (dsimp only; walk1)))
  (k_dflt (first | (with_reducible ((k_here; (with_reducible show wpAny _ _ (call (Value.ref 105) _) _ _ _); k_dflt (refine' c_cells _ _ _ _ _ _ _ _ _ _ _ _ _ _ _ _ _ _ _ _ _ ?kBz82 ?kFz82 ?kXz82 ?kNz82 ?kTz82 ?kKz82 ?kdz82 ?kuz82 ?hlz82 ?hIz82 ?hnz82 ?_; (case kBz82 => assumption); (case kFz82 => assumption); (case kXz82 => assumption); (case kNz82 => assumption); (case kTz82 => assumption); (case kKz82 => rfl); (case kdz82 => first | exact rm1 (by assumption) | exact rm2 (by assumption) (by decide) | exact rm3 (by assumption) (by decide) | exact rm4 (by assumption) (by decide) | omega | ktr_room); (case kuz82 => first | exact rm1 (by assumption) | exact rm2 (by assumption) (by decide) | exact rm3 (by assumption) (by decide) | exact rm4 (by assumption) (by decide) | omega | ktr_units); (case hlz82 => assumption); (case hIz82 => assumption); (case hnz82 => assumption); intro Dqz82 cvqz82 cnqz82 hqz82 tkqz82 hIqz82 hlqz82 Fqz82 Nqz82 o1qz82; have hlcz82 := hIqz82.length.trans hlqz82; (try dsimp only); (try k_fold))))) | (dsimp only; (with_reducible ((k_here; (with_reducible show wpAny _ _ (call (Value.ref 105) _) _ _ _); k_dflt (refine' c_cells _ _ _ _ _ _ _ _ _ _ _ _ _ _ _ _ _ _ _ _ _ ?kBz82 ?kFz82 ?kXz82 ?kNz82 ?kTz82 ?kKz82 ?kdz82 ?kuz82 ?hlz82 ?hIz82 ?hnz82 ?_; (case kBz82 => assumption); (case kFz82 => assumption); (case kXz82 => assumption); (case kNz82 => assumption); (case kTz82 => assumption); (case kKz82 => rfl); (case kdz82 => first | exact rm1 (by assumption) | exact rm2 (by assumption) (by decide) | exact rm3 (by assumption) (by decide) | exact rm4 (by assumption) (by decide) | omega | ktr_room); (case kuz82 => first | exact rm1 (by assumption) | exact rm2 (by assumption) (by decide) | exact rm3 (by assumption) (by decide) | exact rm4 (by assumption) (by decide) | omega | ktr_units); (case hlz82 => assumption); (case hIz82 => assumption); (case hnz82 => assumption); intro Dqz82 cvqz82 cnqz82 hqz82 tkqz82 hIqz82 hlqz82 Fqz82 Nqz82 o1qz82; have hlcz82 := hIqz82.length.trans hlqz82; (try dsimp only); (try k_fold))))))))
  (k_dflt (first | (with_reducible ((k_here; k_dflt ((refine LCg.CompSrc.ledger (by rfl) (by k_asm) (by k_asm) (by walk_at "my mem") (sz_of (by omega)) ?_; intro gqz83; (try dsimp only); refine Held.of ?_))))) | (dsimp only; (with_reducible ((k_here; k_dflt ((refine LCg.CompSrc.ledger (by rfl) (by k_asm) (by k_asm) (by walk_at "my mem") (sz_of (by omega)) ?_; intro gqz83; (try dsimp only); refine Held.of ?_))))))))
  rename IntsAre _ _ => hI9
  rename News _ _ _ ((_, LCg.lst _) :: _) => N3
  rename Fr _ _ _ _ => F3
  rename List.length _ = 9 => hl9
  refine restU (fun i ys nw => nw = _ ∧ ∃ os : List (Option Int), OvL os ys ∧ os.length = i ∧ ∀ v, some v ∈ os → 0 ≤ v ∧ v ≤ 19) ⟨rfl, [], .nil, rfl, fun _ h => nomatch h⟩ ?turn ?fin
  case fin =>
    clear F3 N3
    rintro ys nw ⟨hnw, os, ho, hol, hob⟩
    subst hnw
    rw [List.size_toArray, hl9] at hol
    intro D h8 tk8 F8 N8 o8
    simp only [LCg.Off1, and_true] at o8
    replace o8 := o8.2
    replace N8 := cb_drop N8 (List.forall_mem_cons.mpr ⟨.head _, fun p hp => .tail _ (.tail _ hp)⟩)
    iterate 17 (first | (k_unfold; (try dsimp only)) | (k_end; wrow_close) | (walk1; (try dsimp only)) | (dsimp only; walk1; (try dsimp only)) | (leave1; walk_say "STEP leave1"; try dsimp only))
    rename Fr _ _ _ _ => F9
    rename News _ _ _ _ => N9
    rename Obj.data _ = _ => d9
    refine hK _ _ _ _ _ _ _ _ _ _ _ _ ho hol hob d9 rfl F9 N9 ?nd
    case nd => (repeat' (first | exact Nd.nil | exact List.forall_mem_nil _ | refine Nd.cons ?_ ?_ | refine List.forall_mem_cons.mpr ⟨?_, ?_⟩ | k_ne))
  case turn =>
    clear F3 N3
    rintro i v I oI C oC D m₂ ys h tk nw E' hi hv ⟨hnw, os, ho, hol, hob⟩ hC hx F9 N9 off ne
    subst hnw
    obtain ⟨d, td, rfl, hd9⟩ := IntsAre.at hI9 i v (by simpa using hv)
    (try dsimp only)
    iterate 17 (first | (k_unfold; (try dsimp only)) | (k_end; wrow_close) | (walk1; (try dsimp only)) | (dsimp only; walk1; (try dsimp only)) | (leave1; walk_say "STEP leave1"; try dsimp only))
    · refine LCg.CompEnd.intro F9 N9 _ (fun p hp => hp) off (.inr ⟨_, .head _, rfl, _, rfl⟩) ⟨rfl, _, ovApp ho (.cons (o := some _) .nil), by rw [List.length_append, hol]; rfl, fun v hv => ?_⟩
      rcases List.mem_append.mp hv with hv | hv
      · exact hob v hv
      · rw [List.mem_singleton, Option.some.injEq] at hv
        rw [hv]; exact fm20 _
    · iterate 1 (first | (k_unfold; (try dsimp only)) | (k_end; wrow_close) | (walk1; (try dsimp only)) | (dsimp only; walk1; (try dsimp only)) | (leave1; walk_say "STEP leave1"; try dsimp only))
      refine LCg.CompEnd.intro F9 N9 _ (fun p hp => hp) off (.inr ⟨_, .head _, rfl, _, rfl⟩) ⟨rfl, _, ovApp ho (.cons (o := none) (t := 0) .nil), by rw [List.length_append, hol]; rfl, fun v hv => ?_⟩
      rcases List.mem_append.mp hv with hv | hv
      · exact hob v hv
      · rw [List.mem_singleton] at hv; cases hv
end

end
section
-- L1
section
example : True := by w_top off; exact trivial
section
variable {w : World} {p : Program} {loose : List Str} {mean : ExcName → Option Value} {mg mb : Str → Option Value}
theorem addO_none {a b : Option Int} (h : b = none ∨ a = none) : addO a b = none := by
  rcases h with rfl | rfl
  · cases a <;> rfl
  · rfl
theorem permA {α : Type} {a b t : α} {c r : List α} : (a :: b :: t :: (c ++ r)).Perm (t :: (c ++ (a :: b :: r))) := by
  refine (List.perm_middle (l₁ := [a, b]) (l₂ := c ++ r) (a := t)).trans (.cons t ?_)
  have e : (a :: b :: (c ++ r)).Perm ([a, b] ++ (c ++ r)) := .refl _
  refine e.trans ?_
  rw [← List.append_assoc]
  refine (List.Perm.append_right r (List.perm_append_comm (l₁ := [a, b]) (l₂ := c))).trans ?_
  rw [List.append_assoc]
  exact .refl _
theorem permB {α : Type} {f w c t d l a : α} {r : List α} : (f :: w :: c :: t :: d :: l :: a :: r).Perm (a :: f :: w :: c :: t :: d :: l :: r) :=
  List.perm_middle (l₁ := [f, w, c, t, d, l]) (l₂ := r) (a := a)
theorem permC {α : Type} {t d l a : α} {r : List α} : (t :: d :: l :: a :: r).Perm (a :: t :: d :: l :: r) :=
  List.perm_middle (l₁ := [t, d, l]) (l₂ := r) (a := a)
theorem permD {α : Type} {t c l a : α} {r : List α} : (t :: c :: l :: a :: r).Perm (l :: a :: t :: c :: r) :=
  List.Perm.append_right r (List.perm_append_comm (l₁ := [t, c]) (l₂ := [l, a]))
theorem t_u (u v : Int) (tu tv : Tok) (wo ro : Option Int) (tw tr : Tok) (wD wk rA rwA lA aA : Addr) (wv wkv rv lv av : List Value) (wn wkn rn ln an : Nat) (o1 o2 : Obj) (ps : Array Value) (codes rest : Led) (dp un : Nat) (gd : Option (List Code)) (fa : Addr) (ccd : Value) (outer : List Env) (A₀ : Around) (base h₀ : Heap) (L : Addr) (m : Str → Option Value) (s : Shared) (Q : Flow → Shared → Prop) (E : Value → Shared → Prop)
    (B : Below A₀ base outer h₀) (F : Fr h₀ L s.heap m) (X : (Mine.hd.heap_39 w.params).In h₀) (T : Top p loose mean mg mb h₀) (C : CodeHd base 111 107) (S : TabSt leadDef qLead ps codes)
    (N : News h₀ L s.heap ((lA, listOf lv.toArray ln) :: (aA, listOf av.toArray an) :: (107, tabObj ps) :: (codes ++ rest)))
    (nd : Nd ((lA, listOf lv.toArray ln) :: (aA, listOf av.toArray an) :: (107, tabObj ps) :: (codes ++ rest)))
    (hd : dp + 300 < recursionLimit) (hu : un + 3000 < cLine)
    (m1 : (L + 1, o1) ∈ rest) (d1 : o1.data = .cell (some (.ref wD))) (m2 : (L + 1 + 1, o2) ∈ rest) (d2 : o2.data = .cell (some (.ref lA))) (m3 : (wD, listOf wv.toArray wn) ∈ rest) (m4 : (wk, listOf wkv.toArray wkn) ∈ rest) (m5 : (rA, listOf rv.toArray rn) ∈ rest)
    (hu0 : 0 ≤ u) (hu3 : u < 3) (hv0 : 0 ≤ v) (hv3 : v < 3) (hw : wv[(3 * u + v).toNat]? = some (ov wo tw)) (hr : rv[u.toNat]? = some (ov ro tr)) (hrl : rv.length = 3) (hwk : wkv[wkv.length - 1]? = some (.ref rA)) (hwk1 : 1 ≤ wkv.length) (hwk2 : wkv.length ≤ 100) (hll : lv.length ≤ 100) (hal : av.length ≤ 100)
    (hk : ∀ p ∈ [(Str.ofString "u", Value.int u tu), (Str.ofString "walks", Value.ref wk), (Str.ofString "row", Value.ref rwA), (Str.ofString "v", Value.int v tv), (Str.ofString "asked", Value.ref aA)], m p.1 = some p.2)
    (hQ : ∀ t' av' an' ps' codes' m' h' tk', av' = (if (addO ro wo).isSome then av ++ [.int u tu] else av) → TabSt leadDef qLead ps' codes' → (∀ p ∈ [(Str.ofString "walks", Value.ref wk), (Str.ofString "row", Value.ref rwA), (Str.ofString "v", Value.int v tv), (Str.ofString "asked", Value.ref aA)], m' p.1 = some p.2) →
      Fr h₀ L h' m' → News h₀ L h' ((lA, listOf (lv ++ [ov (addO ro wo) t']).toArray (ln + 1)) :: (aA, listOf av'.toArray an') :: (107, tabObj ps') :: (codes' ++ rest)) → Nd ((lA, listOf (lv ++ [ov (addO ro wo) t']).toArray (ln + 1)) :: (aA, listOf av'.toArray an') :: (107, tabObj ps') :: (codes' ++ rest)) → Q .next { s with heap := h', toks := tk' }) :
    wpAny (model PySem.Challenge.rw_wo0033_01.row.prog w) (lawA dp un gd L fa ccd outer) (execs uBody (lawEnv L fa ccd)) Q E s := by
  revert X; k_fill; intro X
  change wpAny _ (ktrTop dp un gd _ ⟨_, _, _, _, _⟩ L fa ccd _ outer) (execs (.Assign _ _ _ :: .Assign _ _ _ :: .If _ _ _ _ :: []) (envX _ ⟨_, _, _, _, _⟩ _ _ _ _)) _ _ _
  replace F := fr_kst hk F
  dsimp only [kstB] at F
  iterate 3 (first | (k_unfold; (try dsimp only)) | (k_end; wrow_close) | (walk1; (try dsimp only)) | (dsimp only; walk1; (try dsimp only)) | (leave1; walk_say "STEP leave1"; try dsimp only))
  (first | ((with_reducible ((k_here; (with_reducible show wpAny _ _ (eval _ (envX _ _ _ _ _ _)) _ _ _); k_dflt (first | (refine' nameX_L ?Fz85 ?vz85 ?_ ?az85 ?bz85; (case Fz85 => k_asm); (case az85 => rfl); (case bz85 => rfl); (case vz85 => rfl); k_whole) | (refine' nameX_C ?Nz85 ?cz85 ?mz85 ?dz85 ?_ ?az85 ?bz85; (case az85 => rfl); (case bz85 => rfl); (case Nz85 => k_asm); (case cz85 => rfl); (case mz85 => walk_at "my mem"); (case dz85 => assumption); k_whole) | (refine' nameX_K ?Fz85 ?Xz85 ?Tz85 ?ez85 ?_ ?az85 ?bz85; (case Fz85 => k_asm); (case Xz85 => k_asm); (case Tz85 => k_asm); (case az85 => rfl); (case bz85 => rfl); (case ez85 => k_is); k_whole) | (refine' nameX_B ?Fz85 ?Xz85 ?Tz85 ?ez85 ?vz85 ?nz85 ?_ ?az85 ?bz85; (case Fz85 => k_asm); (case Xz85 => k_asm); (case Tz85 => k_asm); (case az85 => rfl); (case bz85 => rfl); (case ez85 => k_is); (case vz85 => boot_fast); (case nz85 => decide); k_whole))))); (try dsimp only)) | (dsimp only; (with_reducible ((k_here; (with_reducible show wpAny _ _ (eval _ (envX _ _ _ _ _ _)) _ _ _); k_dflt (first | (refine' nameX_L ?Fz85 ?vz85 ?_ ?az85 ?bz85; (case Fz85 => k_asm); (case az85 => rfl); (case bz85 => rfl); (case vz85 => rfl); k_whole) | (refine' nameX_C ?Nz85 ?cz85 ?mz85 ?dz85 ?_ ?az85 ?bz85; (case az85 => rfl); (case bz85 => rfl); (case Nz85 => k_asm); (case cz85 => rfl); (case mz85 => walk_at "my mem"); (case dz85 => assumption); k_whole) | (refine' nameX_K ?Fz85 ?Xz85 ?Tz85 ?ez85 ?_ ?az85 ?bz85; (case Fz85 => k_asm); (case Xz85 => k_asm); (case Tz85 => k_asm); (case az85 => rfl); (case bz85 => rfl); (case ez85 => k_is); k_whole) | (refine' nameX_B ?Fz85 ?Xz85 ?Tz85 ?ez85 ?vz85 ?nz85 ?_ ?az85 ?bz85; (case Fz85 => k_asm); (case Xz85 => k_asm); (case Tz85 => k_asm); (case az85 => rfl); (case bz85 => rfl); (case ez85 => k_is); (case vz85 => boot_fast); (case nz85 => decide); k_whole))))); (try dsimp only)))
  (first | ((with_reducible ((k_here; k_dflt (first | refine' callWith_K ?k1z86 ?k2z86 ?_; (case k1z86 => k_asm); (case k2z86 => k_is); k_whole | refine' callWith_KW ?k1z86 ?k2z86 ?k3z86 ?_; (case k1z86 => k_asm); (case k2z86 => k_is); (case k3z86 => exact rfl); k_whole)))); (try dsimp only)) | (dsimp only; (with_reducible ((k_here; k_dflt (first | refine' callWith_K ?k1z86 ?k2z86 ?_; (case k1z86 => k_asm); (case k2z86 => k_is); k_whole | refine' callWith_KW ?k1z86 ?k2z86 ?k3z86 ?_; (case k1z86 => k_asm); (case k2z86 => k_is); (case k3z86 => exact rfl); k_whole)))); (try dsimp only)))
  iterate 2 (first | (k_unfold; (try dsimp only)) | (k_end; wrow_close) | (walk1; (try dsimp only)) | (dsimp only; walk1; (try dsimp only)) | (leave1; walk_say "STEP leave1"; try dsimp only))
  (first | ((with_reducible ((k_here; (with_reducible show wpAny _ _ (eval _ (envX _ _ _ _ _ _)) _ _ _); k_dflt (first | (refine' nameX_L ?Fz87 ?vz87 ?_ ?az87 ?bz87; (case Fz87 => k_asm); (case az87 => rfl); (case bz87 => rfl); (case vz87 => rfl); k_whole) | (refine' nameX_C ?Nz87 ?cz87 ?mz87 ?dz87 ?_ ?az87 ?bz87; (case az87 => rfl); (case bz87 => rfl); (case Nz87 => k_asm); (case cz87 => rfl); (case mz87 => walk_at "my mem"); (case dz87 => assumption); k_whole) | (refine' nameX_K ?Fz87 ?Xz87 ?Tz87 ?ez87 ?_ ?az87 ?bz87; (case Fz87 => k_asm); (case Xz87 => k_asm); (case Tz87 => k_asm); (case az87 => rfl); (case bz87 => rfl); (case ez87 => k_is); k_whole) | (refine' nameX_B ?Fz87 ?Xz87 ?Tz87 ?ez87 ?vz87 ?nz87 ?_ ?az87 ?bz87; (case Fz87 => k_asm); (case Xz87 => k_asm); (case Tz87 => k_asm); (case az87 => rfl); (case bz87 => rfl); (case ez87 => k_is); (case vz87 => boot_fast); (case nz87 => decide); k_whole))))); (try dsimp only)) | (dsimp only; (with_reducible ((k_here; (with_reducible show wpAny _ _ (eval _ (envX _ _ _ _ _ _)) _ _ _); k_dflt (first | (refine' nameX_L ?Fz87 ?vz87 ?_ ?az87 ?bz87; (case Fz87 => k_asm); (case az87 => rfl); (case bz87 => rfl); (case vz87 => rfl); k_whole) | (refine' nameX_C ?Nz87 ?cz87 ?mz87 ?dz87 ?_ ?az87 ?bz87; (case az87 => rfl); (case bz87 => rfl); (case Nz87 => k_asm); (case cz87 => rfl); (case mz87 => walk_at "my mem"); (case dz87 => assumption); k_whole) | (refine' nameX_K ?Fz87 ?Xz87 ?Tz87 ?ez87 ?_ ?az87 ?bz87; (case Fz87 => k_asm); (case Xz87 => k_asm); (case Tz87 => k_asm); (case az87 => rfl); (case bz87 => rfl); (case ez87 => k_is); k_whole) | (refine' nameX_B ?Fz87 ?Xz87 ?Tz87 ?ez87 ?vz87 ?nz87 ?_ ?az87 ?bz87; (case Fz87 => k_asm); (case Xz87 => k_asm); (case Tz87 => k_asm); (case az87 => rfl); (case bz87 => rfl); (case ez87 => k_is); (case vz87 => boot_fast); (case nz87 => decide); k_whole))))); (try dsimp only)))
  iterate 3 (first | (k_unfold; (try dsimp only)) | (k_end; wrow_close) | (walk1; (try dsimp only)) | (dsimp only; walk1; (try dsimp only)) | (leave1; walk_say "STEP leave1"; try dsimp only))
  (first | ((with_reducible ((k_here; (with_reducible show wpAny _ _ (eval _ (envX _ _ _ _ _ _)) _ _ _); k_dflt (first | (refine' nameX_L ?Fz88 ?vz88 ?_ ?az88 ?bz88; (case Fz88 => k_asm); (case az88 => rfl); (case bz88 => rfl); (case vz88 => rfl); k_whole) | (refine' nameX_C ?Nz88 ?cz88 ?mz88 ?dz88 ?_ ?az88 ?bz88; (case az88 => rfl); (case bz88 => rfl); (case Nz88 => k_asm); (case cz88 => rfl); (case mz88 => walk_at "my mem"); (case dz88 => assumption); k_whole) | (refine' nameX_K ?Fz88 ?Xz88 ?Tz88 ?ez88 ?_ ?az88 ?bz88; (case Fz88 => k_asm); (case Xz88 => k_asm); (case Tz88 => k_asm); (case az88 => rfl); (case bz88 => rfl); (case ez88 => k_is); k_whole) | (refine' nameX_B ?Fz88 ?Xz88 ?Tz88 ?ez88 ?vz88 ?nz88 ?_ ?az88 ?bz88; (case Fz88 => k_asm); (case Xz88 => k_asm); (case Tz88 => k_asm); (case az88 => rfl); (case bz88 => rfl); (case ez88 => k_is); (case vz88 => boot_fast); (case nz88 => decide); k_whole))))); (try dsimp only)) | (dsimp only; (with_reducible ((k_here; (with_reducible show wpAny _ _ (eval _ (envX _ _ _ _ _ _)) _ _ _); k_dflt (first | (refine' nameX_L ?Fz88 ?vz88 ?_ ?az88 ?bz88; (case Fz88 => k_asm); (case az88 => rfl); (case bz88 => rfl); (case vz88 => rfl); k_whole) | (refine' nameX_C ?Nz88 ?cz88 ?mz88 ?dz88 ?_ ?az88 ?bz88; (case az88 => rfl); (case bz88 => rfl); (case Nz88 => k_asm); (case cz88 => rfl); (case mz88 => walk_at "my mem"); (case dz88 => assumption); k_whole) | (refine' nameX_K ?Fz88 ?Xz88 ?Tz88 ?ez88 ?_ ?az88 ?bz88; (case Fz88 => k_asm); (case Xz88 => k_asm); (case Tz88 => k_asm); (case az88 => rfl); (case bz88 => rfl); (case ez88 => k_is); k_whole) | (refine' nameX_B ?Fz88 ?Xz88 ?Tz88 ?ez88 ?vz88 ?nz88 ?_ ?az88 ?bz88; (case Fz88 => k_asm); (case Xz88 => k_asm); (case Tz88 => k_asm); (case az88 => rfl); (case bz88 => rfl); (case ez88 => k_is); (case vz88 => boot_fast); (case nz88 => decide); k_whole))))); (try dsimp only)))
  iterate 1 (first | (k_unfold; (try dsimp only)) | (k_end; wrow_close) | (walk1; (try dsimp only)) | (dsimp only; walk1; (try dsimp only)) | (leave1; walk_say "STEP leave1"; try dsimp only))
  (first | ((with_reducible ((k_here; (with_reducible show wpAny _ _ (eval _ (envX _ _ _ _ _ _)) _ _ _); k_dflt (first | (refine' nameX_L ?Fz89 ?vz89 ?_ ?az89 ?bz89; (case Fz89 => k_asm); (case az89 => rfl); (case bz89 => rfl); (case vz89 => rfl); k_whole) | (refine' nameX_C ?Nz89 ?cz89 ?mz89 ?dz89 ?_ ?az89 ?bz89; (case az89 => rfl); (case bz89 => rfl); (case Nz89 => k_asm); (case cz89 => rfl); (case mz89 => walk_at "my mem"); (case dz89 => assumption); k_whole) | (refine' nameX_K ?Fz89 ?Xz89 ?Tz89 ?ez89 ?_ ?az89 ?bz89; (case Fz89 => k_asm); (case Xz89 => k_asm); (case Tz89 => k_asm); (case az89 => rfl); (case bz89 => rfl); (case ez89 => k_is); k_whole) | (refine' nameX_B ?Fz89 ?Xz89 ?Tz89 ?ez89 ?vz89 ?nz89 ?_ ?az89 ?bz89; (case Fz89 => k_asm); (case Xz89 => k_asm); (case Tz89 => k_asm); (case az89 => rfl); (case bz89 => rfl); (case ez89 => k_is); (case vz89 => boot_fast); (case nz89 => decide); k_whole))))); (try dsimp only)) | (dsimp only; (with_reducible ((k_here; (with_reducible show wpAny _ _ (eval _ (envX _ _ _ _ _ _)) _ _ _); k_dflt (first | (refine' nameX_L ?Fz89 ?vz89 ?_ ?az89 ?bz89; (case Fz89 => k_asm); (case az89 => rfl); (case bz89 => rfl); (case vz89 => rfl); k_whole) | (refine' nameX_C ?Nz89 ?cz89 ?mz89 ?dz89 ?_ ?az89 ?bz89; (case az89 => rfl); (case bz89 => rfl); (case Nz89 => k_asm); (case cz89 => rfl); (case mz89 => walk_at "my mem"); (case dz89 => assumption); k_whole) | (refine' nameX_K ?Fz89 ?Xz89 ?Tz89 ?ez89 ?_ ?az89 ?bz89; (case Fz89 => k_asm); (case Xz89 => k_asm); (case Tz89 => k_asm); (case az89 => rfl); (case bz89 => rfl); (case ez89 => k_is); k_whole) | (refine' nameX_B ?Fz89 ?Xz89 ?Tz89 ?ez89 ?vz89 ?nz89 ?_ ?az89 ?bz89; (case Fz89 => k_asm); (case Xz89 => k_asm); (case Tz89 => k_asm); (case az89 => rfl); (case bz89 => rfl); (case ez89 => k_is); (case vz89 => boot_fast); (case nz89 => decide); k_whole))))); (try dsimp only)))
  iterate 1 (first | (k_unfold; (try dsimp only)) | (k_end; wrow_close) | (walk1; (try dsimp only)) | (dsimp only; walk1; (try dsimp only)) | (leave1; walk_say "STEP leave1"; try dsimp only))
  (first | ((with_reducible (((k_here; (with_reducible show wpAny _ _ (subscriptTail _ _ (Value.ref _) (Value.int _ _)) _ _ _); k_dflt (first | refine my_item (by k_asm) (by walk_at "my mem") (by omega) (by omega) (by assumption) ?_ | refine my_last (by k_asm) (by walk_at "my mem") (by omega) (by omega) (by assumption) ?_))))); (try dsimp only)) | (dsimp only; (with_reducible (((k_here; (with_reducible show wpAny _ _ (subscriptTail _ _ (Value.ref _) (Value.int _ _)) _ _ _); k_dflt (first | refine my_item (by k_asm) (by walk_at "my mem") (by omega) (by omega) (by assumption) ?_ | refine my_last (by k_asm) (by walk_at "my mem") (by omega) (by omega) (by assumption) ?_))))); (try dsimp only)))
  iterate 3 (first | (k_unfold; (try dsimp only)) | (k_end; wrow_close) | (walk1; (try dsimp only)) | (dsimp only; walk1; (try dsimp only)) | (leave1; walk_say "STEP leave1"; try dsimp only))
  (first | ((with_reducible ((k_here; (with_reducible show wpAny _ _ (eval _ (envX _ _ _ _ _ _)) _ _ _); k_dflt (first | (refine' nameX_L ?Fz91 ?vz91 ?_ ?az91 ?bz91; (case Fz91 => k_asm); (case az91 => rfl); (case bz91 => rfl); (case vz91 => rfl); k_whole) | (refine' nameX_C ?Nz91 ?cz91 ?mz91 ?dz91 ?_ ?az91 ?bz91; (case az91 => rfl); (case bz91 => rfl); (case Nz91 => k_asm); (case cz91 => rfl); (case mz91 => walk_at "my mem"); (case dz91 => assumption); k_whole) | (refine' nameX_K ?Fz91 ?Xz91 ?Tz91 ?ez91 ?_ ?az91 ?bz91; (case Fz91 => k_asm); (case Xz91 => k_asm); (case Tz91 => k_asm); (case az91 => rfl); (case bz91 => rfl); (case ez91 => k_is); k_whole) | (refine' nameX_B ?Fz91 ?Xz91 ?Tz91 ?ez91 ?vz91 ?nz91 ?_ ?az91 ?bz91; (case Fz91 => k_asm); (case Xz91 => k_asm); (case Tz91 => k_asm); (case az91 => rfl); (case bz91 => rfl); (case ez91 => k_is); (case vz91 => boot_fast); (case nz91 => decide); k_whole))))); (try dsimp only)) | (dsimp only; (with_reducible ((k_here; (with_reducible show wpAny _ _ (eval _ (envX _ _ _ _ _ _)) _ _ _); k_dflt (first | (refine' nameX_L ?Fz91 ?vz91 ?_ ?az91 ?bz91; (case Fz91 => k_asm); (case az91 => rfl); (case bz91 => rfl); (case vz91 => rfl); k_whole) | (refine' nameX_C ?Nz91 ?cz91 ?mz91 ?dz91 ?_ ?az91 ?bz91; (case az91 => rfl); (case bz91 => rfl); (case Nz91 => k_asm); (case cz91 => rfl); (case mz91 => walk_at "my mem"); (case dz91 => assumption); k_whole) | (refine' nameX_K ?Fz91 ?Xz91 ?Tz91 ?ez91 ?_ ?az91 ?bz91; (case Fz91 => k_asm); (case Xz91 => k_asm); (case Tz91 => k_asm); (case az91 => rfl); (case bz91 => rfl); (case ez91 => k_is); k_whole) | (refine' nameX_B ?Fz91 ?Xz91 ?Tz91 ?ez91 ?vz91 ?nz91 ?_ ?az91 ?bz91; (case Fz91 => k_asm); (case Xz91 => k_asm); (case Tz91 => k_asm); (case az91 => rfl); (case bz91 => rfl); (case ez91 => k_is); (case vz91 => boot_fast); (case nz91 => decide); k_whole))))); (try dsimp only)))
  iterate 3 (first | (k_unfold; (try dsimp only)) | (k_end; wrow_close) | (walk1; (try dsimp only)) | (dsimp only; walk1; (try dsimp only)) | (leave1; walk_say "STEP leave1"; try dsimp only))
  (first | ((with_reducible (((k_here; (with_reducible show wpAny _ _ (subscriptTail _ _ (Value.ref _) (Value.int _ _)) _ _ _); k_dflt (first | refine my_item (by k_asm) (by walk_at "my mem") (by omega) (by omega) (by assumption) ?_ | refine my_last (by k_asm) (by walk_at "my mem") (by omega) (by omega) (by assumption) ?_))))); (try dsimp only)) | (dsimp only; (with_reducible (((k_here; (with_reducible show wpAny _ _ (subscriptTail _ _ (Value.ref _) (Value.int _ _)) _ _ _); k_dflt (first | refine my_item (by k_asm) (by walk_at "my mem") (by omega) (by omega) (by assumption) ?_ | refine my_last (by k_asm) (by walk_at "my mem") (by omega) (by omega) (by assumption) ?_))))); (try dsimp only)))
  (first | ((with_reducible ((k_here; (with_reducible show wpAny _ _ (eval _ (envX _ _ _ _ _ _)) _ _ _); k_dflt (first | (refine' nameX_L ?Fz93 ?vz93 ?_ ?az93 ?bz93; (case Fz93 => k_asm); (case az93 => rfl); (case bz93 => rfl); (case vz93 => rfl); k_whole) | (refine' nameX_C ?Nz93 ?cz93 ?mz93 ?dz93 ?_ ?az93 ?bz93; (case az93 => rfl); (case bz93 => rfl); (case Nz93 => k_asm); (case cz93 => rfl); (case mz93 => walk_at "my mem"); (case dz93 => assumption); k_whole) | (refine' nameX_K ?Fz93 ?Xz93 ?Tz93 ?ez93 ?_ ?az93 ?bz93; (case Fz93 => k_asm); (case Xz93 => k_asm); (case Tz93 => k_asm); (case az93 => rfl); (case bz93 => rfl); (case ez93 => k_is); k_whole) | (refine' nameX_B ?Fz93 ?Xz93 ?Tz93 ?ez93 ?vz93 ?nz93 ?_ ?az93 ?bz93; (case Fz93 => k_asm); (case Xz93 => k_asm); (case Tz93 => k_asm); (case az93 => rfl); (case bz93 => rfl); (case ez93 => k_is); (case vz93 => boot_fast); (case nz93 => decide); k_whole))))); (try dsimp only)) | (dsimp only; (with_reducible ((k_here; (with_reducible show wpAny _ _ (eval _ (envX _ _ _ _ _ _)) _ _ _); k_dflt (first | (refine' nameX_L ?Fz93 ?vz93 ?_ ?az93 ?bz93; (case Fz93 => k_asm); (case az93 => rfl); (case bz93 => rfl); (case vz93 => rfl); k_whole) | (refine' nameX_C ?Nz93 ?cz93 ?mz93 ?dz93 ?_ ?az93 ?bz93; (case az93 => rfl); (case bz93 => rfl); (case Nz93 => k_asm); (case cz93 => rfl); (case mz93 => walk_at "my mem"); (case dz93 => assumption); k_whole) | (refine' nameX_K ?Fz93 ?Xz93 ?Tz93 ?ez93 ?_ ?az93 ?bz93; (case Fz93 => k_asm); (case Xz93 => k_asm); (case Tz93 => k_asm); (case az93 => rfl); (case bz93 => rfl); (case ez93 => k_is); k_whole) | (refine' nameX_B ?Fz93 ?Xz93 ?Tz93 ?ez93 ?vz93 ?nz93 ?_ ?az93 ?bz93; (case Fz93 => k_asm); (case Xz93 => k_asm); (case Tz93 => k_asm); (case az93 => rfl); (case bz93 => rfl); (case ez93 => k_is); (case vz93 => boot_fast); (case nz93 => decide); k_whole))))); (try dsimp only)))
  iterate 1 (first | (k_unfold; (try dsimp only)) | (k_end; wrow_close) | (walk1; (try dsimp only)) | (dsimp only; walk1; (try dsimp only)) | (leave1; walk_say "STEP leave1"; try dsimp only))
  (first | ((with_reducible (((k_here; (with_reducible show wpAny _ _ (subscriptTail _ _ (Value.ref _) (Value.int _ _)) _ _ _); k_dflt (first | refine my_item (by k_asm) (by walk_at "my mem") (by omega) (by omega) (by assumption) ?_ | refine my_last (by k_asm) (by walk_at "my mem") (by omega) (by omega) (by assumption) ?_))))); (try dsimp only)) | (dsimp only; (with_reducible (((k_here; (with_reducible show wpAny _ _ (subscriptTail _ _ (Value.ref _) (Value.int _ _)) _ _ _); k_dflt (first | refine my_item (by k_asm) (by walk_at "my mem") (by omega) (by omega) (by assumption) ?_ | refine my_last (by k_asm) (by walk_at "my mem") (by omega) (by omega) (by assumption) ?_))))); (try dsimp only)))
  iterate 1 (first | (k_unfold; (try dsimp only)) | (k_end; wrow_close) | (walk1; (try dsimp only)) | (dsimp only; walk1; (try dsimp only)) | (leave1; walk_say "STEP leave1"; try dsimp only))
  (first | ((with_reducible ((k_here; (with_reducible show wpAny _ _ (eval _ (envX _ _ _ _ _ _)) _ _ _); k_dflt (first | (refine' nameX_L ?Fz95 ?vz95 ?_ ?az95 ?bz95; (case Fz95 => k_asm); (case az95 => rfl); (case bz95 => rfl); (case vz95 => rfl); k_whole) | (refine' nameX_C ?Nz95 ?cz95 ?mz95 ?dz95 ?_ ?az95 ?bz95; (case az95 => rfl); (case bz95 => rfl); (case Nz95 => k_asm); (case cz95 => rfl); (case mz95 => walk_at "my mem"); (case dz95 => assumption); k_whole) | (refine' nameX_K ?Fz95 ?Xz95 ?Tz95 ?ez95 ?_ ?az95 ?bz95; (case Fz95 => k_asm); (case Xz95 => k_asm); (case Tz95 => k_asm); (case az95 => rfl); (case bz95 => rfl); (case ez95 => k_is); k_whole) | (refine' nameX_B ?Fz95 ?Xz95 ?Tz95 ?ez95 ?vz95 ?nz95 ?_ ?az95 ?bz95; (case Fz95 => k_asm); (case Xz95 => k_asm); (case Tz95 => k_asm); (case az95 => rfl); (case bz95 => rfl); (case ez95 => k_is); (case vz95 => boot_fast); (case nz95 => decide); k_whole))))); (try dsimp only)) | (dsimp only; (with_reducible ((k_here; (with_reducible show wpAny _ _ (eval _ (envX _ _ _ _ _ _)) _ _ _); k_dflt (first | (refine' nameX_L ?Fz95 ?vz95 ?_ ?az95 ?bz95; (case Fz95 => k_asm); (case az95 => rfl); (case bz95 => rfl); (case vz95 => rfl); k_whole) | (refine' nameX_C ?Nz95 ?cz95 ?mz95 ?dz95 ?_ ?az95 ?bz95; (case az95 => rfl); (case bz95 => rfl); (case Nz95 => k_asm); (case cz95 => rfl); (case mz95 => walk_at "my mem"); (case dz95 => assumption); k_whole) | (refine' nameX_K ?Fz95 ?Xz95 ?Tz95 ?ez95 ?_ ?az95 ?bz95; (case Fz95 => k_asm); (case Xz95 => k_asm); (case Tz95 => k_asm); (case az95 => rfl); (case bz95 => rfl); (case ez95 => k_is); k_whole) | (refine' nameX_B ?Fz95 ?Xz95 ?Tz95 ?ez95 ?vz95 ?nz95 ?_ ?az95 ?bz95; (case Fz95 => k_asm); (case Xz95 => k_asm); (case Tz95 => k_asm); (case az95 => rfl); (case bz95 => rfl); (case ez95 => k_is); (case vz95 => boot_fast); (case nz95 => decide); k_whole))))); (try dsimp only)))
  iterate 2 (first | (k_unfold; (try dsimp only)) | (k_end; wrow_close) | (walk1; (try dsimp only)) | (dsimp only; walk1; (try dsimp only)) | (leave1; walk_say "STEP leave1"; try dsimp only))
  rename Fr _ _ _ _ => F1
  rename News _ _ _ _ => N1
  by_cases hx : wo = none ∨ ro = none
  · refine c_lookNone wo ro _ _ _ _ _ _ _ _ _ _ _ _ _ _ _ _ _ _ _ _ _ B F1 X N1 T rfl (rm2 hd (by decide)) (rm2 hu (by decide)) hx ?_
    intro h2 tk2 F2 N2
    clear F1 N1
    (try dsimp only); (try k_fold)
    iterate 6 (first | (k_unfold; (try dsimp only)) | (k_end; wrow_close) | (walk1; (try dsimp only)) | (dsimp only; walk1; (try dsimp only)) | (leave1; walk_say "STEP leave1"; try dsimp only))
    (first | ((with_reducible ((k_here; (with_reducible show wpAny _ _ (eval _ (envX _ _ _ _ _ _)) _ _ _); k_dflt (first | (refine' nameX_L ?Fz96 ?vz96 ?_ ?az96 ?bz96; (case Fz96 => k_asm); (case az96 => rfl); (case bz96 => rfl); (case vz96 => rfl); k_whole) | (refine' nameX_C ?Nz96 ?cz96 ?mz96 ?dz96 ?_ ?az96 ?bz96; (case az96 => rfl); (case bz96 => rfl); (case Nz96 => k_asm); (case cz96 => rfl); (case mz96 => walk_at "my mem"); (case dz96 => assumption); k_whole) | (refine' nameX_K ?Fz96 ?Xz96 ?Tz96 ?ez96 ?_ ?az96 ?bz96; (case Fz96 => k_asm); (case Xz96 => k_asm); (case Tz96 => k_asm); (case az96 => rfl); (case bz96 => rfl); (case ez96 => k_is); k_whole) | (refine' nameX_B ?Fz96 ?Xz96 ?Tz96 ?ez96 ?vz96 ?nz96 ?_ ?az96 ?bz96; (case Fz96 => k_asm); (case Xz96 => k_asm); (case Tz96 => k_asm); (case az96 => rfl); (case bz96 => rfl); (case ez96 => k_is); (case vz96 => boot_fast); (case nz96 => decide); k_whole))))); (try dsimp only)) | (dsimp only; (with_reducible ((k_here; (with_reducible show wpAny _ _ (eval _ (envX _ _ _ _ _ _)) _ _ _); k_dflt (first | (refine' nameX_L ?Fz96 ?vz96 ?_ ?az96 ?bz96; (case Fz96 => k_asm); (case az96 => rfl); (case bz96 => rfl); (case vz96 => rfl); k_whole) | (refine' nameX_C ?Nz96 ?cz96 ?mz96 ?dz96 ?_ ?az96 ?bz96; (case az96 => rfl); (case bz96 => rfl); (case Nz96 => k_asm); (case cz96 => rfl); (case mz96 => walk_at "my mem"); (case dz96 => assumption); k_whole) | (refine' nameX_K ?Fz96 ?Xz96 ?Tz96 ?ez96 ?_ ?az96 ?bz96; (case Fz96 => k_asm); (case Xz96 => k_asm); (case Tz96 => k_asm); (case az96 => rfl); (case bz96 => rfl); (case ez96 => k_is); k_whole) | (refine' nameX_B ?Fz96 ?Xz96 ?Tz96 ?ez96 ?vz96 ?nz96 ?_ ?az96 ?bz96; (case Fz96 => k_asm); (case Xz96 => k_asm); (case Tz96 => k_asm); (case az96 => rfl); (case bz96 => rfl); (case ez96 => k_is); (case vz96 => boot_fast); (case nz96 => decide); k_whole))))); (try dsimp only)))
    (first | ((with_reducible ((k_here; k_dflt (first | refine' callWith_K ?k1z97 ?k2z97 ?_; (case k1z97 => k_asm); (case k2z97 => k_is); k_whole | refine' callWith_KW ?k1z97 ?k2z97 ?k3z97 ?_; (case k1z97 => k_asm); (case k2z97 => k_is); (case k3z97 => exact rfl); k_whole)))); (try dsimp only)) | (dsimp only; (with_reducible ((k_here; k_dflt (first | refine' callWith_K ?k1z97 ?k2z97 ?_; (case k1z97 => k_asm); (case k2z97 => k_is); k_whole | refine' callWith_KW ?k1z97 ?k2z97 ?k3z97 ?_; (case k1z97 => k_asm); (case k2z97 => k_is); (case k3z97 => exact rfl); k_whole)))); (try dsimp only)))
    iterate 1 (first | (k_unfold; (try dsimp only)) | (k_end; wrow_close) | (walk1; (try dsimp only)) | (dsimp only; walk1; (try dsimp only)) | (leave1; walk_say "STEP leave1"; try dsimp only))
    (first | ((with_reducible ((k_here; (with_reducible show wpAny _ _ (eval _ (envX _ _ _ _ _ _)) _ _ _); k_dflt (first | (refine' nameX_L ?Fz98 ?vz98 ?_ ?az98 ?bz98; (case Fz98 => k_asm); (case az98 => rfl); (case bz98 => rfl); (case vz98 => rfl); k_whole) | (refine' nameX_C ?Nz98 ?cz98 ?mz98 ?dz98 ?_ ?az98 ?bz98; (case az98 => rfl); (case bz98 => rfl); (case Nz98 => k_asm); (case cz98 => rfl); (case mz98 => walk_at "my mem"); (case dz98 => assumption); k_whole) | (refine' nameX_K ?Fz98 ?Xz98 ?Tz98 ?ez98 ?_ ?az98 ?bz98; (case Fz98 => k_asm); (case Xz98 => k_asm); (case Tz98 => k_asm); (case az98 => rfl); (case bz98 => rfl); (case ez98 => k_is); k_whole) | (refine' nameX_B ?Fz98 ?Xz98 ?Tz98 ?ez98 ?vz98 ?nz98 ?_ ?az98 ?bz98; (case Fz98 => k_asm); (case Xz98 => k_asm); (case Tz98 => k_asm); (case az98 => rfl); (case bz98 => rfl); (case ez98 => k_is); (case vz98 => boot_fast); (case nz98 => decide); k_whole))))); (try dsimp only)) | (dsimp only; (with_reducible ((k_here; (with_reducible show wpAny _ _ (eval _ (envX _ _ _ _ _ _)) _ _ _); k_dflt (first | (refine' nameX_L ?Fz98 ?vz98 ?_ ?az98 ?bz98; (case Fz98 => k_asm); (case az98 => rfl); (case bz98 => rfl); (case vz98 => rfl); k_whole) | (refine' nameX_C ?Nz98 ?cz98 ?mz98 ?dz98 ?_ ?az98 ?bz98; (case az98 => rfl); (case bz98 => rfl); (case Nz98 => k_asm); (case cz98 => rfl); (case mz98 => walk_at "my mem"); (case dz98 => assumption); k_whole) | (refine' nameX_K ?Fz98 ?Xz98 ?Tz98 ?ez98 ?_ ?az98 ?bz98; (case Fz98 => k_asm); (case Xz98 => k_asm); (case Tz98 => k_asm); (case az98 => rfl); (case bz98 => rfl); (case ez98 => k_is); k_whole) | (refine' nameX_B ?Fz98 ?Xz98 ?Tz98 ?ez98 ?vz98 ?nz98 ?_ ?az98 ?bz98; (case Fz98 => k_asm); (case Xz98 => k_asm); (case Tz98 => k_asm); (case az98 => rfl); (case bz98 => rfl); (case ez98 => k_is); (case vz98 => boot_fast); (case nz98 => decide); k_whole))))); (try dsimp only)))
    iterate 1 (first | (k_unfold; (try dsimp only)) | (k_end; wrow_close) | (walk1; (try dsimp only)) | (dsimp only; walk1; (try dsimp only)) | (leave1; walk_say "STEP leave1"; try dsimp only))
    (first | ((with_reducible ((k_here; (with_reducible show wpAny _ _ (eval _ (envX _ _ _ _ _ _)) _ _ _); k_dflt (first | (refine' nameX_L ?Fz99 ?vz99 ?_ ?az99 ?bz99; (case Fz99 => k_asm); (case az99 => rfl); (case bz99 => rfl); (case vz99 => rfl); k_whole) | (refine' nameX_C ?Nz99 ?cz99 ?mz99 ?dz99 ?_ ?az99 ?bz99; (case az99 => rfl); (case bz99 => rfl); (case Nz99 => k_asm); (case cz99 => rfl); (case mz99 => walk_at "my mem"); (case dz99 => assumption); k_whole) | (refine' nameX_K ?Fz99 ?Xz99 ?Tz99 ?ez99 ?_ ?az99 ?bz99; (case Fz99 => k_asm); (case Xz99 => k_asm); (case Tz99 => k_asm); (case az99 => rfl); (case bz99 => rfl); (case ez99 => k_is); k_whole) | (refine' nameX_B ?Fz99 ?Xz99 ?Tz99 ?ez99 ?vz99 ?nz99 ?_ ?az99 ?bz99; (case Fz99 => k_asm); (case Xz99 => k_asm); (case Tz99 => k_asm); (case az99 => rfl); (case bz99 => rfl); (case ez99 => k_is); (case vz99 => boot_fast); (case nz99 => decide); k_whole))))); (try dsimp only)) | (dsimp only; (with_reducible ((k_here; (with_reducible show wpAny _ _ (eval _ (envX _ _ _ _ _ _)) _ _ _); k_dflt (first | (refine' nameX_L ?Fz99 ?vz99 ?_ ?az99 ?bz99; (case Fz99 => k_asm); (case az99 => rfl); (case bz99 => rfl); (case vz99 => rfl); k_whole) | (refine' nameX_C ?Nz99 ?cz99 ?mz99 ?dz99 ?_ ?az99 ?bz99; (case az99 => rfl); (case bz99 => rfl); (case Nz99 => k_asm); (case cz99 => rfl); (case mz99 => walk_at "my mem"); (case dz99 => assumption); k_whole) | (refine' nameX_K ?Fz99 ?Xz99 ?Tz99 ?ez99 ?_ ?az99 ?bz99; (case Fz99 => k_asm); (case Xz99 => k_asm); (case Tz99 => k_asm); (case az99 => rfl); (case bz99 => rfl); (case ez99 => k_is); k_whole) | (refine' nameX_B ?Fz99 ?Xz99 ?Tz99 ?ez99 ?vz99 ?nz99 ?_ ?az99 ?bz99; (case Fz99 => k_asm); (case Xz99 => k_asm); (case Tz99 => k_asm); (case az99 => rfl); (case bz99 => rfl); (case ez99 => k_is); (case vz99 => boot_fast); (case nz99 => decide); k_whole))))); (try dsimp only)))
    iterate 3 (first | (k_unfold; (try dsimp only)) | (k_end; wrow_close) | (walk1; (try dsimp only)) | (dsimp only; walk1; (try dsimp only)) | (leave1; walk_say "STEP leave1"; try dsimp only))
    (first | ((with_reducible ((k_here; (with_reducible show wpAny _ _ (eval _ (envX _ _ _ _ _ _)) _ _ _); k_dflt (first | (refine' nameX_L ?Fz100 ?vz100 ?_ ?az100 ?bz100; (case Fz100 => k_asm); (case az100 => rfl); (case bz100 => rfl); (case vz100 => rfl); k_whole) | (refine' nameX_C ?Nz100 ?cz100 ?mz100 ?dz100 ?_ ?az100 ?bz100; (case az100 => rfl); (case bz100 => rfl); (case Nz100 => k_asm); (case cz100 => rfl); (case mz100 => walk_at "my mem"); (case dz100 => assumption); k_whole) | (refine' nameX_K ?Fz100 ?Xz100 ?Tz100 ?ez100 ?_ ?az100 ?bz100; (case Fz100 => k_asm); (case Xz100 => k_asm); (case Tz100 => k_asm); (case az100 => rfl); (case bz100 => rfl); (case ez100 => k_is); k_whole) | (refine' nameX_B ?Fz100 ?Xz100 ?Tz100 ?ez100 ?vz100 ?nz100 ?_ ?az100 ?bz100; (case Fz100 => k_asm); (case Xz100 => k_asm); (case Tz100 => k_asm); (case az100 => rfl); (case bz100 => rfl); (case ez100 => k_is); (case vz100 => boot_fast); (case nz100 => decide); k_whole))))); (try dsimp only)) | (dsimp only; (with_reducible ((k_here; (with_reducible show wpAny _ _ (eval _ (envX _ _ _ _ _ _)) _ _ _); k_dflt (first | (refine' nameX_L ?Fz100 ?vz100 ?_ ?az100 ?bz100; (case Fz100 => k_asm); (case az100 => rfl); (case bz100 => rfl); (case vz100 => rfl); k_whole) | (refine' nameX_C ?Nz100 ?cz100 ?mz100 ?dz100 ?_ ?az100 ?bz100; (case az100 => rfl); (case bz100 => rfl); (case Nz100 => k_asm); (case cz100 => rfl); (case mz100 => walk_at "my mem"); (case dz100 => assumption); k_whole) | (refine' nameX_K ?Fz100 ?Xz100 ?Tz100 ?ez100 ?_ ?az100 ?bz100; (case Fz100 => k_asm); (case Xz100 => k_asm); (case Tz100 => k_asm); (case az100 => rfl); (case bz100 => rfl); (case ez100 => k_is); k_whole) | (refine' nameX_B ?Fz100 ?Xz100 ?Tz100 ?ez100 ?vz100 ?nz100 ?_ ?az100 ?bz100; (case Fz100 => k_asm); (case Xz100 => k_asm); (case Tz100 => k_asm); (case az100 => rfl); (case bz100 => rfl); (case ez100 => k_is); (case vz100 => boot_fast); (case nz100 => decide); k_whole))))); (try dsimp only)))
    iterate 3 (first | (k_unfold; (try dsimp only)) | (k_end; wrow_close) | (walk1; (try dsimp only)) | (dsimp only; walk1; (try dsimp only)) | (leave1; walk_say "STEP leave1"; try dsimp only))
    (first | ((with_reducible (((k_here; (with_reducible show wpAny _ _ (subscriptTail _ _ (Value.ref _) (Value.int _ _)) _ _ _); k_dflt (first | refine my_item (by k_asm) (by walk_at "my mem") (by omega) (by omega) (by assumption) ?_ | refine my_last (by k_asm) (by walk_at "my mem") (by omega) (by omega) (by assumption) ?_))))); (try dsimp only)) | (dsimp only; (with_reducible (((k_here; (with_reducible show wpAny _ _ (subscriptTail _ _ (Value.ref _) (Value.int _ _)) _ _ _); k_dflt (first | refine my_item (by k_asm) (by walk_at "my mem") (by omega) (by omega) (by assumption) ?_ | refine my_last (by k_asm) (by walk_at "my mem") (by omega) (by omega) (by assumption) ?_))))); (try dsimp only)))
    iterate 2 (first | (k_unfold; (try dsimp only)) | (k_end; wrow_close) | (walk1; (try dsimp only)) | (dsimp only; walk1; (try dsimp only)) | (leave1; walk_say "STEP leave1"; try dsimp only))
    rename Fr _ _ _ _ => F3
    rename News _ _ _ _ => N3
    refine c_nameNone u _ rA _ _ _ _ _ _ _ _ _ _ _ _ _ _ _ _ _ _ B F3 X N3 T rfl (rm2 hd (by decide)) (rm2 hu (by decide)) ?_
    intro tp ts h4 tk4 F4 N4 l4
    clear F3 N3
    (try dsimp only); (try k_fold)
    iterate 6 (first | (k_unfold; (try dsimp only)) | (k_end; wrow_close) | (walk1; (try dsimp only)) | (dsimp only; walk1; (try dsimp only)) | (leave1; walk_say "STEP leave1"; try dsimp only))
    (first | ((with_reducible ((k_here; (with_reducible show wpAny _ _ (eval _ (envX _ _ _ _ _ _)) _ _ _); k_dflt (first | (refine' nameX_L ?Fz102 ?vz102 ?_ ?az102 ?bz102; (case Fz102 => k_asm); (case az102 => rfl); (case bz102 => rfl); (case vz102 => rfl); k_whole) | (refine' nameX_C ?Nz102 ?cz102 ?mz102 ?dz102 ?_ ?az102 ?bz102; (case az102 => rfl); (case bz102 => rfl); (case Nz102 => k_asm); (case cz102 => rfl); (case mz102 => walk_at "my mem"); (case dz102 => assumption); k_whole) | (refine' nameX_K ?Fz102 ?Xz102 ?Tz102 ?ez102 ?_ ?az102 ?bz102; (case Fz102 => k_asm); (case Xz102 => k_asm); (case Tz102 => k_asm); (case az102 => rfl); (case bz102 => rfl); (case ez102 => k_is); k_whole) | (refine' nameX_B ?Fz102 ?Xz102 ?Tz102 ?ez102 ?vz102 ?nz102 ?_ ?az102 ?bz102; (case Fz102 => k_asm); (case Xz102 => k_asm); (case Tz102 => k_asm); (case az102 => rfl); (case bz102 => rfl); (case ez102 => k_is); (case vz102 => boot_fast); (case nz102 => decide); k_whole))))); (try dsimp only)) | (dsimp only; (with_reducible ((k_here; (with_reducible show wpAny _ _ (eval _ (envX _ _ _ _ _ _)) _ _ _); k_dflt (first | (refine' nameX_L ?Fz102 ?vz102 ?_ ?az102 ?bz102; (case Fz102 => k_asm); (case az102 => rfl); (case bz102 => rfl); (case vz102 => rfl); k_whole) | (refine' nameX_C ?Nz102 ?cz102 ?mz102 ?dz102 ?_ ?az102 ?bz102; (case az102 => rfl); (case bz102 => rfl); (case Nz102 => k_asm); (case cz102 => rfl); (case mz102 => walk_at "my mem"); (case dz102 => assumption); k_whole) | (refine' nameX_K ?Fz102 ?Xz102 ?Tz102 ?ez102 ?_ ?az102 ?bz102; (case Fz102 => k_asm); (case Xz102 => k_asm); (case Tz102 => k_asm); (case az102 => rfl); (case bz102 => rfl); (case ez102 => k_is); k_whole) | (refine' nameX_B ?Fz102 ?Xz102 ?Tz102 ?ez102 ?vz102 ?nz102 ?_ ?az102 ?bz102; (case Fz102 => k_asm); (case Xz102 => k_asm); (case Tz102 => k_asm); (case az102 => rfl); (case bz102 => rfl); (case ez102 => k_is); (case vz102 => boot_fast); (case nz102 => decide); k_whole))))); (try dsimp only)))
    iterate 10 (first | (k_unfold; (try dsimp only)) | (k_end; wrow_close) | (walk1; (try dsimp only)) | (dsimp only; walk1; (try dsimp only)) | (leave1; walk_say "STEP leave1"; try dsimp only))
    (first | ((with_reducible ((k_here; (with_reducible show wpAny _ _ (eval _ (envX _ _ _ _ _ _)) _ _ _); k_dflt (first | (refine' nameX_L ?Fz103 ?vz103 ?_ ?az103 ?bz103; (case Fz103 => k_asm); (case az103 => rfl); (case bz103 => rfl); (case vz103 => rfl); k_whole) | (refine' nameX_C ?Nz103 ?cz103 ?mz103 ?dz103 ?_ ?az103 ?bz103; (case az103 => rfl); (case bz103 => rfl); (case Nz103 => k_asm); (case cz103 => rfl); (case mz103 => walk_at "my mem"); (case dz103 => assumption); k_whole) | (refine' nameX_K ?Fz103 ?Xz103 ?Tz103 ?ez103 ?_ ?az103 ?bz103; (case Fz103 => k_asm); (case Xz103 => k_asm); (case Tz103 => k_asm); (case az103 => rfl); (case bz103 => rfl); (case ez103 => k_is); k_whole) | (refine' nameX_B ?Fz103 ?Xz103 ?Tz103 ?ez103 ?vz103 ?nz103 ?_ ?az103 ?bz103; (case Fz103 => k_asm); (case Xz103 => k_asm); (case Tz103 => k_asm); (case az103 => rfl); (case bz103 => rfl); (case ez103 => k_is); (case vz103 => boot_fast); (case nz103 => decide); k_whole))))); (try dsimp only)) | (dsimp only; (with_reducible ((k_here; (with_reducible show wpAny _ _ (eval _ (envX _ _ _ _ _ _)) _ _ _); k_dflt (first | (refine' nameX_L ?Fz103 ?vz103 ?_ ?az103 ?bz103; (case Fz103 => k_asm); (case az103 => rfl); (case bz103 => rfl); (case vz103 => rfl); k_whole) | (refine' nameX_C ?Nz103 ?cz103 ?mz103 ?dz103 ?_ ?az103 ?bz103; (case az103 => rfl); (case bz103 => rfl); (case Nz103 => k_asm); (case cz103 => rfl); (case mz103 => walk_at "my mem"); (case dz103 => assumption); k_whole) | (refine' nameX_K ?Fz103 ?Xz103 ?Tz103 ?ez103 ?_ ?az103 ?bz103; (case Fz103 => k_asm); (case Xz103 => k_asm); (case Tz103 => k_asm); (case az103 => rfl); (case bz103 => rfl); (case ez103 => k_is); k_whole) | (refine' nameX_B ?Fz103 ?Xz103 ?Tz103 ?ez103 ?vz103 ?nz103 ?_ ?az103 ?bz103; (case Fz103 => k_asm); (case Xz103 => k_asm); (case Tz103 => k_asm); (case az103 => rfl); (case bz103 => rfl); (case ez103 => k_is); (case vz103 => boot_fast); (case nz103 => decide); k_whole))))); (try dsimp only)))
    iterate 2 (first | (k_unfold; (try dsimp only)) | (k_end; wrow_close) | (walk1; (try dsimp only)) | (dsimp only; walk1; (try dsimp only)) | (leave1; walk_say "STEP leave1"; try dsimp only))
    (first | ((with_reducible ((k_here; (with_reducible show wpAny _ _ (eval _ (envX _ _ _ _ _ _)) _ _ _); k_dflt (first | (refine' nameX_L ?Fz104 ?vz104 ?_ ?az104 ?bz104; (case Fz104 => k_asm); (case az104 => rfl); (case bz104 => rfl); (case vz104 => rfl); k_whole) | (refine' nameX_C ?Nz104 ?cz104 ?mz104 ?dz104 ?_ ?az104 ?bz104; (case az104 => rfl); (case bz104 => rfl); (case Nz104 => k_asm); (case cz104 => rfl); (case mz104 => walk_at "my mem"); (case dz104 => assumption); k_whole) | (refine' nameX_K ?Fz104 ?Xz104 ?Tz104 ?ez104 ?_ ?az104 ?bz104; (case Fz104 => k_asm); (case Xz104 => k_asm); (case Tz104 => k_asm); (case az104 => rfl); (case bz104 => rfl); (case ez104 => k_is); k_whole) | (refine' nameX_B ?Fz104 ?Xz104 ?Tz104 ?ez104 ?vz104 ?nz104 ?_ ?az104 ?bz104; (case Fz104 => k_asm); (case Xz104 => k_asm); (case Tz104 => k_asm); (case az104 => rfl); (case bz104 => rfl); (case ez104 => k_is); (case vz104 => boot_fast); (case nz104 => decide); k_whole))))); (try dsimp only)) | (dsimp only; (with_reducible ((k_here; (with_reducible show wpAny _ _ (eval _ (envX _ _ _ _ _ _)) _ _ _); k_dflt (first | (refine' nameX_L ?Fz104 ?vz104 ?_ ?az104 ?bz104; (case Fz104 => k_asm); (case az104 => rfl); (case bz104 => rfl); (case vz104 => rfl); k_whole) | (refine' nameX_C ?Nz104 ?cz104 ?mz104 ?dz104 ?_ ?az104 ?bz104; (case az104 => rfl); (case bz104 => rfl); (case Nz104 => k_asm); (case cz104 => rfl); (case mz104 => walk_at "my mem"); (case dz104 => assumption); k_whole) | (refine' nameX_K ?Fz104 ?Xz104 ?Tz104 ?ez104 ?_ ?az104 ?bz104; (case Fz104 => k_asm); (case Xz104 => k_asm); (case Tz104 => k_asm); (case az104 => rfl); (case bz104 => rfl); (case ez104 => k_is); k_whole) | (refine' nameX_B ?Fz104 ?Xz104 ?Tz104 ?ez104 ?vz104 ?nz104 ?_ ?az104 ?bz104; (case Fz104 => k_asm); (case Xz104 => k_asm); (case Tz104 => k_asm); (case az104 => rfl); (case bz104 => rfl); (case ez104 => k_is); (case vz104 => boot_fast); (case nz104 => decide); k_whole))))); (try dsimp only)))
    iterate 1 (first | (k_unfold; (try dsimp only)) | (k_end; wrow_close) | (walk1; (try dsimp only)) | (dsimp only; walk1; (try dsimp only)) | (leave1; walk_say "STEP leave1"; try dsimp only))
    (first | ((with_reducible ((k_here; (with_reducible show wpAny _ _ (eval _ (envX _ _ _ _ _ _)) _ _ _); k_dflt (first | (refine' nameX_L ?Fz105 ?vz105 ?_ ?az105 ?bz105; (case Fz105 => k_asm); (case az105 => rfl); (case bz105 => rfl); (case vz105 => rfl); k_whole) | (refine' nameX_C ?Nz105 ?cz105 ?mz105 ?dz105 ?_ ?az105 ?bz105; (case az105 => rfl); (case bz105 => rfl); (case Nz105 => k_asm); (case cz105 => rfl); (case mz105 => walk_at "my mem"); (case dz105 => assumption); k_whole) | (refine' nameX_K ?Fz105 ?Xz105 ?Tz105 ?ez105 ?_ ?az105 ?bz105; (case Fz105 => k_asm); (case Xz105 => k_asm); (case Tz105 => k_asm); (case az105 => rfl); (case bz105 => rfl); (case ez105 => k_is); k_whole) | (refine' nameX_B ?Fz105 ?Xz105 ?Tz105 ?ez105 ?vz105 ?nz105 ?_ ?az105 ?bz105; (case Fz105 => k_asm); (case Xz105 => k_asm); (case Tz105 => k_asm); (case az105 => rfl); (case bz105 => rfl); (case ez105 => k_is); (case vz105 => boot_fast); (case nz105 => decide); k_whole))))); (try dsimp only)) | (dsimp only; (with_reducible ((k_here; (with_reducible show wpAny _ _ (eval _ (envX _ _ _ _ _ _)) _ _ _); k_dflt (first | (refine' nameX_L ?Fz105 ?vz105 ?_ ?az105 ?bz105; (case Fz105 => k_asm); (case az105 => rfl); (case bz105 => rfl); (case vz105 => rfl); k_whole) | (refine' nameX_C ?Nz105 ?cz105 ?mz105 ?dz105 ?_ ?az105 ?bz105; (case az105 => rfl); (case bz105 => rfl); (case Nz105 => k_asm); (case cz105 => rfl); (case mz105 => walk_at "my mem"); (case dz105 => assumption); k_whole) | (refine' nameX_K ?Fz105 ?Xz105 ?Tz105 ?ez105 ?_ ?az105 ?bz105; (case Fz105 => k_asm); (case Xz105 => k_asm); (case Tz105 => k_asm); (case az105 => rfl); (case bz105 => rfl); (case ez105 => k_is); k_whole) | (refine' nameX_B ?Fz105 ?Xz105 ?Tz105 ?ez105 ?vz105 ?nz105 ?_ ?az105 ?bz105; (case Fz105 => k_asm); (case Xz105 => k_asm); (case Tz105 => k_asm); (case az105 => rfl); (case bz105 => rfl); (case ez105 => k_is); (case vz105 => boot_fast); (case nz105 => decide); k_whole))))); (try dsimp only)))
    iterate 7 (first | (k_unfold; (try dsimp only)) | (k_end; wrow_close) | (walk1; (try dsimp only)) | (dsimp only; walk1; (try dsimp only)) | (leave1; walk_say "STEP leave1"; try dsimp only))
    (first | ((with_reducible ((k_here; (with_reducible show wpAny _ _ (eval _ (envX _ _ _ _ _ _)) _ _ _); k_dflt (first | (refine' nameX_L ?Fz106 ?vz106 ?_ ?az106 ?bz106; (case Fz106 => k_asm); (case az106 => rfl); (case bz106 => rfl); (case vz106 => rfl); k_whole) | (refine' nameX_C ?Nz106 ?cz106 ?mz106 ?dz106 ?_ ?az106 ?bz106; (case az106 => rfl); (case bz106 => rfl); (case Nz106 => k_asm); (case cz106 => rfl); (case mz106 => walk_at "my mem"); (case dz106 => assumption); k_whole) | (refine' nameX_K ?Fz106 ?Xz106 ?Tz106 ?ez106 ?_ ?az106 ?bz106; (case Fz106 => k_asm); (case Xz106 => k_asm); (case Tz106 => k_asm); (case az106 => rfl); (case bz106 => rfl); (case ez106 => k_is); k_whole) | (refine' nameX_B ?Fz106 ?Xz106 ?Tz106 ?ez106 ?vz106 ?nz106 ?_ ?az106 ?bz106; (case Fz106 => k_asm); (case Xz106 => k_asm); (case Tz106 => k_asm); (case az106 => rfl); (case bz106 => rfl); (case ez106 => k_is); (case vz106 => boot_fast); (case nz106 => decide); k_whole))))); (try dsimp only)) | (dsimp only; (with_reducible ((k_here; (with_reducible show wpAny _ _ (eval _ (envX _ _ _ _ _ _)) _ _ _); k_dflt (first | (refine' nameX_L ?Fz106 ?vz106 ?_ ?az106 ?bz106; (case Fz106 => k_asm); (case az106 => rfl); (case bz106 => rfl); (case vz106 => rfl); k_whole) | (refine' nameX_C ?Nz106 ?cz106 ?mz106 ?dz106 ?_ ?az106 ?bz106; (case az106 => rfl); (case bz106 => rfl); (case Nz106 => k_asm); (case cz106 => rfl); (case mz106 => walk_at "my mem"); (case dz106 => assumption); k_whole) | (refine' nameX_K ?Fz106 ?Xz106 ?Tz106 ?ez106 ?_ ?az106 ?bz106; (case Fz106 => k_asm); (case Xz106 => k_asm); (case Tz106 => k_asm); (case az106 => rfl); (case bz106 => rfl); (case ez106 => k_is); k_whole) | (refine' nameX_B ?Fz106 ?Xz106 ?Tz106 ?ez106 ?vz106 ?nz106 ?_ ?az106 ?bz106; (case Fz106 => k_asm); (case Xz106 => k_asm); (case Tz106 => k_asm); (case az106 => rfl); (case bz106 => rfl); (case ez106 => k_is); (case vz106 => boot_fast); (case nz106 => decide); k_whole))))); (try dsimp only)))
    iterate 2 (first | (k_unfold; (try dsimp only)) | (k_end; wrow_close) | (walk1; (try dsimp only)) | (dsimp only; walk1; (try dsimp only)) | (leave1; walk_say "STEP leave1"; try dsimp only))
    (first | ((with_reducible ((k_here; (with_reducible show wpAny _ _ (eval _ (envX _ _ _ _ _ _)) _ _ _); k_dflt (first | (refine' nameX_L ?Fz107 ?vz107 ?_ ?az107 ?bz107; (case Fz107 => k_asm); (case az107 => rfl); (case bz107 => rfl); (case vz107 => rfl); k_whole) | (refine' nameX_C ?Nz107 ?cz107 ?mz107 ?dz107 ?_ ?az107 ?bz107; (case az107 => rfl); (case bz107 => rfl); (case Nz107 => k_asm); (case cz107 => rfl); (case mz107 => walk_at "my mem"); (case dz107 => assumption); k_whole) | (refine' nameX_K ?Fz107 ?Xz107 ?Tz107 ?ez107 ?_ ?az107 ?bz107; (case Fz107 => k_asm); (case Xz107 => k_asm); (case Tz107 => k_asm); (case az107 => rfl); (case bz107 => rfl); (case ez107 => k_is); k_whole) | (refine' nameX_B ?Fz107 ?Xz107 ?Tz107 ?ez107 ?vz107 ?nz107 ?_ ?az107 ?bz107; (case Fz107 => k_asm); (case Xz107 => k_asm); (case Tz107 => k_asm); (case az107 => rfl); (case bz107 => rfl); (case ez107 => k_is); (case vz107 => boot_fast); (case nz107 => decide); k_whole))))); (try dsimp only)) | (dsimp only; (with_reducible ((k_here; (with_reducible show wpAny _ _ (eval _ (envX _ _ _ _ _ _)) _ _ _); k_dflt (first | (refine' nameX_L ?Fz107 ?vz107 ?_ ?az107 ?bz107; (case Fz107 => k_asm); (case az107 => rfl); (case bz107 => rfl); (case vz107 => rfl); k_whole) | (refine' nameX_C ?Nz107 ?cz107 ?mz107 ?dz107 ?_ ?az107 ?bz107; (case az107 => rfl); (case bz107 => rfl); (case Nz107 => k_asm); (case cz107 => rfl); (case mz107 => walk_at "my mem"); (case dz107 => assumption); k_whole) | (refine' nameX_K ?Fz107 ?Xz107 ?Tz107 ?ez107 ?_ ?az107 ?bz107; (case Fz107 => k_asm); (case Xz107 => k_asm); (case Tz107 => k_asm); (case az107 => rfl); (case bz107 => rfl); (case ez107 => k_is); k_whole) | (refine' nameX_B ?Fz107 ?Xz107 ?Tz107 ?ez107 ?vz107 ?nz107 ?_ ?az107 ?bz107; (case Fz107 => k_asm); (case Xz107 => k_asm); (case Tz107 => k_asm); (case az107 => rfl); (case bz107 => rfl); (case ez107 => k_is); (case vz107 => boot_fast); (case nz107 => decide); k_whole))))); (try dsimp only)))
    iterate 9 (first | (k_unfold; (try dsimp only)) | (k_end; wrow_close) | (walk1; (try dsimp only)) | (dsimp only; walk1; (try dsimp only)) | (leave1; walk_say "STEP leave1"; try dsimp only))
    (first | ((with_reducible ((k_here; (with_reducible show wpAny _ _ (eval _ (envX _ _ _ _ _ _)) _ _ _); k_dflt (first | (refine' nameX_L ?Fz108 ?vz108 ?_ ?az108 ?bz108; (case Fz108 => k_asm); (case az108 => rfl); (case bz108 => rfl); (case vz108 => rfl); k_whole) | (refine' nameX_C ?Nz108 ?cz108 ?mz108 ?dz108 ?_ ?az108 ?bz108; (case az108 => rfl); (case bz108 => rfl); (case Nz108 => k_asm); (case cz108 => rfl); (case mz108 => walk_at "my mem"); (case dz108 => assumption); k_whole) | (refine' nameX_K ?Fz108 ?Xz108 ?Tz108 ?ez108 ?_ ?az108 ?bz108; (case Fz108 => k_asm); (case Xz108 => k_asm); (case Tz108 => k_asm); (case az108 => rfl); (case bz108 => rfl); (case ez108 => k_is); k_whole) | (refine' nameX_B ?Fz108 ?Xz108 ?Tz108 ?ez108 ?vz108 ?nz108 ?_ ?az108 ?bz108; (case Fz108 => k_asm); (case Xz108 => k_asm); (case Tz108 => k_asm); (case az108 => rfl); (case bz108 => rfl); (case ez108 => k_is); (case vz108 => boot_fast); (case nz108 => decide); k_whole))))); (try dsimp only)) | (dsimp only; (with_reducible ((k_here; (with_reducible show wpAny _ _ (eval _ (envX _ _ _ _ _ _)) _ _ _); k_dflt (first | (refine' nameX_L ?Fz108 ?vz108 ?_ ?az108 ?bz108; (case Fz108 => k_asm); (case az108 => rfl); (case bz108 => rfl); (case vz108 => rfl); k_whole) | (refine' nameX_C ?Nz108 ?cz108 ?mz108 ?dz108 ?_ ?az108 ?bz108; (case az108 => rfl); (case bz108 => rfl); (case Nz108 => k_asm); (case cz108 => rfl); (case mz108 => walk_at "my mem"); (case dz108 => assumption); k_whole) | (refine' nameX_K ?Fz108 ?Xz108 ?Tz108 ?ez108 ?_ ?az108 ?bz108; (case Fz108 => k_asm); (case Xz108 => k_asm); (case Tz108 => k_asm); (case az108 => rfl); (case bz108 => rfl); (case ez108 => k_is); k_whole) | (refine' nameX_B ?Fz108 ?Xz108 ?Tz108 ?ez108 ?vz108 ?nz108 ?_ ?az108 ?bz108; (case Fz108 => k_asm); (case Xz108 => k_asm); (case Tz108 => k_asm); (case az108 => rfl); (case bz108 => rfl); (case ez108 => k_is); (case vz108 => boot_fast); (case nz108 => decide); k_whole))))); (try dsimp only)))
    iterate 1 (first | (k_unfold; (try dsimp only)) | (k_end; wrow_close) | (walk1; (try dsimp only)) | (dsimp only; walk1; (try dsimp only)) | (leave1; walk_say "STEP leave1"; try dsimp only))
    (first | ((with_reducible ((k_here; (with_reducible show wpAny _ _ (subscriptTail _ _ (Value.ref _) (Value.int _ _)) _ _ _); k_dflt (refine' item_tupleT ?tz109 ?az109 ?bz109 ?cz109 ?dz109 ?_; (case tz109 => exact News.isTup (by k_asm) (by walk_at "my mem")); (case az109 => decide); (case bz109 => decide); (case cz109 => rfl); (case dz109 => rfl); k_whole)))); (try dsimp only)) | (dsimp only; (with_reducible ((k_here; (with_reducible show wpAny _ _ (subscriptTail _ _ (Value.ref _) (Value.int _ _)) _ _ _); k_dflt (refine' item_tupleT ?tz109 ?az109 ?bz109 ?cz109 ?dz109 ?_; (case tz109 => exact News.isTup (by k_asm) (by walk_at "my mem")); (case az109 => decide); (case bz109 => decide); (case cz109 => rfl); (case dz109 => rfl); k_whole)))); (try dsimp only)))
    (first | ((with_reducible ((k_here; (with_reducible show wpAny _ _ (eval _ (envX _ _ _ _ _ _)) _ _ _); k_dflt (first | (refine' nameX_L ?Fz110 ?vz110 ?_ ?az110 ?bz110; (case Fz110 => k_asm); (case az110 => rfl); (case bz110 => rfl); (case vz110 => rfl); k_whole) | (refine' nameX_C ?Nz110 ?cz110 ?mz110 ?dz110 ?_ ?az110 ?bz110; (case az110 => rfl); (case bz110 => rfl); (case Nz110 => k_asm); (case cz110 => rfl); (case mz110 => walk_at "my mem"); (case dz110 => assumption); k_whole) | (refine' nameX_K ?Fz110 ?Xz110 ?Tz110 ?ez110 ?_ ?az110 ?bz110; (case Fz110 => k_asm); (case Xz110 => k_asm); (case Tz110 => k_asm); (case az110 => rfl); (case bz110 => rfl); (case ez110 => k_is); k_whole) | (refine' nameX_B ?Fz110 ?Xz110 ?Tz110 ?ez110 ?vz110 ?nz110 ?_ ?az110 ?bz110; (case Fz110 => k_asm); (case Xz110 => k_asm); (case Tz110 => k_asm); (case az110 => rfl); (case bz110 => rfl); (case ez110 => k_is); (case vz110 => boot_fast); (case nz110 => decide); k_whole))))); (try dsimp only)) | (dsimp only; (with_reducible ((k_here; (with_reducible show wpAny _ _ (eval _ (envX _ _ _ _ _ _)) _ _ _); k_dflt (first | (refine' nameX_L ?Fz110 ?vz110 ?_ ?az110 ?bz110; (case Fz110 => k_asm); (case az110 => rfl); (case bz110 => rfl); (case vz110 => rfl); k_whole) | (refine' nameX_C ?Nz110 ?cz110 ?mz110 ?dz110 ?_ ?az110 ?bz110; (case az110 => rfl); (case bz110 => rfl); (case Nz110 => k_asm); (case cz110 => rfl); (case mz110 => walk_at "my mem"); (case dz110 => assumption); k_whole) | (refine' nameX_K ?Fz110 ?Xz110 ?Tz110 ?ez110 ?_ ?az110 ?bz110; (case Fz110 => k_asm); (case Xz110 => k_asm); (case Tz110 => k_asm); (case az110 => rfl); (case bz110 => rfl); (case ez110 => k_is); k_whole) | (refine' nameX_B ?Fz110 ?Xz110 ?Tz110 ?ez110 ?vz110 ?nz110 ?_ ?az110 ?bz110; (case Fz110 => k_asm); (case Xz110 => k_asm); (case Tz110 => k_asm); (case az110 => rfl); (case bz110 => rfl); (case ez110 => k_is); (case vz110 => boot_fast); (case nz110 => decide); k_whole))))); (try dsimp only)))
    iterate 6 (first | (k_unfold; (try dsimp only)) | (k_end; wrow_close) | (walk1; (try dsimp only)) | (dsimp only; walk1; (try dsimp only)) | (leave1; walk_say "STEP leave1"; try dsimp only))
    (first | ((with_reducible ((k_here; (with_reducible show wpAny _ _ (eval _ (envX _ _ _ _ _ _)) _ _ _); k_dflt (first | (refine' nameX_L ?Fz111 ?vz111 ?_ ?az111 ?bz111; (case Fz111 => k_asm); (case az111 => rfl); (case bz111 => rfl); (case vz111 => rfl); k_whole) | (refine' nameX_C ?Nz111 ?cz111 ?mz111 ?dz111 ?_ ?az111 ?bz111; (case az111 => rfl); (case bz111 => rfl); (case Nz111 => k_asm); (case cz111 => rfl); (case mz111 => walk_at "my mem"); (case dz111 => assumption); k_whole) | (refine' nameX_K ?Fz111 ?Xz111 ?Tz111 ?ez111 ?_ ?az111 ?bz111; (case Fz111 => k_asm); (case Xz111 => k_asm); (case Tz111 => k_asm); (case az111 => rfl); (case bz111 => rfl); (case ez111 => k_is); k_whole) | (refine' nameX_B ?Fz111 ?Xz111 ?Tz111 ?ez111 ?vz111 ?nz111 ?_ ?az111 ?bz111; (case Fz111 => k_asm); (case Xz111 => k_asm); (case Tz111 => k_asm); (case az111 => rfl); (case bz111 => rfl); (case ez111 => k_is); (case vz111 => boot_fast); (case nz111 => decide); k_whole))))); (try dsimp only)) | (dsimp only; (with_reducible ((k_here; (with_reducible show wpAny _ _ (eval _ (envX _ _ _ _ _ _)) _ _ _); k_dflt (first | (refine' nameX_L ?Fz111 ?vz111 ?_ ?az111 ?bz111; (case Fz111 => k_asm); (case az111 => rfl); (case bz111 => rfl); (case vz111 => rfl); k_whole) | (refine' nameX_C ?Nz111 ?cz111 ?mz111 ?dz111 ?_ ?az111 ?bz111; (case az111 => rfl); (case bz111 => rfl); (case Nz111 => k_asm); (case cz111 => rfl); (case mz111 => walk_at "my mem"); (case dz111 => assumption); k_whole) | (refine' nameX_K ?Fz111 ?Xz111 ?Tz111 ?ez111 ?_ ?az111 ?bz111; (case Fz111 => k_asm); (case Xz111 => k_asm); (case Tz111 => k_asm); (case az111 => rfl); (case bz111 => rfl); (case ez111 => k_is); k_whole) | (refine' nameX_B ?Fz111 ?Xz111 ?Tz111 ?ez111 ?vz111 ?nz111 ?_ ?az111 ?bz111; (case Fz111 => k_asm); (case Xz111 => k_asm); (case Tz111 => k_asm); (case az111 => rfl); (case bz111 => rfl); (case ez111 => k_is); (case vz111 => boot_fast); (case nz111 => decide); k_whole))))); (try dsimp only)))
    iterate 1 (first | (k_unfold; (try dsimp only)) | (k_end; wrow_close) | (walk1; (try dsimp only)) | (dsimp only; walk1; (try dsimp only)) | (leave1; walk_say "STEP leave1"; try dsimp only))
    (first | ((with_reducible ((k_here; (with_reducible show wpAny _ _ (subscriptTail _ _ (Value.ref _) (Value.int _ _)) _ _ _); k_dflt (refine' item_tupleT ?tz112 ?az112 ?bz112 ?cz112 ?dz112 ?_; (case tz112 => exact News.isTup (by k_asm) (by walk_at "my mem")); (case az112 => decide); (case bz112 => decide); (case cz112 => rfl); (case dz112 => rfl); k_whole)))); (try dsimp only)) | (dsimp only; (with_reducible ((k_here; (with_reducible show wpAny _ _ (subscriptTail _ _ (Value.ref _) (Value.int _ _)) _ _ _); k_dflt (refine' item_tupleT ?tz112 ?az112 ?bz112 ?cz112 ?dz112 ?_; (case tz112 => exact News.isTup (by k_asm) (by walk_at "my mem")); (case az112 => decide); (case bz112 => decide); (case cz112 => rfl); (case dz112 => rfl); k_whole)))); (try dsimp only)))
    iterate 11 (first | (k_unfold; (try dsimp only)) | (k_end; wrow_close) | (walk1; (try dsimp only)) | (dsimp only; walk1; (try dsimp only)) | (leave1; walk_say "STEP leave1"; try dsimp only))
    (first | ((with_reducible ((k_here; (with_reducible show wpAny _ _ (eval _ (envX _ _ _ _ _ _)) _ _ _); k_dflt (first | (refine' nameX_L ?Fz113 ?vz113 ?_ ?az113 ?bz113; (case Fz113 => k_asm); (case az113 => rfl); (case bz113 => rfl); (case vz113 => rfl); k_whole) | (refine' nameX_C ?Nz113 ?cz113 ?mz113 ?dz113 ?_ ?az113 ?bz113; (case az113 => rfl); (case bz113 => rfl); (case Nz113 => k_asm); (case cz113 => rfl); (case mz113 => walk_at "my mem"); (case dz113 => assumption); k_whole) | (refine' nameX_K ?Fz113 ?Xz113 ?Tz113 ?ez113 ?_ ?az113 ?bz113; (case Fz113 => k_asm); (case Xz113 => k_asm); (case Tz113 => k_asm); (case az113 => rfl); (case bz113 => rfl); (case ez113 => k_is); k_whole) | (refine' nameX_B ?Fz113 ?Xz113 ?Tz113 ?ez113 ?vz113 ?nz113 ?_ ?az113 ?bz113; (case Fz113 => k_asm); (case Xz113 => k_asm); (case Tz113 => k_asm); (case az113 => rfl); (case bz113 => rfl); (case ez113 => k_is); (case vz113 => boot_fast); (case nz113 => decide); k_whole))))); (try dsimp only)) | (dsimp only; (with_reducible ((k_here; (with_reducible show wpAny _ _ (eval _ (envX _ _ _ _ _ _)) _ _ _); k_dflt (first | (refine' nameX_L ?Fz113 ?vz113 ?_ ?az113 ?bz113; (case Fz113 => k_asm); (case az113 => rfl); (case bz113 => rfl); (case vz113 => rfl); k_whole) | (refine' nameX_C ?Nz113 ?cz113 ?mz113 ?dz113 ?_ ?az113 ?bz113; (case az113 => rfl); (case bz113 => rfl); (case Nz113 => k_asm); (case cz113 => rfl); (case mz113 => walk_at "my mem"); (case dz113 => assumption); k_whole) | (refine' nameX_K ?Fz113 ?Xz113 ?Tz113 ?ez113 ?_ ?az113 ?bz113; (case Fz113 => k_asm); (case Xz113 => k_asm); (case Tz113 => k_asm); (case az113 => rfl); (case bz113 => rfl); (case ez113 => k_is); k_whole) | (refine' nameX_B ?Fz113 ?Xz113 ?Tz113 ?ez113 ?vz113 ?nz113 ?_ ?az113 ?bz113; (case Fz113 => k_asm); (case Xz113 => k_asm); (case Tz113 => k_asm); (case az113 => rfl); (case bz113 => rfl); (case ez113 => k_is); (case vz113 => boot_fast); (case nz113 => decide); k_whole))))); (try dsimp only)))
    iterate 5 (first | (k_unfold; (try dsimp only)) | (k_end; wrow_close) | (walk1; (try dsimp only)) | (dsimp only; walk1; (try dsimp only)) | (leave1; walk_say "STEP leave1"; try dsimp only))
    rename Fr _ _ _ _ => F5
    rename News _ _ _ _ => N5
    skip
    refine my_append [_] F5 N5 ?o1 nd.off ?sz ?_
    case o1 => exact List.forall_mem_cons.mpr ⟨Nat.ne_of_gt (l4 _ (.head _)), List.forall_mem_nil _⟩
    case sz => omega
    intro h6 F6 N6
    clear F5 N5
    (try dsimp only)
    iterate 2 (first | (k_unfold; (try dsimp only)) | (k_end; wrow_close) | (walk1; (try dsimp only)) | (dsimp only; walk1; (try dsimp only)) | (leave1; walk_say "STEP leave1"; try dsimp only))
    have e9 := addO_none hx
    refine hQ 0 av an ps codes _ _ _ ?av S ?names F6 ?N ?nd
    case av => rw [e9]; rfl
    case names => kst_all
    case N => rw [e9]; exact cb_drop N6 (fun p hp => .tail _ hp)
    case nd => exact nd
  · obtain ⟨wt, rfl⟩ : ∃ x, wo = some x := Option.ne_none_iff_exists'.mp fun e => hx (.inl e)
    obtain ⟨fd, rfl⟩ : ∃ x, ro = some x := Option.ne_none_iff_exists'.mp fun e => hx (.inr e)
    dsimp only [ov] at hw hr ⊢
    have N1' := news_perm N1 (l' := (107, tabObj ps) :: (codes ++ ((lA, listOf lv.toArray ln) :: (aA, listOf av.toArray an) :: rest))) permA
    have nd1 := nd.perm (l' := (107, tabObj ps) :: (codes ++ ((lA, listOf lv.toArray ln) :: (aA, listOf av.toArray an) :: rest))) permA
    refine c_look wt fd _ _ _ _ _ _ _ _ _ _ _ _ _ _ _ _ _ _ _ _ _ _ _ B F1 X C N1' S nd1 T rfl (rm2 hd (by decide)) (rm2 hu (by decide)) ?_
    intro f doc pm ctv cw ca ow oa c' oc vs t h2 tk2 dw da dc dv nd2 lf lcw lca l107 lcf lcaf F2 N2
    clear F1 N1 N1'
    (try dsimp only); (try k_fold)
    iterate 6 (first | (k_unfold; (try dsimp only)) | (k_end; wrow_close) | (walk1; (try dsimp only)) | (dsimp only; walk1; (try dsimp only)) | (leave1; walk_say "STEP leave1"; try dsimp only))
    (first | ((with_reducible ((k_here; (with_reducible show wpAny _ _ (eval _ (envX _ _ _ _ _ _)) _ _ _); k_dflt (first | (refine' nameX_L ?Fz114 ?vz114 ?_ ?az114 ?bz114; (case Fz114 => k_asm); (case az114 => rfl); (case bz114 => rfl); (case vz114 => rfl); k_whole) | (refine' nameX_C ?Nz114 ?cz114 ?mz114 ?dz114 ?_ ?az114 ?bz114; (case az114 => rfl); (case bz114 => rfl); (case Nz114 => k_asm); (case cz114 => rfl); (case mz114 => walk_at "my mem"); (case dz114 => assumption); k_whole) | (refine' nameX_K ?Fz114 ?Xz114 ?Tz114 ?ez114 ?_ ?az114 ?bz114; (case Fz114 => k_asm); (case Xz114 => k_asm); (case Tz114 => k_asm); (case az114 => rfl); (case bz114 => rfl); (case ez114 => k_is); k_whole) | (refine' nameX_B ?Fz114 ?Xz114 ?Tz114 ?ez114 ?vz114 ?nz114 ?_ ?az114 ?bz114; (case Fz114 => k_asm); (case Xz114 => k_asm); (case Tz114 => k_asm); (case az114 => rfl); (case bz114 => rfl); (case ez114 => k_is); (case vz114 => boot_fast); (case nz114 => decide); k_whole))))); (try dsimp only)) | (dsimp only; (with_reducible ((k_here; (with_reducible show wpAny _ _ (eval _ (envX _ _ _ _ _ _)) _ _ _); k_dflt (first | (refine' nameX_L ?Fz114 ?vz114 ?_ ?az114 ?bz114; (case Fz114 => k_asm); (case az114 => rfl); (case bz114 => rfl); (case vz114 => rfl); k_whole) | (refine' nameX_C ?Nz114 ?cz114 ?mz114 ?dz114 ?_ ?az114 ?bz114; (case az114 => rfl); (case bz114 => rfl); (case Nz114 => k_asm); (case cz114 => rfl); (case mz114 => walk_at "my mem"); (case dz114 => assumption); k_whole) | (refine' nameX_K ?Fz114 ?Xz114 ?Tz114 ?ez114 ?_ ?az114 ?bz114; (case Fz114 => k_asm); (case Xz114 => k_asm); (case Tz114 => k_asm); (case az114 => rfl); (case bz114 => rfl); (case ez114 => k_is); k_whole) | (refine' nameX_B ?Fz114 ?Xz114 ?Tz114 ?ez114 ?vz114 ?nz114 ?_ ?az114 ?bz114; (case Fz114 => k_asm); (case Xz114 => k_asm); (case Tz114 => k_asm); (case az114 => rfl); (case bz114 => rfl); (case ez114 => k_is); (case vz114 => boot_fast); (case nz114 => decide); k_whole))))); (try dsimp only)))
    (first | ((with_reducible ((k_here; k_dflt (first | refine' callWith_K ?k1z115 ?k2z115 ?_; (case k1z115 => k_asm); (case k2z115 => k_is); k_whole | refine' callWith_KW ?k1z115 ?k2z115 ?k3z115 ?_; (case k1z115 => k_asm); (case k2z115 => k_is); (case k3z115 => exact rfl); k_whole)))); (try dsimp only)) | (dsimp only; (with_reducible ((k_here; k_dflt (first | refine' callWith_K ?k1z115 ?k2z115 ?_; (case k1z115 => k_asm); (case k2z115 => k_is); k_whole | refine' callWith_KW ?k1z115 ?k2z115 ?k3z115 ?_; (case k1z115 => k_asm); (case k2z115 => k_is); (case k3z115 => exact rfl); k_whole)))); (try dsimp only)))
    iterate 1 (first | (k_unfold; (try dsimp only)) | (k_end; wrow_close) | (walk1; (try dsimp only)) | (dsimp only; walk1; (try dsimp only)) | (leave1; walk_say "STEP leave1"; try dsimp only))
    (first | ((with_reducible ((k_here; (with_reducible show wpAny _ _ (eval _ (envX _ _ _ _ _ _)) _ _ _); k_dflt (first | (refine' nameX_L ?Fz116 ?vz116 ?_ ?az116 ?bz116; (case Fz116 => k_asm); (case az116 => rfl); (case bz116 => rfl); (case vz116 => rfl); k_whole) | (refine' nameX_C ?Nz116 ?cz116 ?mz116 ?dz116 ?_ ?az116 ?bz116; (case az116 => rfl); (case bz116 => rfl); (case Nz116 => k_asm); (case cz116 => rfl); (case mz116 => walk_at "my mem"); (case dz116 => assumption); k_whole) | (refine' nameX_K ?Fz116 ?Xz116 ?Tz116 ?ez116 ?_ ?az116 ?bz116; (case Fz116 => k_asm); (case Xz116 => k_asm); (case Tz116 => k_asm); (case az116 => rfl); (case bz116 => rfl); (case ez116 => k_is); k_whole) | (refine' nameX_B ?Fz116 ?Xz116 ?Tz116 ?ez116 ?vz116 ?nz116 ?_ ?az116 ?bz116; (case Fz116 => k_asm); (case Xz116 => k_asm); (case Tz116 => k_asm); (case az116 => rfl); (case bz116 => rfl); (case ez116 => k_is); (case vz116 => boot_fast); (case nz116 => decide); k_whole))))); (try dsimp only)) | (dsimp only; (with_reducible ((k_here; (with_reducible show wpAny _ _ (eval _ (envX _ _ _ _ _ _)) _ _ _); k_dflt (first | (refine' nameX_L ?Fz116 ?vz116 ?_ ?az116 ?bz116; (case Fz116 => k_asm); (case az116 => rfl); (case bz116 => rfl); (case vz116 => rfl); k_whole) | (refine' nameX_C ?Nz116 ?cz116 ?mz116 ?dz116 ?_ ?az116 ?bz116; (case az116 => rfl); (case bz116 => rfl); (case Nz116 => k_asm); (case cz116 => rfl); (case mz116 => walk_at "my mem"); (case dz116 => assumption); k_whole) | (refine' nameX_K ?Fz116 ?Xz116 ?Tz116 ?ez116 ?_ ?az116 ?bz116; (case Fz116 => k_asm); (case Xz116 => k_asm); (case Tz116 => k_asm); (case az116 => rfl); (case bz116 => rfl); (case ez116 => k_is); k_whole) | (refine' nameX_B ?Fz116 ?Xz116 ?Tz116 ?ez116 ?vz116 ?nz116 ?_ ?az116 ?bz116; (case Fz116 => k_asm); (case Xz116 => k_asm); (case Tz116 => k_asm); (case az116 => rfl); (case bz116 => rfl); (case ez116 => k_is); (case vz116 => boot_fast); (case nz116 => decide); k_whole))))); (try dsimp only)))
    iterate 1 (first | (k_unfold; (try dsimp only)) | (k_end; wrow_close) | (walk1; (try dsimp only)) | (dsimp only; walk1; (try dsimp only)) | (leave1; walk_say "STEP leave1"; try dsimp only))
    (first | ((with_reducible ((k_here; (with_reducible show wpAny _ _ (eval _ (envX _ _ _ _ _ _)) _ _ _); k_dflt (first | (refine' nameX_L ?Fz117 ?vz117 ?_ ?az117 ?bz117; (case Fz117 => k_asm); (case az117 => rfl); (case bz117 => rfl); (case vz117 => rfl); k_whole) | (refine' nameX_C ?Nz117 ?cz117 ?mz117 ?dz117 ?_ ?az117 ?bz117; (case az117 => rfl); (case bz117 => rfl); (case Nz117 => k_asm); (case cz117 => rfl); (case mz117 => walk_at "my mem"); (case dz117 => assumption); k_whole) | (refine' nameX_K ?Fz117 ?Xz117 ?Tz117 ?ez117 ?_ ?az117 ?bz117; (case Fz117 => k_asm); (case Xz117 => k_asm); (case Tz117 => k_asm); (case az117 => rfl); (case bz117 => rfl); (case ez117 => k_is); k_whole) | (refine' nameX_B ?Fz117 ?Xz117 ?Tz117 ?ez117 ?vz117 ?nz117 ?_ ?az117 ?bz117; (case Fz117 => k_asm); (case Xz117 => k_asm); (case Tz117 => k_asm); (case az117 => rfl); (case bz117 => rfl); (case ez117 => k_is); (case vz117 => boot_fast); (case nz117 => decide); k_whole))))); (try dsimp only)) | (dsimp only; (with_reducible ((k_here; (with_reducible show wpAny _ _ (eval _ (envX _ _ _ _ _ _)) _ _ _); k_dflt (first | (refine' nameX_L ?Fz117 ?vz117 ?_ ?az117 ?bz117; (case Fz117 => k_asm); (case az117 => rfl); (case bz117 => rfl); (case vz117 => rfl); k_whole) | (refine' nameX_C ?Nz117 ?cz117 ?mz117 ?dz117 ?_ ?az117 ?bz117; (case az117 => rfl); (case bz117 => rfl); (case Nz117 => k_asm); (case cz117 => rfl); (case mz117 => walk_at "my mem"); (case dz117 => assumption); k_whole) | (refine' nameX_K ?Fz117 ?Xz117 ?Tz117 ?ez117 ?_ ?az117 ?bz117; (case Fz117 => k_asm); (case Xz117 => k_asm); (case Tz117 => k_asm); (case az117 => rfl); (case bz117 => rfl); (case ez117 => k_is); k_whole) | (refine' nameX_B ?Fz117 ?Xz117 ?Tz117 ?ez117 ?vz117 ?nz117 ?_ ?az117 ?bz117; (case Fz117 => k_asm); (case Xz117 => k_asm); (case Tz117 => k_asm); (case az117 => rfl); (case bz117 => rfl); (case ez117 => k_is); (case vz117 => boot_fast); (case nz117 => decide); k_whole))))); (try dsimp only)))
    iterate 3 (first | (k_unfold; (try dsimp only)) | (k_end; wrow_close) | (walk1; (try dsimp only)) | (dsimp only; walk1; (try dsimp only)) | (leave1; walk_say "STEP leave1"; try dsimp only))
    (first | ((with_reducible ((k_here; (with_reducible show wpAny _ _ (eval _ (envX _ _ _ _ _ _)) _ _ _); k_dflt (first | (refine' nameX_L ?Fz118 ?vz118 ?_ ?az118 ?bz118; (case Fz118 => k_asm); (case az118 => rfl); (case bz118 => rfl); (case vz118 => rfl); k_whole) | (refine' nameX_C ?Nz118 ?cz118 ?mz118 ?dz118 ?_ ?az118 ?bz118; (case az118 => rfl); (case bz118 => rfl); (case Nz118 => k_asm); (case cz118 => rfl); (case mz118 => walk_at "my mem"); (case dz118 => assumption); k_whole) | (refine' nameX_K ?Fz118 ?Xz118 ?Tz118 ?ez118 ?_ ?az118 ?bz118; (case Fz118 => k_asm); (case Xz118 => k_asm); (case Tz118 => k_asm); (case az118 => rfl); (case bz118 => rfl); (case ez118 => k_is); k_whole) | (refine' nameX_B ?Fz118 ?Xz118 ?Tz118 ?ez118 ?vz118 ?nz118 ?_ ?az118 ?bz118; (case Fz118 => k_asm); (case Xz118 => k_asm); (case Tz118 => k_asm); (case az118 => rfl); (case bz118 => rfl); (case ez118 => k_is); (case vz118 => boot_fast); (case nz118 => decide); k_whole))))); (try dsimp only)) | (dsimp only; (with_reducible ((k_here; (with_reducible show wpAny _ _ (eval _ (envX _ _ _ _ _ _)) _ _ _); k_dflt (first | (refine' nameX_L ?Fz118 ?vz118 ?_ ?az118 ?bz118; (case Fz118 => k_asm); (case az118 => rfl); (case bz118 => rfl); (case vz118 => rfl); k_whole) | (refine' nameX_C ?Nz118 ?cz118 ?mz118 ?dz118 ?_ ?az118 ?bz118; (case az118 => rfl); (case bz118 => rfl); (case Nz118 => k_asm); (case cz118 => rfl); (case mz118 => walk_at "my mem"); (case dz118 => assumption); k_whole) | (refine' nameX_K ?Fz118 ?Xz118 ?Tz118 ?ez118 ?_ ?az118 ?bz118; (case Fz118 => k_asm); (case Xz118 => k_asm); (case Tz118 => k_asm); (case az118 => rfl); (case bz118 => rfl); (case ez118 => k_is); k_whole) | (refine' nameX_B ?Fz118 ?Xz118 ?Tz118 ?ez118 ?vz118 ?nz118 ?_ ?az118 ?bz118; (case Fz118 => k_asm); (case Xz118 => k_asm); (case Tz118 => k_asm); (case az118 => rfl); (case bz118 => rfl); (case ez118 => k_is); (case vz118 => boot_fast); (case nz118 => decide); k_whole))))); (try dsimp only)))
    iterate 3 (first | (k_unfold; (try dsimp only)) | (k_end; wrow_close) | (walk1; (try dsimp only)) | (dsimp only; walk1; (try dsimp only)) | (leave1; walk_say "STEP leave1"; try dsimp only))
    (first | ((with_reducible (((k_here; (with_reducible show wpAny _ _ (subscriptTail _ _ (Value.ref _) (Value.int _ _)) _ _ _); k_dflt (first | refine my_item (by k_asm) (by walk_at "my mem") (by omega) (by omega) (by assumption) ?_ | refine my_last (by k_asm) (by walk_at "my mem") (by omega) (by omega) (by assumption) ?_))))); (try dsimp only)) | (dsimp only; (with_reducible (((k_here; (with_reducible show wpAny _ _ (subscriptTail _ _ (Value.ref _) (Value.int _ _)) _ _ _); k_dflt (first | refine my_item (by k_asm) (by walk_at "my mem") (by omega) (by omega) (by assumption) ?_ | refine my_last (by k_asm) (by walk_at "my mem") (by omega) (by omega) (by assumption) ?_))))); (try dsimp only)))
    iterate 2 (first | (k_unfold; (try dsimp only)) | (k_end; wrow_close) | (walk1; (try dsimp only)) | (dsimp only; walk1; (try dsimp only)) | (leave1; walk_say "STEP leave1"; try dsimp only))
    rename Fr _ _ _ _ => F3
    rename News _ _ _ _ => N3
    have mA : (aA, listOf av.toArray an) ∈ ((lA, listOf lv.toArray ln) :: (aA, listOf av.toArray an) :: rest) := .tail _ (.head _)
    have N3' := news_perm N3 (l' := (aA, listOf av.toArray an) :: (f, _) :: (cw, _) :: (ca, _) :: (107, _) :: (c', _) :: (lA, _) :: rest) permB
    have nA := (nd2.perm (l' := (aA, _) :: (107, _) :: (c', oc) :: (lA, _) :: rest) permC).off
    have off9 : ∀ p ∈ ((f, fnMade (Str.ofString "_law_lead") qLead (paramsOf leadDef) (bodyOf leadDef) (scopeOf leadDef) [(Str.ofString "weight", cw), (Str.ofString "asked", ca)] doc pm c' ctv) :: (cw, ow) :: (ca, oa) :: (107, tab3 c') :: (c', oc) :: (lA, listOf lv.toArray ln) :: rest), p.1 ≠ aA :=
      List.forall_mem_cons.mpr ⟨Nat.ne_of_gt (lf _ mA), List.forall_mem_cons.mpr ⟨Nat.ne_of_gt (lcw _ mA), List.forall_mem_cons.mpr ⟨Nat.ne_of_gt (lca _ mA), nA⟩⟩⟩
    refine' c_name (u := u) (fu := fd) (wt := wt) (vs := rv) (avs := av) (B := B) (F := ?aF) (X := X) (N := ?aN) (hoff := off9) (m1 := .head _) (m2 := .tail _ (.head _)) (m3 := .tail _ (.tail _ (.head _))) (m4 := .tail _ (.tail _ (.tail _ (.tail _ (.head _))))) (m5 := .tail _ (.tail _ (.tail _ (.tail _ (.tail _ (.tail _ m5)))))) (d2 := dw) (d3 := da) (d4 := dc) (d5 := dv) (T := T) (hcs := ?hcs) (hd := ?hd) (hu := ?hu) (hu0 := hu0) (hul := ?hul) (hv := hr) (hvl := ?hvl) (hal := ?hal) (hQ := ?hQn) (gd := _) (cn := _) (fa := _) (ccd := _) (cl := _) (E := _)
    case aF => exact F3
    case aN => exact N3'
    case hcs => rfl
    case hd => exact rm2 hd (by decide)
    case hu => exact rm2 hu (by decide)
    case hul => omega
    case hvl => omega
    case hal => omega
    intro tp r tr h4 tk4 er F4 N4 lt1 lt2
    subst er
    clear F3 N3 N3'
    (try dsimp only); (try k_fold)
    iterate 6 (first | (k_unfold; (try dsimp only)) | (k_end; wrow_close) | (walk1; (try dsimp only)) | (dsimp only; walk1; (try dsimp only)) | (leave1; walk_say "STEP leave1"; try dsimp only))
    (first | ((with_reducible ((k_here; (with_reducible show wpAny _ _ (eval _ (envX _ _ _ _ _ _)) _ _ _); k_dflt (first | (refine' nameX_L ?Fz120 ?vz120 ?_ ?az120 ?bz120; (case Fz120 => k_asm); (case az120 => rfl); (case bz120 => rfl); (case vz120 => rfl); k_whole) | (refine' nameX_C ?Nz120 ?cz120 ?mz120 ?dz120 ?_ ?az120 ?bz120; (case az120 => rfl); (case bz120 => rfl); (case Nz120 => k_asm); (case cz120 => rfl); (case mz120 => walk_at "my mem"); (case dz120 => assumption); k_whole) | (refine' nameX_K ?Fz120 ?Xz120 ?Tz120 ?ez120 ?_ ?az120 ?bz120; (case Fz120 => k_asm); (case Xz120 => k_asm); (case Tz120 => k_asm); (case az120 => rfl); (case bz120 => rfl); (case ez120 => k_is); k_whole) | (refine' nameX_B ?Fz120 ?Xz120 ?Tz120 ?ez120 ?vz120 ?nz120 ?_ ?az120 ?bz120; (case Fz120 => k_asm); (case Xz120 => k_asm); (case Tz120 => k_asm); (case az120 => rfl); (case bz120 => rfl); (case ez120 => k_is); (case vz120 => boot_fast); (case nz120 => decide); k_whole))))); (try dsimp only)) | (dsimp only; (with_reducible ((k_here; (with_reducible show wpAny _ _ (eval _ (envX _ _ _ _ _ _)) _ _ _); k_dflt (first | (refine' nameX_L ?Fz120 ?vz120 ?_ ?az120 ?bz120; (case Fz120 => k_asm); (case az120 => rfl); (case bz120 => rfl); (case vz120 => rfl); k_whole) | (refine' nameX_C ?Nz120 ?cz120 ?mz120 ?dz120 ?_ ?az120 ?bz120; (case az120 => rfl); (case bz120 => rfl); (case Nz120 => k_asm); (case cz120 => rfl); (case mz120 => walk_at "my mem"); (case dz120 => assumption); k_whole) | (refine' nameX_K ?Fz120 ?Xz120 ?Tz120 ?ez120 ?_ ?az120 ?bz120; (case Fz120 => k_asm); (case Xz120 => k_asm); (case Tz120 => k_asm); (case az120 => rfl); (case bz120 => rfl); (case ez120 => k_is); k_whole) | (refine' nameX_B ?Fz120 ?Xz120 ?Tz120 ?ez120 ?vz120 ?nz120 ?_ ?az120 ?bz120; (case Fz120 => k_asm); (case Xz120 => k_asm); (case Tz120 => k_asm); (case az120 => rfl); (case bz120 => rfl); (case ez120 => k_is); (case vz120 => boot_fast); (case nz120 => decide); k_whole))))); (try dsimp only)))
    iterate 7 (first | (k_unfold; (try dsimp only)) | (k_end; wrow_close) | (walk1; (try dsimp only)) | (dsimp only; walk1; (try dsimp only)) | (leave1; walk_say "STEP leave1"; try dsimp only))
    (first | ((with_reducible ((k_here; (with_reducible show wpAny _ _ (eval _ (envX _ _ _ _ _ _)) _ _ _); k_dflt (first | (refine' nameX_L ?Fz121 ?vz121 ?_ ?az121 ?bz121; (case Fz121 => k_asm); (case az121 => rfl); (case bz121 => rfl); (case vz121 => rfl); k_whole) | (refine' nameX_C ?Nz121 ?cz121 ?mz121 ?dz121 ?_ ?az121 ?bz121; (case az121 => rfl); (case bz121 => rfl); (case Nz121 => k_asm); (case cz121 => rfl); (case mz121 => walk_at "my mem"); (case dz121 => assumption); k_whole) | (refine' nameX_K ?Fz121 ?Xz121 ?Tz121 ?ez121 ?_ ?az121 ?bz121; (case Fz121 => k_asm); (case Xz121 => k_asm); (case Tz121 => k_asm); (case az121 => rfl); (case bz121 => rfl); (case ez121 => k_is); k_whole) | (refine' nameX_B ?Fz121 ?Xz121 ?Tz121 ?ez121 ?vz121 ?nz121 ?_ ?az121 ?bz121; (case Fz121 => k_asm); (case Xz121 => k_asm); (case Tz121 => k_asm); (case az121 => rfl); (case bz121 => rfl); (case ez121 => k_is); (case vz121 => boot_fast); (case nz121 => decide); k_whole))))); (try dsimp only)) | (dsimp only; (with_reducible ((k_here; (with_reducible show wpAny _ _ (eval _ (envX _ _ _ _ _ _)) _ _ _); k_dflt (first | (refine' nameX_L ?Fz121 ?vz121 ?_ ?az121 ?bz121; (case Fz121 => k_asm); (case az121 => rfl); (case bz121 => rfl); (case vz121 => rfl); k_whole) | (refine' nameX_C ?Nz121 ?cz121 ?mz121 ?dz121 ?_ ?az121 ?bz121; (case az121 => rfl); (case bz121 => rfl); (case Nz121 => k_asm); (case cz121 => rfl); (case mz121 => walk_at "my mem"); (case dz121 => assumption); k_whole) | (refine' nameX_K ?Fz121 ?Xz121 ?Tz121 ?ez121 ?_ ?az121 ?bz121; (case Fz121 => k_asm); (case Xz121 => k_asm); (case Tz121 => k_asm); (case az121 => rfl); (case bz121 => rfl); (case ez121 => k_is); k_whole) | (refine' nameX_B ?Fz121 ?Xz121 ?Tz121 ?ez121 ?vz121 ?nz121 ?_ ?az121 ?bz121; (case Fz121 => k_asm); (case Xz121 => k_asm); (case Tz121 => k_asm); (case az121 => rfl); (case bz121 => rfl); (case ez121 => k_is); (case vz121 => boot_fast); (case nz121 => decide); k_whole))))); (try dsimp only)))
    iterate 6 (first | (k_unfold; (try dsimp only)) | (k_end; wrow_close) | (walk1; (try dsimp only)) | (dsimp only; walk1; (try dsimp only)) | (leave1; walk_say "STEP leave1"; try dsimp only))
    (first | ((with_reducible ((k_here; (with_reducible show wpAny _ _ (eval _ (envX _ _ _ _ _ _)) _ _ _); k_dflt (first | (refine' nameX_L ?Fz122 ?vz122 ?_ ?az122 ?bz122; (case Fz122 => k_asm); (case az122 => rfl); (case bz122 => rfl); (case vz122 => rfl); k_whole) | (refine' nameX_C ?Nz122 ?cz122 ?mz122 ?dz122 ?_ ?az122 ?bz122; (case az122 => rfl); (case bz122 => rfl); (case Nz122 => k_asm); (case cz122 => rfl); (case mz122 => walk_at "my mem"); (case dz122 => assumption); k_whole) | (refine' nameX_K ?Fz122 ?Xz122 ?Tz122 ?ez122 ?_ ?az122 ?bz122; (case Fz122 => k_asm); (case Xz122 => k_asm); (case Tz122 => k_asm); (case az122 => rfl); (case bz122 => rfl); (case ez122 => k_is); k_whole) | (refine' nameX_B ?Fz122 ?Xz122 ?Tz122 ?ez122 ?vz122 ?nz122 ?_ ?az122 ?bz122; (case Fz122 => k_asm); (case Xz122 => k_asm); (case Tz122 => k_asm); (case az122 => rfl); (case bz122 => rfl); (case ez122 => k_is); (case vz122 => boot_fast); (case nz122 => decide); k_whole))))); (try dsimp only)) | (dsimp only; (with_reducible ((k_here; (with_reducible show wpAny _ _ (eval _ (envX _ _ _ _ _ _)) _ _ _); k_dflt (first | (refine' nameX_L ?Fz122 ?vz122 ?_ ?az122 ?bz122; (case Fz122 => k_asm); (case az122 => rfl); (case bz122 => rfl); (case vz122 => rfl); k_whole) | (refine' nameX_C ?Nz122 ?cz122 ?mz122 ?dz122 ?_ ?az122 ?bz122; (case az122 => rfl); (case bz122 => rfl); (case Nz122 => k_asm); (case cz122 => rfl); (case mz122 => walk_at "my mem"); (case dz122 => assumption); k_whole) | (refine' nameX_K ?Fz122 ?Xz122 ?Tz122 ?ez122 ?_ ?az122 ?bz122; (case Fz122 => k_asm); (case Xz122 => k_asm); (case Tz122 => k_asm); (case az122 => rfl); (case bz122 => rfl); (case ez122 => k_is); k_whole) | (refine' nameX_B ?Fz122 ?Xz122 ?Tz122 ?ez122 ?vz122 ?nz122 ?_ ?az122 ?bz122; (case Fz122 => k_asm); (case Xz122 => k_asm); (case Tz122 => k_asm); (case az122 => rfl); (case bz122 => rfl); (case ez122 => k_is); (case vz122 => boot_fast); (case nz122 => decide); k_whole))))); (try dsimp only)))
    iterate 3 (first | (k_unfold; (try dsimp only)) | (k_end; wrow_close) | (walk1; (try dsimp only)) | (dsimp only; walk1; (try dsimp only)) | (leave1; walk_say "STEP leave1"; try dsimp only))
    (first | ((with_reducible (((k_here; (with_reducible show wpAny _ _ (subscriptTail _ _ (Value.ref _) (Value.int _ _)) _ _ _); k_dflt (first | refine my_item (by k_asm) (by walk_at "my mem") (by omega) (by omega) (by assumption) ?_ | refine my_last (by k_asm) (by walk_at "my mem") (by omega) (by omega) (by assumption) ?_))))); (try dsimp only)) | (dsimp only; (with_reducible (((k_here; (with_reducible show wpAny _ _ (subscriptTail _ _ (Value.ref _) (Value.int _ _)) _ _ _); k_dflt (first | refine my_item (by k_asm) (by walk_at "my mem") (by omega) (by omega) (by assumption) ?_ | refine my_last (by k_asm) (by walk_at "my mem") (by omega) (by omega) (by assumption) ?_))))); (try dsimp only)))
    (first | ((with_reducible ((k_here; (with_reducible show wpAny _ _ (eval _ (envX _ _ _ _ _ _)) _ _ _); k_dflt (first | (refine' nameX_L ?Fz124 ?vz124 ?_ ?az124 ?bz124; (case Fz124 => k_asm); (case az124 => rfl); (case bz124 => rfl); (case vz124 => rfl); k_whole) | (refine' nameX_C ?Nz124 ?cz124 ?mz124 ?dz124 ?_ ?az124 ?bz124; (case az124 => rfl); (case bz124 => rfl); (case Nz124 => k_asm); (case cz124 => rfl); (case mz124 => walk_at "my mem"); (case dz124 => assumption); k_whole) | (refine' nameX_K ?Fz124 ?Xz124 ?Tz124 ?ez124 ?_ ?az124 ?bz124; (case Fz124 => k_asm); (case Xz124 => k_asm); (case Tz124 => k_asm); (case az124 => rfl); (case bz124 => rfl); (case ez124 => k_is); k_whole) | (refine' nameX_B ?Fz124 ?Xz124 ?Tz124 ?ez124 ?vz124 ?nz124 ?_ ?az124 ?bz124; (case Fz124 => k_asm); (case Xz124 => k_asm); (case Tz124 => k_asm); (case az124 => rfl); (case bz124 => rfl); (case ez124 => k_is); (case vz124 => boot_fast); (case nz124 => decide); k_whole))))); (try dsimp only)) | (dsimp only; (with_reducible ((k_here; (with_reducible show wpAny _ _ (eval _ (envX _ _ _ _ _ _)) _ _ _); k_dflt (first | (refine' nameX_L ?Fz124 ?vz124 ?_ ?az124 ?bz124; (case Fz124 => k_asm); (case az124 => rfl); (case bz124 => rfl); (case vz124 => rfl); k_whole) | (refine' nameX_C ?Nz124 ?cz124 ?mz124 ?dz124 ?_ ?az124 ?bz124; (case az124 => rfl); (case bz124 => rfl); (case Nz124 => k_asm); (case cz124 => rfl); (case mz124 => walk_at "my mem"); (case dz124 => assumption); k_whole) | (refine' nameX_K ?Fz124 ?Xz124 ?Tz124 ?ez124 ?_ ?az124 ?bz124; (case Fz124 => k_asm); (case Xz124 => k_asm); (case Tz124 => k_asm); (case az124 => rfl); (case bz124 => rfl); (case ez124 => k_is); k_whole) | (refine' nameX_B ?Fz124 ?Xz124 ?Tz124 ?ez124 ?vz124 ?nz124 ?_ ?az124 ?bz124; (case Fz124 => k_asm); (case Xz124 => k_asm); (case Tz124 => k_asm); (case az124 => rfl); (case bz124 => rfl); (case ez124 => k_is); (case vz124 => boot_fast); (case nz124 => decide); k_whole))))); (try dsimp only)))
    iterate 1 (first | (k_unfold; (try dsimp only)) | (k_end; wrow_close) | (walk1; (try dsimp only)) | (dsimp only; walk1; (try dsimp only)) | (leave1; walk_say "STEP leave1"; try dsimp only))
    (first | ((with_reducible (((k_here; (with_reducible show wpAny _ _ (subscriptTail _ _ (Value.ref _) (Value.int _ _)) _ _ _); k_dflt (first | refine my_item (by k_asm) (by walk_at "my mem") (by omega) (by omega) (by assumption) ?_ | refine my_last (by k_asm) (by walk_at "my mem") (by omega) (by omega) (by assumption) ?_))))); (try dsimp only)) | (dsimp only; (with_reducible (((k_here; (with_reducible show wpAny _ _ (subscriptTail _ _ (Value.ref _) (Value.int _ _)) _ _ _); k_dflt (first | refine my_item (by k_asm) (by walk_at "my mem") (by omega) (by omega) (by assumption) ?_ | refine my_last (by k_asm) (by walk_at "my mem") (by omega) (by omega) (by assumption) ?_))))); (try dsimp only)))
    iterate 1 (first | (k_unfold; (try dsimp only)) | (k_end; wrow_close) | (walk1; (try dsimp only)) | (dsimp only; walk1; (try dsimp only)) | (leave1; walk_say "STEP leave1"; try dsimp only))
    (first | ((with_reducible ((k_here; (with_reducible show wpAny _ _ (eval _ (envX _ _ _ _ _ _)) _ _ _); k_dflt (first | (refine' nameX_L ?Fz126 ?vz126 ?_ ?az126 ?bz126; (case Fz126 => k_asm); (case az126 => rfl); (case bz126 => rfl); (case vz126 => rfl); k_whole) | (refine' nameX_C ?Nz126 ?cz126 ?mz126 ?dz126 ?_ ?az126 ?bz126; (case az126 => rfl); (case bz126 => rfl); (case Nz126 => k_asm); (case cz126 => rfl); (case mz126 => walk_at "my mem"); (case dz126 => assumption); k_whole) | (refine' nameX_K ?Fz126 ?Xz126 ?Tz126 ?ez126 ?_ ?az126 ?bz126; (case Fz126 => k_asm); (case Xz126 => k_asm); (case Tz126 => k_asm); (case az126 => rfl); (case bz126 => rfl); (case ez126 => k_is); k_whole) | (refine' nameX_B ?Fz126 ?Xz126 ?Tz126 ?ez126 ?vz126 ?nz126 ?_ ?az126 ?bz126; (case Fz126 => k_asm); (case Xz126 => k_asm); (case Tz126 => k_asm); (case az126 => rfl); (case bz126 => rfl); (case ez126 => k_is); (case vz126 => boot_fast); (case nz126 => decide); k_whole))))); (try dsimp only)) | (dsimp only; (with_reducible ((k_here; (with_reducible show wpAny _ _ (eval _ (envX _ _ _ _ _ _)) _ _ _); k_dflt (first | (refine' nameX_L ?Fz126 ?vz126 ?_ ?az126 ?bz126; (case Fz126 => k_asm); (case az126 => rfl); (case bz126 => rfl); (case vz126 => rfl); k_whole) | (refine' nameX_C ?Nz126 ?cz126 ?mz126 ?dz126 ?_ ?az126 ?bz126; (case az126 => rfl); (case bz126 => rfl); (case Nz126 => k_asm); (case cz126 => rfl); (case mz126 => walk_at "my mem"); (case dz126 => assumption); k_whole) | (refine' nameX_K ?Fz126 ?Xz126 ?Tz126 ?ez126 ?_ ?az126 ?bz126; (case Fz126 => k_asm); (case Xz126 => k_asm); (case Tz126 => k_asm); (case az126 => rfl); (case bz126 => rfl); (case ez126 => k_is); k_whole) | (refine' nameX_B ?Fz126 ?Xz126 ?Tz126 ?ez126 ?vz126 ?nz126 ?_ ?az126 ?bz126; (case Fz126 => k_asm); (case Xz126 => k_asm); (case Tz126 => k_asm); (case az126 => rfl); (case bz126 => rfl); (case ez126 => k_is); (case vz126 => boot_fast); (case nz126 => decide); k_whole))))); (try dsimp only)))
    iterate 3 (first | (k_unfold; (try dsimp only)) | (k_end; wrow_close) | (walk1; (try dsimp only)) | (dsimp only; walk1; (try dsimp only)) | (leave1; walk_say "STEP leave1"; try dsimp only))
    (first | ((with_reducible ((k_here; (with_reducible show wpAny _ _ (eval _ (envX _ _ _ _ _ _)) _ _ _); k_dflt (first | (refine' nameX_L ?Fz127 ?vz127 ?_ ?az127 ?bz127; (case Fz127 => k_asm); (case az127 => rfl); (case bz127 => rfl); (case vz127 => rfl); k_whole) | (refine' nameX_C ?Nz127 ?cz127 ?mz127 ?dz127 ?_ ?az127 ?bz127; (case az127 => rfl); (case bz127 => rfl); (case Nz127 => k_asm); (case cz127 => rfl); (case mz127 => walk_at "my mem"); (case dz127 => assumption); k_whole) | (refine' nameX_K ?Fz127 ?Xz127 ?Tz127 ?ez127 ?_ ?az127 ?bz127; (case Fz127 => k_asm); (case Xz127 => k_asm); (case Tz127 => k_asm); (case az127 => rfl); (case bz127 => rfl); (case ez127 => k_is); k_whole) | (refine' nameX_B ?Fz127 ?Xz127 ?Tz127 ?ez127 ?vz127 ?nz127 ?_ ?az127 ?bz127; (case Fz127 => k_asm); (case Xz127 => k_asm); (case Tz127 => k_asm); (case az127 => rfl); (case bz127 => rfl); (case ez127 => k_is); (case vz127 => boot_fast); (case nz127 => decide); k_whole))))); (try dsimp only)) | (dsimp only; (with_reducible ((k_here; (with_reducible show wpAny _ _ (eval _ (envX _ _ _ _ _ _)) _ _ _); k_dflt (first | (refine' nameX_L ?Fz127 ?vz127 ?_ ?az127 ?bz127; (case Fz127 => k_asm); (case az127 => rfl); (case bz127 => rfl); (case vz127 => rfl); k_whole) | (refine' nameX_C ?Nz127 ?cz127 ?mz127 ?dz127 ?_ ?az127 ?bz127; (case az127 => rfl); (case bz127 => rfl); (case Nz127 => k_asm); (case cz127 => rfl); (case mz127 => walk_at "my mem"); (case dz127 => assumption); k_whole) | (refine' nameX_K ?Fz127 ?Xz127 ?Tz127 ?ez127 ?_ ?az127 ?bz127; (case Fz127 => k_asm); (case Xz127 => k_asm); (case Tz127 => k_asm); (case az127 => rfl); (case bz127 => rfl); (case ez127 => k_is); k_whole) | (refine' nameX_B ?Fz127 ?Xz127 ?Tz127 ?ez127 ?vz127 ?nz127 ?_ ?az127 ?bz127; (case Fz127 => k_asm); (case Xz127 => k_asm); (case Tz127 => k_asm); (case az127 => rfl); (case bz127 => rfl); (case ez127 => k_is); (case vz127 => boot_fast); (case nz127 => decide); k_whole))))); (try dsimp only)))
    iterate 1 (first | (k_unfold; (try dsimp only)) | (k_end; wrow_close) | (walk1; (try dsimp only)) | (dsimp only; walk1; (try dsimp only)) | (leave1; walk_say "STEP leave1"; try dsimp only))
    (first | ((with_reducible ((k_here; (with_reducible show wpAny _ _ (eval _ (envX _ _ _ _ _ _)) _ _ _); k_dflt (first | (refine' nameX_L ?Fz128 ?vz128 ?_ ?az128 ?bz128; (case Fz128 => k_asm); (case az128 => rfl); (case bz128 => rfl); (case vz128 => rfl); k_whole) | (refine' nameX_C ?Nz128 ?cz128 ?mz128 ?dz128 ?_ ?az128 ?bz128; (case az128 => rfl); (case bz128 => rfl); (case Nz128 => k_asm); (case cz128 => rfl); (case mz128 => walk_at "my mem"); (case dz128 => assumption); k_whole) | (refine' nameX_K ?Fz128 ?Xz128 ?Tz128 ?ez128 ?_ ?az128 ?bz128; (case Fz128 => k_asm); (case Xz128 => k_asm); (case Tz128 => k_asm); (case az128 => rfl); (case bz128 => rfl); (case ez128 => k_is); k_whole) | (refine' nameX_B ?Fz128 ?Xz128 ?Tz128 ?ez128 ?vz128 ?nz128 ?_ ?az128 ?bz128; (case Fz128 => k_asm); (case Xz128 => k_asm); (case Tz128 => k_asm); (case az128 => rfl); (case bz128 => rfl); (case ez128 => k_is); (case vz128 => boot_fast); (case nz128 => decide); k_whole))))); (try dsimp only)) | (dsimp only; (with_reducible ((k_here; (with_reducible show wpAny _ _ (eval _ (envX _ _ _ _ _ _)) _ _ _); k_dflt (first | (refine' nameX_L ?Fz128 ?vz128 ?_ ?az128 ?bz128; (case Fz128 => k_asm); (case az128 => rfl); (case bz128 => rfl); (case vz128 => rfl); k_whole) | (refine' nameX_C ?Nz128 ?cz128 ?mz128 ?dz128 ?_ ?az128 ?bz128; (case az128 => rfl); (case bz128 => rfl); (case Nz128 => k_asm); (case cz128 => rfl); (case mz128 => walk_at "my mem"); (case dz128 => assumption); k_whole) | (refine' nameX_K ?Fz128 ?Xz128 ?Tz128 ?ez128 ?_ ?az128 ?bz128; (case Fz128 => k_asm); (case Xz128 => k_asm); (case Tz128 => k_asm); (case az128 => rfl); (case bz128 => rfl); (case ez128 => k_is); k_whole) | (refine' nameX_B ?Fz128 ?Xz128 ?Tz128 ?ez128 ?vz128 ?nz128 ?_ ?az128 ?bz128; (case Fz128 => k_asm); (case Xz128 => k_asm); (case Tz128 => k_asm); (case az128 => rfl); (case bz128 => rfl); (case ez128 => k_is); (case vz128 => boot_fast); (case nz128 => decide); k_whole))))); (try dsimp only)))
    iterate 1 (first | (k_unfold; (try dsimp only)) | (k_end; wrow_close) | (walk1; (try dsimp only)) | (dsimp only; walk1; (try dsimp only)) | (leave1; walk_say "STEP leave1"; try dsimp only))
    (first | ((with_reducible (((k_here; (with_reducible show wpAny _ _ (subscriptTail _ _ (Value.ref _) (Value.int _ _)) _ _ _); k_dflt (first | refine my_item (by k_asm) (by walk_at "my mem") (by omega) (by omega) (by assumption) ?_ | refine my_last (by k_asm) (by walk_at "my mem") (by omega) (by omega) (by assumption) ?_))))); (try dsimp only)) | (dsimp only; (with_reducible (((k_here; (with_reducible show wpAny _ _ (subscriptTail _ _ (Value.ref _) (Value.int _ _)) _ _ _); k_dflt (first | refine my_item (by k_asm) (by walk_at "my mem") (by omega) (by omega) (by assumption) ?_ | refine my_last (by k_asm) (by walk_at "my mem") (by omega) (by omega) (by assumption) ?_))))); (try dsimp only)))
    iterate 4 (first | (k_unfold; (try dsimp only)) | (k_end; wrow_close) | (walk1; (try dsimp only)) | (dsimp only; walk1; (try dsimp only)) | (leave1; walk_say "STEP leave1"; try dsimp only))
    rename Fr _ _ _ _ => F5
    rename News _ _ _ _ => N5
    refine mul_tup2 F5 N5 (.head _) ?_
    intro D6 h6 F6 N6 l6
    clear F5 N5
    (try dsimp only)
    iterate 7 (first | (k_unfold; (try dsimp only)) | (k_end; wrow_close) | (walk1; (try dsimp only)) | (dsimp only; walk1; (try dsimp only)) | (leave1; walk_say "STEP leave1"; try dsimp only))
    (first | ((with_reducible ((k_here; (with_reducible show wpAny _ _ (eval _ (envX _ _ _ _ _ _)) _ _ _); k_dflt (first | (refine' nameX_L ?Fz130 ?vz130 ?_ ?az130 ?bz130; (case Fz130 => k_asm); (case az130 => rfl); (case bz130 => rfl); (case vz130 => rfl); k_whole) | (refine' nameX_C ?Nz130 ?cz130 ?mz130 ?dz130 ?_ ?az130 ?bz130; (case az130 => rfl); (case bz130 => rfl); (case Nz130 => k_asm); (case cz130 => rfl); (case mz130 => walk_at "my mem"); (case dz130 => assumption); k_whole) | (refine' nameX_K ?Fz130 ?Xz130 ?Tz130 ?ez130 ?_ ?az130 ?bz130; (case Fz130 => k_asm); (case Xz130 => k_asm); (case Tz130 => k_asm); (case az130 => rfl); (case bz130 => rfl); (case ez130 => k_is); k_whole) | (refine' nameX_B ?Fz130 ?Xz130 ?Tz130 ?ez130 ?vz130 ?nz130 ?_ ?az130 ?bz130; (case Fz130 => k_asm); (case Xz130 => k_asm); (case Tz130 => k_asm); (case az130 => rfl); (case bz130 => rfl); (case ez130 => k_is); (case vz130 => boot_fast); (case nz130 => decide); k_whole))))); (try dsimp only)) | (dsimp only; (with_reducible ((k_here; (with_reducible show wpAny _ _ (eval _ (envX _ _ _ _ _ _)) _ _ _); k_dflt (first | (refine' nameX_L ?Fz130 ?vz130 ?_ ?az130 ?bz130; (case Fz130 => k_asm); (case az130 => rfl); (case bz130 => rfl); (case vz130 => rfl); k_whole) | (refine' nameX_C ?Nz130 ?cz130 ?mz130 ?dz130 ?_ ?az130 ?bz130; (case az130 => rfl); (case bz130 => rfl); (case Nz130 => k_asm); (case cz130 => rfl); (case mz130 => walk_at "my mem"); (case dz130 => assumption); k_whole) | (refine' nameX_K ?Fz130 ?Xz130 ?Tz130 ?ez130 ?_ ?az130 ?bz130; (case Fz130 => k_asm); (case Xz130 => k_asm); (case Tz130 => k_asm); (case az130 => rfl); (case bz130 => rfl); (case ez130 => k_is); k_whole) | (refine' nameX_B ?Fz130 ?Xz130 ?Tz130 ?ez130 ?vz130 ?nz130 ?_ ?az130 ?bz130; (case Fz130 => k_asm); (case Xz130 => k_asm); (case Tz130 => k_asm); (case az130 => rfl); (case bz130 => rfl); (case ez130 => k_is); (case vz130 => boot_fast); (case nz130 => decide); k_whole))))); (try dsimp only)))
    iterate 4 (first | (k_unfold; (try dsimp only)) | (k_end; wrow_close) | (walk1; (try dsimp only)) | (dsimp only; walk1; (try dsimp only)) | (leave1; walk_say "STEP leave1"; try dsimp only))
    (first | ((with_reducible ((k_here; (with_reducible show wpAny _ _ (eval _ (envX _ _ _ _ _ _)) _ _ _); k_dflt (first | (refine' nameX_L ?Fz131 ?vz131 ?_ ?az131 ?bz131; (case Fz131 => k_asm); (case az131 => rfl); (case bz131 => rfl); (case vz131 => rfl); k_whole) | (refine' nameX_C ?Nz131 ?cz131 ?mz131 ?dz131 ?_ ?az131 ?bz131; (case az131 => rfl); (case bz131 => rfl); (case Nz131 => k_asm); (case cz131 => rfl); (case mz131 => walk_at "my mem"); (case dz131 => assumption); k_whole) | (refine' nameX_K ?Fz131 ?Xz131 ?Tz131 ?ez131 ?_ ?az131 ?bz131; (case Fz131 => k_asm); (case Xz131 => k_asm); (case Tz131 => k_asm); (case az131 => rfl); (case bz131 => rfl); (case ez131 => k_is); k_whole) | (refine' nameX_B ?Fz131 ?Xz131 ?Tz131 ?ez131 ?vz131 ?nz131 ?_ ?az131 ?bz131; (case Fz131 => k_asm); (case Xz131 => k_asm); (case Tz131 => k_asm); (case az131 => rfl); (case bz131 => rfl); (case ez131 => k_is); (case vz131 => boot_fast); (case nz131 => decide); k_whole))))); (try dsimp only)) | (dsimp only; (with_reducible ((k_here; (with_reducible show wpAny _ _ (eval _ (envX _ _ _ _ _ _)) _ _ _); k_dflt (first | (refine' nameX_L ?Fz131 ?vz131 ?_ ?az131 ?bz131; (case Fz131 => k_asm); (case az131 => rfl); (case bz131 => rfl); (case vz131 => rfl); k_whole) | (refine' nameX_C ?Nz131 ?cz131 ?mz131 ?dz131 ?_ ?az131 ?bz131; (case az131 => rfl); (case bz131 => rfl); (case Nz131 => k_asm); (case cz131 => rfl); (case mz131 => walk_at "my mem"); (case dz131 => assumption); k_whole) | (refine' nameX_K ?Fz131 ?Xz131 ?Tz131 ?ez131 ?_ ?az131 ?bz131; (case Fz131 => k_asm); (case Xz131 => k_asm); (case Tz131 => k_asm); (case az131 => rfl); (case bz131 => rfl); (case ez131 => k_is); k_whole) | (refine' nameX_B ?Fz131 ?Xz131 ?Tz131 ?ez131 ?vz131 ?nz131 ?_ ?az131 ?bz131; (case Fz131 => k_asm); (case Xz131 => k_asm); (case Tz131 => k_asm); (case az131 => rfl); (case bz131 => rfl); (case ez131 => k_is); (case vz131 => boot_fast); (case nz131 => decide); k_whole))))); (try dsimp only)))
    iterate 1 (first | (k_unfold; (try dsimp only)) | (k_end; wrow_close) | (walk1; (try dsimp only)) | (dsimp only; walk1; (try dsimp only)) | (leave1; walk_say "STEP leave1"; try dsimp only))
    (first | ((with_reducible ((k_here; (with_reducible show wpAny _ _ (subscriptTail _ _ (Value.ref _) (Value.int _ _)) _ _ _); k_dflt (refine' item_tupleT ?tz132 ?az132 ?bz132 ?cz132 ?dz132 ?_; (case tz132 => exact News.isTup (by k_asm) (by walk_at "my mem")); (case az132 => decide); (case bz132 => decide); (case cz132 => rfl); (case dz132 => rfl); k_whole)))); (try dsimp only)) | (dsimp only; (with_reducible ((k_here; (with_reducible show wpAny _ _ (subscriptTail _ _ (Value.ref _) (Value.int _ _)) _ _ _); k_dflt (refine' item_tupleT ?tz132 ?az132 ?bz132 ?cz132 ?dz132 ?_; (case tz132 => exact News.isTup (by k_asm) (by walk_at "my mem")); (case az132 => decide); (case bz132 => decide); (case cz132 => rfl); (case dz132 => rfl); k_whole)))); (try dsimp only)))
    iterate 1 (first | (k_unfold; (try dsimp only)) | (k_end; wrow_close) | (walk1; (try dsimp only)) | (dsimp only; walk1; (try dsimp only)) | (leave1; walk_say "STEP leave1"; try dsimp only))
    rename Fr _ _ _ _ => F7
    rename News _ _ _ _ => N7
    have nd3 : Nd ((lA, listOf lv.toArray ln) :: (aA, listOf (av ++ [Value.int u tu]).toArray (an + 1)) :: (107, tab3 c') :: (c', oc) :: rest) := nd2.perm (l' := (lA, listOf lv.toArray ln) :: (aA, listOf av.toArray an) :: (107, tab3 c') :: (c', oc) :: rest) permD
    have N7' : News h₀ L _ ([] ++ (lA, listOf lv.toArray ln) :: (aA, listOf (av ++ [Value.int u tu]).toArray (an + 1)) :: (107, tab3 c') :: (c', oc) :: rest) := cb_drop N7 (List.forall_mem_cons.mpr ⟨by walk_at "my mem", List.forall_mem_cons.mpr ⟨by walk_at "my mem", List.forall_mem_cons.mpr ⟨by walk_at "my mem", List.forall_mem_cons.mpr ⟨by walk_at "my mem", fun p hp => by walk_at "my mem"⟩⟩⟩⟩)
    refine my_append [] F7 N7' (List.forall_mem_nil _) nd3.off (by omega) ?_
    intro h8 F8 N8
    (try dsimp only)
    iterate 4 (first | (k_unfold; (try dsimp only)) | (k_end; wrow_close) | (walk1; (try dsimp only)) | (dsimp only; walk1; (try dsimp only)) | (leave1; walk_say "STEP leave1"; try dsimp only))
    refine hQ tr (av ++ [Value.int u tu]) (an + 1) #[rawInt (posOf leadDef).line, rawInt (posOf leadDef).col, .ref c'] [(c', oc)] _ _ _ rfl (.made c' oc vs t dc dv) ?names2 F8 ?aN nd3
    case aN => exact N8
    case names2 => kst_all
end

end
-- L2
section
example : True := by w_top off; exact trivial
noncomputable def leadO (ws rs : List (Option Int)) (j u : Nat) : Option Int := addO (rs.getD u none) (ws.getD (3 * u + j) none)
noncomputable def leadsL (ws rs : List (Option Int)) (j n : Nat) : List (Option Int) := (List.range n).map (leadO ws rs j)
noncomputable def askedL (ws rs : List (Option Int)) (j n : Nat) : List Int := ((List.range n).filter fun u => (leadO ws rs j u).isSome).map Int.ofNat
theorem ovGet : ∀ {os : List (Option Int)} {vs : List Value} {k : Nat}, OvL os vs → k < os.length → ∃ t, vs[k]? = some (ov (os.getD k none) t)
  | _, _, 0, .cons (t := t) _, _ => ⟨t, rfl⟩
  | _, _, k + 1, .cons h, hk => by
    obtain ⟨t, e⟩ := ovGet (k := k) h (Nat.lt_of_succ_lt_succ hk)
    exact ⟨t, by simpa using e⟩
inductive JU (ws rs : List (Option Int)) (j : Nat) (lA aA wk rwA : Addr) (tv : Tok) (R : Led) (i : Nat) (m₁ : Names) (nw : Led) : Prop
  | mk : ∀ lv av ln an ps codes, (OvL (leadsL ws rs j i) lv) → (IntsAre av (askedL ws rs j i)) → (TabSt leadDef qLead ps codes) → ((∀ p ∈ [(Str.ofString "walks", Value.ref wk), (Str.ofString "row", Value.ref rwA), (Str.ofString "v", Value.int (0 + (j : Int)) tv), (Str.ofString "asked", Value.ref aA)], m₁ p.1 = some p.2)) → (nw = (lA, listOf lv.toArray ln) :: (aA, listOf av.toArray an) :: (107, tabObj ps) :: (codes ++ R)) → (Nd nw) → JU ws rs j lA aA wk rwA tv R i m₁ nw


theorem permE {α : Type} {a l c t : α} {cs r : List α} : (a :: l :: c :: t :: (cs ++ r)).Perm (l :: a :: t :: (cs ++ c :: r)) := by
  refine (List.Perm.swap l a _).trans (.cons l (.cons a ?_))
  refine (List.Perm.swap t c _).trans (.cons t ?_)
  exact List.perm_middle.symm
theorem permF {α : Type} {I a l t : α} {cs r : List α} : (I :: l :: a :: t :: (cs ++ r)).Perm (l :: a :: t :: (cs ++ I :: r)) := by
  refine (List.Perm.swap l I _).trans (.cons l ?_)
  refine (List.Perm.swap a I _).trans (.cons a ?_)
  refine (List.Perm.swap t I _).trans (.cons t ?_)
  exact List.perm_middle.symm
theorem leadsL_succ (ws rs : List (Option Int)) (j i : Nat) : leadsL ws rs j (i + 1) = leadsL ws rs j i ++ [leadO ws rs j i] := by
  simp only [leadsL, List.range_succ, List.map_append, List.map_cons, List.map_nil]
theorem askedL_succ (ws rs : List (Option Int)) (j i : Nat) : askedL ws rs j (i + 1) = askedL ws rs j i ++ (if (leadO ws rs j i).isSome then [(0 + (i : Int))] else []) := by
  simp only [askedL, List.range_succ, List.filter_append, List.map_append, List.filter_cons, List.filter_nil]
  split <;> simp
theorem askedL_len (ws rs : List (Option Int)) (j i : Nat) : (askedL ws rs j i).length ≤ i := by
  simp only [askedL, List.length_map]
  exact Nat.le_trans (List.length_filter_le _ _) (by simp)
section
variable {w : World} {p : Program} {loose : List Str} {mean : ExcName → Option Value} {mg mb : Str → Option Value}
theorem t_v1 (j : Nat) (tv : Tok) (ws rs : List (Option Int)) (wD wk rA rwA : Addr) (wv wkv rv : List Value) (wn wkn rn : Nat) (o1 o2 : Obj) (c2 : Option Value) (ps : Array Value) (codes rest : Led) (dp un : Nat) (gd : Option (List Code)) (fa : Addr) (ccd : Value) (outer : List Env) (A₀ : Around) (base h₀ : Heap) (L : Addr) (m : Str → Option Value) (s : Shared) (Q : Flow → Shared → Prop) (E : Value → Shared → Prop) (restS : List Stmt)
    (B : Below A₀ base outer h₀) (F : Fr h₀ L s.heap m) (X : (Mine.hd.heap_39 w.params).In h₀) (T : Top p loose mean mg mb h₀) (C : CodeHd base 111 107) (S : TabSt leadDef qLead ps codes)
    (N : News h₀ L s.heap ((L + 1 + 1, o2) :: (107, tabObj ps) :: (codes ++ rest))) (nd : Nd ((L + 1 + 1, o2) :: (107, tabObj ps) :: (codes ++ rest)))
    (hd : dp + 300 < recursionLimit) (hu : un + 3000 < cLine) (hE : PassesOwn (model PySem.Challenge.rw_wo0033_01.row.prog w) (lawA dp un gd L fa ccd outer) (lawEnv L fa ccd) E)
    (m1 : (L + 1, o1) ∈ rest) (d1 : o1.data = .cell (some (.ref wD))) (d2 : o2.data = .cell c2) (m3 : (wD, listOf wv.toArray wn) ∈ rest) (m4 : (wk, listOf wkv.toArray wkn) ∈ rest) (m5 : (rA, listOf rv.toArray rn) ∈ rest)
    (hj : j < 3) (hw : OvL ws wv) (hwl : ws.length = 9) (hr : OvL rs rv) (hrl : rs.length = 3) (hwk : wkv[wkv.length - 1]? = some (.ref rA)) (hwk1 : 1 ≤ wkv.length) (hwk2 : wkv.length ≤ 100)
    (hk : ∀ p ∈ [(Str.ofString "walks", Value.ref wk), (Str.ofString "row", Value.ref rwA), (Str.ofString "v", Value.int (0 + (j : Int)) tv)], m p.1 = some p.2)
    (hK : ∀ lA aA lv av ln an o2' ps' codes' m' h' tk', OvL (leadsL ws rs j 3) lv → IntsAre av (askedL ws rs j 3) → TabSt leadDef qLead ps' codes' → o2'.data = .cell (some (.ref lA)) → (∀ p ∈ [(Str.ofString "walks", Value.ref wk), (Str.ofString "row", Value.ref rwA), (Str.ofString "v", Value.int (0 + (j : Int)) tv), (Str.ofString "asked", Value.ref aA)], m' p.1 = some p.2) →
      Fr h₀ L h' m' → News h₀ L h' ((lA, listOf lv.toArray ln) :: (aA, listOf av.toArray an) :: (107, tabObj ps') :: (codes' ++ (L + 1 + 1, o2') :: rest)) → Nd ((lA, listOf lv.toArray ln) :: (aA, listOf av.toArray an) :: (107, tabObj ps') :: (codes' ++ (L + 1 + 1, o2') :: rest)) →
      wpAny (model PySem.Challenge.rw_wo0033_01.row.prog w) (lawA dp un gd L fa ccd outer) (execs restS (lawEnv L fa ccd)) Q E { s with heap := h', toks := tk' }) :
    wpAny (model PySem.Challenge.rw_wo0033_01.row.prog w) (lawA dp un gd L fa ccd outer) (execs (vS 0 :: vS 1 :: vS 2 :: restS) (lawEnv L fa ccd)) Q E s := by
  revert X; k_fill; intro X
  change wpAny _ (ktrTop dp un gd _ ⟨_, _, _, _, _⟩ L fa ccd _ outer) (execs (.Assign _ _ _ :: .Assign _ _ _ :: .For _ _ uBody _ _ :: restS) (envX _ ⟨_, _, _, _, _⟩ _ _ _ _)) _ _ _
  change PassesOwn _ (ktrTop dp un gd _ ⟨_, _, _, _, _⟩ L fa ccd _ outer) (envX _ ⟨_, _, _, _, _⟩ _ _ _ _) _ at hE
  replace F := fr_kst hk F
  dsimp only [kstB] at F
  iterate 5 (first | (k_unfold; (try dsimp only)) | (k_end; wrow_close) | (walk1; (try dsimp only)) | (dsimp only; walk1; (try dsimp only)) | (leave1; walk_say "STEP leave1"; try dsimp only))
  rename Addr => lA
  rename _ < _ ∧ _ < _ ∧ AllLt _ _ => l9
  rename Fr _ _ _ _ => F1
  rename News _ _ _ _ => N1
  have nd1 := Nd.new (a := (_, listOf #[] 0)) nd (List.forall_mem_cons.mpr ⟨l9.1, List.forall_mem_cons.mpr ⟨l9.2.1, ktn_ltOf l9.2.2⟩⟩)
  refine storeX_C F1 N1 rfl (UpdF.tail (Nat.ne_of_gt l9.1) (UpdF.head nd.off)) d2 ?_
  intro h2 o2' F2 N2 d2'
  clear F1 N1 l9
  (try dsimp only at N2 ⊢)
  iterate 5 (first | (k_unfold; (try dsimp only)) | (k_end; wrow_close) | (walk1; (try dsimp only)) | (dsimp only; walk1; (try dsimp only)) | (leave1; walk_say "STEP leave1"; try dsimp only))
  rename Addr => aA
  rename _ < _ ∧ _ < _ ∧ _ < _ ∧ AllLt _ _ => l9
  rename Fr _ _ _ _ => F1
  rename News _ _ _ _ => N1
  have nd2 := Nd.new (a := (_, listOf #[] 0)) nd1 (List.forall_mem_cons.mpr ⟨l9.1, List.forall_mem_cons.mpr ⟨l9.2.1, List.forall_mem_cons.mpr ⟨l9.2.2.1, ktn_ltOf l9.2.2.2⟩⟩⟩)
  iterate 3 (first | (k_unfold; (try dsimp only)) | (k_end; wrow_close) | (walk1; (try dsimp only)) | (dsimp only; walk1; (try dsimp only)) | (leave1; walk_say "STEP leave1"; try dsimp only))
  k_dflt (refine For_invV h₀ (by rfl) (by rfl) ?_ (by intro _; rfl) hE)
  iterate 1 (first | (k_unfold; (try dsimp only)) | (k_end; wrow_close) | (walk1; (try dsimp only)) | (dsimp only; walk1; (try dsimp only)) | (leave1; walk_say "STEP leave1"; try dsimp only))
  (first | ((with_reducible ((k_here; (with_reducible show wpAny _ _ (eval _ (envX _ _ _ _ _ _)) _ _ _); k_dflt (first | (refine' nameX_L ?Fz133 ?vz133 ?_ ?az133 ?bz133; (case Fz133 => k_asm); (case az133 => rfl); (case bz133 => rfl); (case vz133 => rfl); k_whole) | (refine' nameX_C ?Nz133 ?cz133 ?mz133 ?dz133 ?_ ?az133 ?bz133; (case az133 => rfl); (case bz133 => rfl); (case Nz133 => k_asm); (case cz133 => rfl); (case mz133 => walk_at "my mem"); (case dz133 => assumption); k_whole) | (refine' nameX_K ?Fz133 ?Xz133 ?Tz133 ?ez133 ?_ ?az133 ?bz133; (case Fz133 => k_asm); (case Xz133 => k_asm); (case Tz133 => k_asm); (case az133 => rfl); (case bz133 => rfl); (case ez133 => k_is); k_whole) | (refine' nameX_B ?Fz133 ?Xz133 ?Tz133 ?ez133 ?vz133 ?nz133 ?_ ?az133 ?bz133; (case Fz133 => k_asm); (case Xz133 => k_asm); (case Tz133 => k_asm); (case az133 => rfl); (case bz133 => rfl); (case ez133 => k_is); (case vz133 => boot_fast); (case nz133 => decide); k_whole))))); (try dsimp only)) | (dsimp only; (with_reducible ((k_here; (with_reducible show wpAny _ _ (eval _ (envX _ _ _ _ _ _)) _ _ _); k_dflt (first | (refine' nameX_L ?Fz133 ?vz133 ?_ ?az133 ?bz133; (case Fz133 => k_asm); (case az133 => rfl); (case bz133 => rfl); (case vz133 => rfl); k_whole) | (refine' nameX_C ?Nz133 ?cz133 ?mz133 ?dz133 ?_ ?az133 ?bz133; (case az133 => rfl); (case bz133 => rfl); (case Nz133 => k_asm); (case cz133 => rfl); (case mz133 => walk_at "my mem"); (case dz133 => assumption); k_whole) | (refine' nameX_K ?Fz133 ?Xz133 ?Tz133 ?ez133 ?_ ?az133 ?bz133; (case Fz133 => k_asm); (case Xz133 => k_asm); (case Tz133 => k_asm); (case az133 => rfl); (case bz133 => rfl); (case ez133 => k_is); k_whole) | (refine' nameX_B ?Fz133 ?Xz133 ?Tz133 ?ez133 ?vz133 ?nz133 ?_ ?az133 ?bz133; (case Fz133 => k_asm); (case Xz133 => k_asm); (case Tz133 => k_asm); (case az133 => rfl); (case bz133 => rfl); (case ez133 => k_is); (case vz133 => boot_fast); (case nz133 => decide); k_whole))))); (try dsimp only)))
  iterate 5 (first | (k_unfold; (try dsimp only)) | (k_end; wrow_close) | (walk1; (try dsimp only)) | (dsimp only; walk1; (try dsimp only)) | (leave1; walk_say "STEP leave1"; try dsimp only))
  rename Fr _ _ _ _ => F3
  rename News _ _ _ _ => N3
  rename IsRange _ _ _ _ _ _ _ _ => hR
  have N4 := news_perm N3 permE
  have nd2' : Nd ((aA, listOf #[] 0) :: (lA, listOf #[] 0) :: (L + 1 + 1, o2') :: (107, tabObj ps) :: (codes ++ rest)) := nd2
  have nd4 := nd2'.perm permE
  refine loopRange (n := 3) (JU ws rs j lA aA wk rwA tv ((L + 1 + 1, o2') :: rest)) rfl hR (by decide) (by rfl) F3 N4 ?h0 ?turn ?done
  case h0 =>
    refine ⟨[], [], 0, 0, ps, codes, .nil, .nil, S, ?hn, rfl, nd4⟩
    case hn => kst_all
  case turn =>
    rintro i m₁ nw t h tk I oI hi ⟨lv, av, ln, an, ps, codes, hlv, hav, S, hk, hnw, nd⟩ hoff F9 N9
    subst hnw
    have N8 := news_perm N9 permF
    have nd8 := (Nd.cons (a := (I, oI)) hoff nd).perm permF
    obtain ⟨tw, hw9⟩ := ovGet (k := 3 * i + j) hw (ix9 hi hj hwl)
    obtain ⟨tr, hr9⟩ := ovGet (k := i) hr (by omega)
    refine' t_u (0 + (i : Int)) (0 + (j : Int)) t tv (ws.getD (3 * i + j) none) (rs.getD i none) tw tr wD wk rA rwA _ _ wv wkv rv lv av wn wkn rn ln an o1 o2' ps codes ((I, oI) :: (L + 1 + 1, o2') :: rest) dp un gd fa ccd outer A₀ base h₀ L _ _ _ E B F9 X T C S N8 nd8 hd hu ?m1 d1 ?m2 d2' ?m3 ?m4 ?m5 ?a1 ?a2 ?a3 ?a4 ?hw ?hr ?hrl hwk hwk1 hwk2 ?hll ?hal ?hk ?hQ
    case m1 => exact .tail _ (.tail _ m1)
    case m2 => exact .tail _ (.head _)
    case m3 => exact .tail _ (.tail _ m3)
    case m4 => exact .tail _ (.tail _ m4)
    case m5 => exact .tail _ (.tail _ m5)
    case a1 => omega
    case a2 => omega
    case a3 => omega
    case a4 => omega
    case hw => rw [tn33 i j]; exact hw9
    case hr => rw [tn0 i]; exact hr9
    case hrl => have := hr.length; omega
    case hll => have := hlv.length; simp only [leadsL, List.length_map, List.length_range] at this; omega
    case hal => have := hav.length; have z := askedL_len ws rs j i; omega
    case hk => exact List.forall_mem_cons.mpr ⟨rfl, List.forall_mem_cons.mpr ⟨hk _ (by simp), List.forall_mem_cons.mpr ⟨hk _ (by simp), List.forall_mem_cons.mpr ⟨hk _ (by simp), List.forall_mem_cons.mpr ⟨hk _ (by simp), List.forall_mem_nil _⟩⟩⟩⟩⟩
    case hQ =>
      intro t' av' an' ps' codes' m' h' tk' hav' S' hk' F' N' nd'
      have N7 := news_perm N' permF.symm
      have nd7 := nd'.perm permF.symm
      refine ⟨h', tk', m', _, rfl, F', N7, fun p hp e => nd7.off p hp (List.mem_singleton.mp e), _, av', _, an', ps', codes', ?hl9, ?ha9, S', hk', rfl, nd7.tail⟩
      case hl9 => rw [leadsL_succ]; exact ovApp hlv (.cons .nil)
      case ha9 =>
        rw [askedL_succ]
        by_cases hs : (leadO ws rs j i).isSome = true
        · rw [if_pos hs, show av' = _ from hav'.trans (if_pos hs)]; exact intsApp hav (.cons _ _ .nil)
        · rw [if_neg hs, show av' = _ from hav'.trans (if_neg hs), List.append_nil]; exact hav
  case done =>
    rintro m' nw' h' tk' ⟨lv, av, ln, an, ps', codes', hlv, hav, S', hk', hnw, nd'⟩ F' N'
    subst hnw
    exact hK _ _ lv av ln an o2' ps' codes' m' h' tk' hlv hav S' d2' hk' F' N' nd'
end

end
-- L3
section
example : True := by w_top off; exact trivial
noncomputable def knownL (os : List (Option Int)) : List Int := os.filterMap id
noncomputable def askedOf (os : List (Option Int)) : List Int := ((List.range 3).filter fun u => (os.getD u none).isSome).map Int.ofNat
theorem ovAt : ∀ {os : List (Option Int)} {vs : List Value} {i : Nat} {v : Value}, OvL os vs → vs[i]? = some v → ∃ o t, os[i]? = some o ∧ v = ov o t
  | _, _, 0, _, .cons (o := o) (t := t) _, e => ⟨o, t, rfl, (Option.some.inj e).symm⟩
  | _, _, k + 1, _, .cons h, e => ovAt (i := k) h (by simpa using e)
theorem knownL_take {os : List (Option Int)} {i : Nat} {o : Option Int} (h : os[i]? = some o) : knownL (os.take (i + 1)) = knownL (os.take i) ++ o.toList := by
  unfold knownL
  rw [List.take_add_one, h, List.filterMap_append]
  cases o <;> rfl
noncomputable def askedN (os : List (Option Int)) (n : Nat) : List Int := ((List.range n).filter fun u => (os.getD u none).isSome).map Int.ofNat
theorem askedN_succ (os : List (Option Int)) (i : Nat) : askedN os (i + 1) = askedN os i ++ (if (os.getD i none).isSome = true then [(0 + (i : Int))] else []) := by
  simp only [askedN, List.range_succ, List.filter_append, List.map_append, List.filter_cons, List.filter_nil]
  split <;> simp
section
variable {w : World} {p : Program} {loose : List Str} {mean : ExcName → Option Value} {mg mb : Str → Option Value}
theorem t_v2 (j : Nat) (tv : Tok) (os : List (Option Int)) (wk rwA lA aA : Addr) (lv av : List Value) (ln an : Nat) (o2 : Obj) (news : Led) (dp un : Nat) (gd : Option (List Code)) (fa : Addr) (ccd : Value) (outer : List Env) (A₀ : Around) (base h₀ : Heap) (L : Addr) (m : Str → Option Value) (s : Shared) (Q : Flow → Shared → Prop) (E : Value → Shared → Prop) (restS : List Stmt)
    (B : Below A₀ base outer h₀) (F : Fr h₀ L s.heap m) (X : (Mine.hd.heap_39 w.params).In h₀) (T : Top p loose mean mg mb h₀)
    (N : News h₀ L s.heap news) (hd : dp + 300 < recursionLimit) (hu : un + 3000 < cLine)
    (m1 : (lA, listOf lv.toArray ln) ∈ news) (m2 : (L + 1 + 1, o2) ∈ news) (d2 : o2.data = .cell (some (.ref lA))) (m3 : (aA, listOf av.toArray an) ∈ news)
    (hl : OvL os lv) (hol : os.length = 3) (ha : IntsAre av (askedOf os))
    (hk : ∀ p ∈ [(Str.ofString "walks", Value.ref wk), (Str.ofString "row", Value.ref rwA), (Str.ofString "v", Value.int (0 + (j : Int)) tv), (Str.ofString "asked", Value.ref aA)], m p.1 = some p.2)
    (hK : ∀ kA kv m' h' tk', IntsAre kv (knownL os) → (∀ p ∈ [(Str.ofString "walks", Value.ref wk), (Str.ofString "row", Value.ref rwA), (Str.ofString "v", Value.int (0 + (j : Int)) tv), (Str.ofString "known", Value.ref kA)], m' p.1 = some p.2) →
      Fr h₀ L h' m' → News h₀ L h' ((kA, LCg.lst kv) :: news) → (∀ p ∈ news, p.1 ≠ kA) →
      wpAny (model PySem.Challenge.rw_wo0033_01.row.prog w) (lawA dp un gd L fa ccd outer) (execs restS (lawEnv L fa ccd)) Q E { s with heap := h', toks := tk' }) :
    wpAny (model PySem.Challenge.rw_wo0033_01.row.prog w) (lawA dp un gd L fa ccd outer) (execs (vS 3 :: vS 4 :: restS) (lawEnv L fa ccd)) Q E s := by
  revert X; k_fill; intro X
  change wpAny _ (ktrTop dp un gd _ ⟨_, _, _, _, _⟩ L fa ccd _ outer) (execs (.Assign _ _ _ :: .If _ _ _ _ :: restS) (envX _ ⟨_, _, _, _, _⟩ _ _ _ _)) _ _ _
  replace F := fr_kst hk F
  dsimp only [kstB] at F
  have hlv := hl.length
  iterate 1 (first | (k_unfold; (try dsimp only)) | (k_end; wrow_close) | (walk1; (try dsimp only)) | (dsimp only; walk1; (try dsimp only)) | (leave1; walk_say "STEP leave1"; try dsimp only))
  (first | ((with_reducible ((k_here; k_dflt (first | (refine LCt.Assign_ListComp_T (F₀ := by k_asm) (by rfl) (by with_unfolding_all rfl) (by with_unfolding_all rfl) (by decide) (by rfl) (by decide) (by rfl) (by rfl) (by rfl) ?_) | (refine LCg.Assign_ListComp_U (F₀ := by k_asm) (by rfl) (by with_unfolding_all rfl) (by rfl) (by decide) (by rfl) (by decide) (by rfl) (by rfl) (by rfl) ?_))))); (try dsimp only)) | (dsimp only; (with_reducible ((k_here; k_dflt (first | (refine LCt.Assign_ListComp_T (F₀ := by k_asm) (by rfl) (by with_unfolding_all rfl) (by with_unfolding_all rfl) (by decide) (by rfl) (by decide) (by rfl) (by rfl) (by rfl) ?_) | (refine LCg.Assign_ListComp_U (F₀ := by k_asm) (by rfl) (by with_unfolding_all rfl) (by rfl) (by decide) (by rfl) (by decide) (by rfl) (by rfl) (by rfl) ?_))))); (try dsimp only)))
  (k_dflt (first | (with_reducible ((k_here; (with_reducible show wpAny _ _ (eval _ (envX _ _ _ _ _ _)) _ _ _); k_dflt (first | (refine' nameX_L ?Fz135 ?vz135 ?_ ?az135 ?bz135; (case Fz135 => k_asm); (case az135 => rfl); (case bz135 => rfl); (case vz135 => rfl); k_whole) | (refine' nameX_C ?Nz135 ?cz135 ?mz135 ?dz135 ?_ ?az135 ?bz135; (case az135 => rfl); (case bz135 => rfl); (case Nz135 => k_asm); (case cz135 => rfl); (case mz135 => walk_at "my mem"); (case dz135 => assumption); k_whole) | (refine' nameX_K ?Fz135 ?Xz135 ?Tz135 ?ez135 ?_ ?az135 ?bz135; (case Fz135 => k_asm); (case Xz135 => k_asm); (case Tz135 => k_asm); (case az135 => rfl); (case bz135 => rfl); (case ez135 => k_is); k_whole) | (refine' nameX_B ?Fz135 ?Xz135 ?Tz135 ?ez135 ?vz135 ?nz135 ?_ ?az135 ?bz135; (case Fz135 => k_asm); (case Xz135 => k_asm); (case Tz135 => k_asm); (case az135 => rfl); (case bz135 => rfl); (case ez135 => k_is); (case vz135 => boot_fast); (case nz135 => decide); k_whole))))) | (dsimp only; (with_reducible ((k_here; (with_reducible show wpAny _ _ (eval _ (envX _ _ _ _ _ _)) _ _ _); k_dflt (first | (refine' nameX_L ?Fz135 ?vz135 ?_ ?az135 ?bz135; (case Fz135 => k_asm); (case az135 => rfl); (case bz135 => rfl); (case vz135 => rfl); k_whole) | (refine' nameX_C ?Nz135 ?cz135 ?mz135 ?dz135 ?_ ?az135 ?bz135; (case az135 => rfl); (case bz135 => rfl); (case Nz135 => k_asm); (case cz135 => rfl); (case mz135 => walk_at "my mem"); (case dz135 => assumption); k_whole) | (refine' nameX_K ?Fz135 ?Xz135 ?Tz135 ?ez135 ?_ ?az135 ?bz135; (case Fz135 => k_asm); (case Xz135 => k_asm); (case Tz135 => k_asm); (case az135 => rfl); (case bz135 => rfl); (case ez135 => k_is); k_whole) | (refine' nameX_B ?Fz135 ?Xz135 ?Tz135 ?ez135 ?vz135 ?nz135 ?_ ?az135 ?bz135; (case Fz135 => k_asm); (case Xz135 => k_asm); (case Tz135 => k_asm); (case az135 => rfl); (case bz135 => rfl); (case ez135 => k_is); (case vz135 => boot_fast); (case nz135 => decide); k_whole))))))))
  (k_dflt (first | (with_reducible ((k_here; k_dflt (first | (refine LCt.CompSrcT.ledger (by rfl) (by k_asm) (by k_asm) (by walk_at "my mem") (sz_of (by omega)) ?_; intro gqz136; (try dsimp only); refine Held.of ?_) | (refine LCt.CompSrcT.range (by rfl) (by k_asm) (by k_asm) (by assumption) (by first | decide | rfl) (by first | rfl | decide) (by first | size_fits | exact Nat.le_of_ble_eq_true rfl) ?_; intro gqz136; (try dsimp only); refine Held.of ?_))))) | (dsimp only; (with_reducible ((k_here; k_dflt (first | (refine LCt.CompSrcT.ledger (by rfl) (by k_asm) (by k_asm) (by walk_at "my mem") (sz_of (by omega)) ?_; intro gqz136; (try dsimp only); refine Held.of ?_) | (refine LCt.CompSrcT.range (by rfl) (by k_asm) (by k_asm) (by assumption) (by first | decide | rfl) (by first | rfl | decide) (by first | size_fits | exact Nat.le_of_ble_eq_true rfl) ?_; intro gqz136; (try dsimp only); refine Held.of ?_))))))))
  refine restT (fun i ys nw => nw = news ∧ IntsAre ys (knownL (os.take i))) ⟨rfl, .nil⟩ ?turn ?fin
  case turn =>
    rintro i v I oI C oC D m₂ ys h tk nw E' hi hv ⟨hnw, hy⟩ hC hx F9 N9 off ne
    subst hnw
    obtain ⟨o, t, ho, rfl⟩ := ovAt hl (by simpa using hv)
    have hS : LCg.SrcAt h₀ lA lv.toArray nw := .inr ⟨_, m1, rfl, _, rfl⟩
    rw [knownL_take ho]
    cases o with
    | none =>
      dsimp only [ov] at hx
      (try dsimp only)
      iterate 1 (first | (k_unfold; (try dsimp only)) | (k_end; wrow_close) | (walk1; (try dsimp only)) | (dsimp only; walk1; (try dsimp only)) | (leave1; walk_say "STEP leave1"; try dsimp only))
      (first | ((with_reducible ((k_here; (with_reducible show wpAny _ _ (eval _ (compEnvC _ _ _ _)) _ _ _); k_dflt (first | refine LCgL.ld_own (by k_asm) (by walk_at "my mem") (by assumption) (by assumption) ?_ | refine kcf_cell (by k_asm) (by rfl) (by walk_at "my mem") (by assumption) ?_)))); (try dsimp only)) | (dsimp only; (with_reducible ((k_here; (with_reducible show wpAny _ _ (eval _ (compEnvC _ _ _ _)) _ _ _); k_dflt (first | refine LCgL.ld_own (by k_asm) (by walk_at "my mem") (by assumption) (by assumption) ?_ | refine kcf_cell (by k_asm) (by rfl) (by walk_at "my mem") (by assumption) ?_)))); (try dsimp only)))
      iterate 4 (first | (k_unfold; (try dsimp only)) | (k_end; wrow_close) | (walk1; (try dsimp only)) | (dsimp only; walk1; (try dsimp only)) | (leave1; walk_say "STEP leave1"; try dsimp only))
      exact LCg.CompEnd.intro F9 N9 _ (fun p hp => hp) off hS ⟨rfl, by rw [Option.toList_none, List.append_nil]; exact hy⟩
    | some o =>
      dsimp only [ov] at hx
      (try dsimp only)
      iterate 1 (first | (k_unfold; (try dsimp only)) | (k_end; wrow_close) | (walk1; (try dsimp only)) | (dsimp only; walk1; (try dsimp only)) | (leave1; walk_say "STEP leave1"; try dsimp only))
      (first | ((with_reducible ((k_here; (with_reducible show wpAny _ _ (eval _ (compEnvC _ _ _ _)) _ _ _); k_dflt (first | refine LCgL.ld_own (by k_asm) (by walk_at "my mem") (by assumption) (by assumption) ?_ | refine kcf_cell (by k_asm) (by rfl) (by walk_at "my mem") (by assumption) ?_)))); (try dsimp only)) | (dsimp only; (with_reducible ((k_here; (with_reducible show wpAny _ _ (eval _ (compEnvC _ _ _ _)) _ _ _); k_dflt (first | refine LCgL.ld_own (by k_asm) (by walk_at "my mem") (by assumption) (by assumption) ?_ | refine kcf_cell (by k_asm) (by rfl) (by walk_at "my mem") (by assumption) ?_)))); (try dsimp only)))
      iterate 4 (first | (k_unfold; (try dsimp only)) | (k_end; wrow_close) | (walk1; (try dsimp only)) | (dsimp only; walk1; (try dsimp only)) | (leave1; walk_say "STEP leave1"; try dsimp only))
      (first | ((with_reducible ((k_here; (with_reducible show wpAny _ _ (eval _ (compEnvC _ _ _ _)) _ _ _); k_dflt (first | refine LCgL.ld_own (by k_asm) (by walk_at "my mem") (by assumption) (by assumption) ?_ | refine kcf_cell (by k_asm) (by rfl) (by walk_at "my mem") (by assumption) ?_)))); (try dsimp only)) | (dsimp only; (with_reducible ((k_here; (with_reducible show wpAny _ _ (eval _ (compEnvC _ _ _ _)) _ _ _); k_dflt (first | refine LCgL.ld_own (by k_asm) (by walk_at "my mem") (by assumption) (by assumption) ?_ | refine kcf_cell (by k_asm) (by rfl) (by walk_at "my mem") (by assumption) ?_)))); (try dsimp only)))
      exact LCg.CompEnd.intro F9 N9 _ (fun p hp => hp) off hS ⟨rfl, intsApp hy (.cons _ _ .nil)⟩
  case fin =>
    rintro ys nw ⟨hnw, hy⟩
    subst hnw
    intro D h8 tk8 F8 N8 o8
    rw [List.size_toArray, ← hlv, List.take_length] at hy
    (try dsimp only)
    iterate 3 (first | (k_unfold; (try dsimp only)) | (k_end; wrow_close) | (walk1; (try dsimp only)) | (dsimp only; walk1; (try dsimp only)) | (leave1; walk_say "STEP leave1"; try dsimp only))
    (first | ((with_reducible ((k_here; (with_reducible show wpAny _ _ (eval _ (envX _ _ _ _ _ _)) _ _ _); k_dflt (first | (refine' nameX_L ?Fz140 ?vz140 ?_ ?az140 ?bz140; (case Fz140 => k_asm); (case az140 => rfl); (case bz140 => rfl); (case vz140 => rfl); k_whole) | (refine' nameX_C ?Nz140 ?cz140 ?mz140 ?dz140 ?_ ?az140 ?bz140; (case az140 => rfl); (case bz140 => rfl); (case Nz140 => k_asm); (case cz140 => rfl); (case mz140 => walk_at "my mem"); (case dz140 => assumption); k_whole) | (refine' nameX_K ?Fz140 ?Xz140 ?Tz140 ?ez140 ?_ ?az140 ?bz140; (case Fz140 => k_asm); (case Xz140 => k_asm); (case Tz140 => k_asm); (case az140 => rfl); (case bz140 => rfl); (case ez140 => k_is); k_whole) | (refine' nameX_B ?Fz140 ?Xz140 ?Tz140 ?ez140 ?vz140 ?nz140 ?_ ?az140 ?bz140; (case Fz140 => k_asm); (case Xz140 => k_asm); (case Tz140 => k_asm); (case az140 => rfl); (case bz140 => rfl); (case ez140 => k_is); (case vz140 => boot_fast); (case nz140 => decide); k_whole))))); (try dsimp only)) | (dsimp only; (with_reducible ((k_here; (with_reducible show wpAny _ _ (eval _ (envX _ _ _ _ _ _)) _ _ _); k_dflt (first | (refine' nameX_L ?Fz140 ?vz140 ?_ ?az140 ?bz140; (case Fz140 => k_asm); (case az140 => rfl); (case bz140 => rfl); (case vz140 => rfl); k_whole) | (refine' nameX_C ?Nz140 ?cz140 ?mz140 ?dz140 ?_ ?az140 ?bz140; (case az140 => rfl); (case bz140 => rfl); (case Nz140 => k_asm); (case cz140 => rfl); (case mz140 => walk_at "my mem"); (case dz140 => assumption); k_whole) | (refine' nameX_K ?Fz140 ?Xz140 ?Tz140 ?ez140 ?_ ?az140 ?bz140; (case Fz140 => k_asm); (case Xz140 => k_asm); (case Tz140 => k_asm); (case az140 => rfl); (case bz140 => rfl); (case ez140 => k_is); k_whole) | (refine' nameX_B ?Fz140 ?Xz140 ?Tz140 ?ez140 ?vz140 ?nz140 ?_ ?az140 ?bz140; (case Fz140 => k_asm); (case Xz140 => k_asm); (case Tz140 => k_asm); (case az140 => rfl); (case bz140 => rfl); (case ez140 => k_is); (case vz140 => boot_fast); (case nz140 => decide); k_whole))))); (try dsimp only)))
    (first | ((with_reducible ((k_here; k_dflt (first | (refine LCt.ListComp_T (F₀ := by k_asm) (by with_unfolding_all rfl) (by decide) (by rfl) (by decide) (by rfl) ?_) | (refine LCg.ListComp_U (F₀ := by k_asm) (by rfl) (by decide) (by rfl) (by decide) (by rfl) ?_))))); (try dsimp only)) | (dsimp only; (with_reducible ((k_here; k_dflt (first | (refine LCt.ListComp_T (F₀ := by k_asm) (by with_unfolding_all rfl) (by decide) (by rfl) (by decide) (by rfl) ?_) | (refine LCg.ListComp_U (F₀ := by k_asm) (by rfl) (by decide) (by rfl) (by decide) (by rfl) ?_))))); (try dsimp only)))
    iterate 1 (k_dflt (first | walk1 | (dsimp only; walk1)))
    (k_dflt (first | (with_reducible ((k_here; (with_reducible show wpAny _ _ (eval _ (envX _ _ _ _ _ _)) _ _ _); k_dflt (first | (refine' nameX_L ?Fz142 ?vz142 ?_ ?az142 ?bz142; (case Fz142 => k_asm); (case az142 => rfl); (case bz142 => rfl); (case vz142 => rfl); k_whole) | (refine' nameX_C ?Nz142 ?cz142 ?mz142 ?dz142 ?_ ?az142 ?bz142; (case az142 => rfl); (case bz142 => rfl); (case Nz142 => k_asm); (case cz142 => rfl); (case mz142 => walk_at "my mem"); (case dz142 => assumption); k_whole) | (refine' nameX_K ?Fz142 ?Xz142 ?Tz142 ?ez142 ?_ ?az142 ?bz142; (case Fz142 => k_asm); (case Xz142 => k_asm); (case Tz142 => k_asm); (case az142 => rfl); (case bz142 => rfl); (case ez142 => k_is); k_whole) | (refine' nameX_B ?Fz142 ?Xz142 ?Tz142 ?ez142 ?vz142 ?nz142 ?_ ?az142 ?bz142; (case Fz142 => k_asm); (case Xz142 => k_asm); (case Tz142 => k_asm); (case az142 => rfl); (case bz142 => rfl); (case ez142 => k_is); (case vz142 => boot_fast); (case nz142 => decide); k_whole))))) | (dsimp only; (with_reducible ((k_here; (with_reducible show wpAny _ _ (eval _ (envX _ _ _ _ _ _)) _ _ _); k_dflt (first | (refine' nameX_L ?Fz142 ?vz142 ?_ ?az142 ?bz142; (case Fz142 => k_asm); (case az142 => rfl); (case bz142 => rfl); (case vz142 => rfl); k_whole) | (refine' nameX_C ?Nz142 ?cz142 ?mz142 ?dz142 ?_ ?az142 ?bz142; (case az142 => rfl); (case bz142 => rfl); (case Nz142 => k_asm); (case cz142 => rfl); (case mz142 => walk_at "my mem"); (case dz142 => assumption); k_whole) | (refine' nameX_K ?Fz142 ?Xz142 ?Tz142 ?ez142 ?_ ?az142 ?bz142; (case Fz142 => k_asm); (case Xz142 => k_asm); (case Tz142 => k_asm); (case az142 => rfl); (case bz142 => rfl); (case ez142 => k_is); k_whole) | (refine' nameX_B ?Fz142 ?Xz142 ?Tz142 ?ez142 ?vz142 ?nz142 ?_ ?az142 ?bz142; (case Fz142 => k_asm); (case Xz142 => k_asm); (case Tz142 => k_asm); (case az142 => rfl); (case bz142 => rfl); (case ez142 => k_is); (case vz142 => boot_fast); (case nz142 => decide); k_whole))))))))
    iterate 5 (k_dflt (first | walk1 | (dsimp only; walk1)))
    (k_dflt (first | (with_reducible ((k_here; k_dflt (first | (refine LCt.CompSrcT.ledger (by rfl) (by k_asm) (by k_asm) (by walk_at "my mem") (sz_of (by omega)) ?_; intro gqz143; (try dsimp only); refine Held.of ?_) | (refine LCt.CompSrcT.range (by rfl) (by k_asm) (by k_asm) (by assumption) (by first | decide | rfl) (by first | rfl | decide) (by first | size_fits | exact Nat.le_of_ble_eq_true rfl) ?_; intro gqz143; (try dsimp only); refine Held.of ?_))))) | (dsimp only; (with_reducible ((k_here; k_dflt (first | (refine LCt.CompSrcT.ledger (by rfl) (by k_asm) (by k_asm) (by walk_at "my mem") (sz_of (by omega)) ?_; intro gqz143; (try dsimp only); refine Held.of ?_) | (refine LCt.CompSrcT.range (by rfl) (by k_asm) (by k_asm) (by assumption) (by first | decide | rfl) (by first | rfl | decide) (by first | size_fits | exact Nat.le_of_ble_eq_true rfl) ?_; intro gqz143; (try dsimp only); refine Held.of ?_))))))))
    refine restT (fun i zs nw' => nw' = (D, LCg.lst ys) :: nw ∧ IntsAre zs (askedN os i)) ⟨rfl, .nil⟩ ?turn2 ?fin2
    case turn2 =>
      rintro i v I oI C oC D' m₂ zs h tk nw' E' hi ⟨t, hv⟩ ⟨hnw, hz⟩ hC hx F9 N9 off ne
      subst hv hnw
      replace hi : i < 3 := hi
      rw [askedN_succ]
      obtain ⟨tl, hlv9⟩ := ovGet (k := i) hl (by omega)
      have hi9 : lv[(0 + (i : Int)).toNat]? = some (ov (os.getD i none) tl) := by rw [tn0 i]; exact hlv9
      cases ho : os.getD i none with
      | none =>
        rw [ho] at hi9
        dsimp only [ov] at hi9
        (try dsimp only)
        iterate 2 (first | (k_unfold; (try dsimp only)) | (k_end; wrow_close) | (walk1; (try dsimp only)) | (dsimp only; walk1; (try dsimp only)) | (leave1; walk_say "STEP leave1"; try dsimp only))
        (first | ((with_reducible ((k_here; (with_reducible show wpAny _ _ (eval _ (compEnvC _ _ _ _)) _ _ _); k_dflt (first | refine LCgL.ld_own (by k_asm) (by walk_at "my mem") (by assumption) (by assumption) ?_ | refine kcf_cell (by k_asm) (by rfl) (by walk_at "my mem") (by assumption) ?_)))); (try dsimp only)) | (dsimp only; (with_reducible ((k_here; (with_reducible show wpAny _ _ (eval _ (compEnvC _ _ _ _)) _ _ _); k_dflt (first | refine LCgL.ld_own (by k_asm) (by walk_at "my mem") (by assumption) (by assumption) ?_ | refine kcf_cell (by k_asm) (by rfl) (by walk_at "my mem") (by assumption) ?_)))); (try dsimp only)))
        (first | ((with_reducible ((k_here; (with_reducible show wpAny _ _ (eval _ (compEnvC _ _ _ _)) _ _ _); k_dflt (first | refine LCgL.ld_own (by k_asm) (by walk_at "my mem") (by assumption) (by assumption) ?_ | refine kcf_cell (by k_asm) (by rfl) (by walk_at "my mem") (by assumption) ?_)))); (try dsimp only)) | (dsimp only; (with_reducible ((k_here; (with_reducible show wpAny _ _ (eval _ (compEnvC _ _ _ _)) _ _ _); k_dflt (first | refine LCgL.ld_own (by k_asm) (by walk_at "my mem") (by assumption) (by assumption) ?_ | refine kcf_cell (by k_asm) (by rfl) (by walk_at "my mem") (by assumption) ?_)))); (try dsimp only)))
        (first | ((with_reducible (((k_here; (with_reducible show wpAny _ _ (subscriptTail _ _ (Value.ref _) (Value.int _ _)) _ _ _); k_dflt (first | refine my_item (by k_asm) (by walk_at "my mem") (by omega) (by omega) (by assumption) ?_ | refine my_last (by k_asm) (by walk_at "my mem") (by omega) (by omega) (by assumption) ?_))))); (try dsimp only)) | (dsimp only; (with_reducible (((k_here; (with_reducible show wpAny _ _ (subscriptTail _ _ (Value.ref _) (Value.int _ _)) _ _ _); k_dflt (first | refine my_item (by k_asm) (by walk_at "my mem") (by omega) (by omega) (by assumption) ?_ | refine my_last (by k_asm) (by walk_at "my mem") (by omega) (by omega) (by assumption) ?_))))); (try dsimp only)))
        iterate 4 (first | (k_unfold; (try dsimp only)) | (k_end; wrow_close) | (walk1; (try dsimp only)) | (dsimp only; walk1; (try dsimp only)) | (leave1; walk_say "STEP leave1"; try dsimp only))
        exact LCg.CompEnd.intro F9 N9 _ (fun p hp => hp) off trivial ⟨rfl, by rw [Option.isSome_none, if_neg (by decide), List.append_nil]; exact hz⟩
      | some o =>
        rw [ho] at hi9
        dsimp only [ov] at hi9
        (try dsimp only)
        iterate 2 (first | (k_unfold; (try dsimp only)) | (k_end; wrow_close) | (walk1; (try dsimp only)) | (dsimp only; walk1; (try dsimp only)) | (leave1; walk_say "STEP leave1"; try dsimp only))
        (first | ((with_reducible ((k_here; (with_reducible show wpAny _ _ (eval _ (compEnvC _ _ _ _)) _ _ _); k_dflt (first | refine LCgL.ld_own (by k_asm) (by walk_at "my mem") (by assumption) (by assumption) ?_ | refine kcf_cell (by k_asm) (by rfl) (by walk_at "my mem") (by assumption) ?_)))); (try dsimp only)) | (dsimp only; (with_reducible ((k_here; (with_reducible show wpAny _ _ (eval _ (compEnvC _ _ _ _)) _ _ _); k_dflt (first | refine LCgL.ld_own (by k_asm) (by walk_at "my mem") (by assumption) (by assumption) ?_ | refine kcf_cell (by k_asm) (by rfl) (by walk_at "my mem") (by assumption) ?_)))); (try dsimp only)))
        (first | ((with_reducible ((k_here; (with_reducible show wpAny _ _ (eval _ (compEnvC _ _ _ _)) _ _ _); k_dflt (first | refine LCgL.ld_own (by k_asm) (by walk_at "my mem") (by assumption) (by assumption) ?_ | refine kcf_cell (by k_asm) (by rfl) (by walk_at "my mem") (by assumption) ?_)))); (try dsimp only)) | (dsimp only; (with_reducible ((k_here; (with_reducible show wpAny _ _ (eval _ (compEnvC _ _ _ _)) _ _ _); k_dflt (first | refine LCgL.ld_own (by k_asm) (by walk_at "my mem") (by assumption) (by assumption) ?_ | refine kcf_cell (by k_asm) (by rfl) (by walk_at "my mem") (by assumption) ?_)))); (try dsimp only)))
        (first | ((with_reducible (((k_here; (with_reducible show wpAny _ _ (subscriptTail _ _ (Value.ref _) (Value.int _ _)) _ _ _); k_dflt (first | refine my_item (by k_asm) (by walk_at "my mem") (by omega) (by omega) (by assumption) ?_ | refine my_last (by k_asm) (by walk_at "my mem") (by omega) (by omega) (by assumption) ?_))))); (try dsimp only)) | (dsimp only; (with_reducible (((k_here; (with_reducible show wpAny _ _ (subscriptTail _ _ (Value.ref _) (Value.int _ _)) _ _ _); k_dflt (first | refine my_item (by k_asm) (by walk_at "my mem") (by omega) (by omega) (by assumption) ?_ | refine my_last (by k_asm) (by walk_at "my mem") (by omega) (by omega) (by assumption) ?_))))); (try dsimp only)))
        iterate 4 (first | (k_unfold; (try dsimp only)) | (k_end; wrow_close) | (walk1; (try dsimp only)) | (dsimp only; walk1; (try dsimp only)) | (leave1; walk_say "STEP leave1"; try dsimp only))
        (first | ((with_reducible ((k_here; (with_reducible show wpAny _ _ (eval _ (compEnvC _ _ _ _)) _ _ _); k_dflt (first | refine LCgL.ld_own (by k_asm) (by walk_at "my mem") (by assumption) (by assumption) ?_ | refine kcf_cell (by k_asm) (by rfl) (by walk_at "my mem") (by assumption) ?_)))); (try dsimp only)) | (dsimp only; (with_reducible ((k_here; (with_reducible show wpAny _ _ (eval _ (compEnvC _ _ _ _)) _ _ _); k_dflt (first | refine LCgL.ld_own (by k_asm) (by walk_at "my mem") (by assumption) (by assumption) ?_ | refine kcf_cell (by k_asm) (by rfl) (by walk_at "my mem") (by assumption) ?_)))); (try dsimp only)))
        exact LCg.CompEnd.intro F9 N9 _ (fun p hp => hp) off trivial ⟨rfl, by rw [Option.isSome_some, if_pos rfl]; exact intsApp hz (.cons _ _ .nil)⟩
    case fin2 =>
      rintro zs nw' ⟨hnw, hz⟩
      subst hnw
      intro D2 h9 tk9 F9 N9 o9
      replace hz : IntsAre zs (askedN os 3) := hz
      (try dsimp only)
      refine ne_intsK (N9.isList (.tail _ (.tail _ m3))) ha (N9.isList (.head _)) hz ?hun ?_
      case hun => first | ktr_units | (show un + _ + _ < _; first | exact rm3 hu (by decide) | omega)
      (try dsimp only)
      rw [show (!decide (askedOf os = askedN os 3)) = false from by rw [decide_eq_true (show askedOf os = askedN os 3 from rfl)]; rfl]
      iterate 3 (first | (k_unfold; (try dsimp only)) | (k_end; wrow_close) | (walk1; (try dsimp only)) | (dsimp only; walk1; (try dsimp only)) | (leave1; walk_say "STEP leave1"; try dsimp only))
      refine hK D ys _ _ _ hy ?hn F9 (cb_drop N9 (fun p hp => .tail _ hp)) (off1_mem o8)
      case hn => kst_all
end

end
-- Q2
section
theorem maxF_spec : ∀ (l : List (Option Int)) (b : Option Int), (∀ y, maxF b l = some y → (b = some y ∨ (some y ∈ l ∧ y ≠ 0)) ∧ (∀ x, some x ∈ l → x ≠ 0 → x ≤ y) ∧ (∀ z, b = some z → z ≤ y)) ∧ (maxF b l = none → b = none ∧ ∀ x, some x ∈ l → x = 0)
  | [], b => ⟨fun y h => ⟨.inl h, fun _ h => (nomatch h), fun z hz => by rw [show b = some y from h] at hz; cases hz; exact Int.le_refl _⟩, fun h => ⟨h, fun _ h => (nomatch h)⟩⟩
  | none :: r, b => by
    obtain ⟨h1, h2⟩ := maxF_spec r b
    refine ⟨fun y h => ?_, fun h => ?_⟩
    · obtain ⟨a1, a2, a3⟩ := h1 y h
      refine ⟨a1.imp id fun a => ⟨.tail _ a.1, a.2⟩, fun x hx => a2 x ?_, a3⟩
      cases hx with
      | tail _ h => exact h
    · obtain ⟨a1, a2⟩ := h2 h
      refine ⟨a1, fun x hx => a2 x ?_⟩
      cases hx with
      | tail _ h => exact h
  | some v :: r, b => by
    by_cases hv : v = 0
    · obtain ⟨h1, h2⟩ := maxF_spec r b
      have e : maxF b (some v :: r) = maxF b r := by simp [maxF, hv]
      rw [e]
      refine ⟨fun y h => ?_, fun h => ?_⟩
      · obtain ⟨a1, a2, a3⟩ := h1 y h
        refine ⟨a1.imp id fun a => ⟨.tail _ a.1, a.2⟩, fun x hx hx0 => ?_, a3⟩
        rcases List.mem_cons.mp hx with e | hx
        · cases e; exact absurd hv hx0
        · exact a2 x hx hx0
      · obtain ⟨a1, a2⟩ := h2 h
        refine ⟨a1, fun x hx => ?_⟩
        rcases List.mem_cons.mp hx with e | hx
        · cases e; exact hv
        · exact a2 x hx
    · obtain ⟨h1, h2⟩ := maxF_spec r (some (up b v))
      have e : maxF b (some v :: r) = maxF (some (up b v)) r := by simp [maxF, hv]
      rw [e]
      have u1 : v ≤ up b v := by unfold up; split <;> (try split) <;> omega
      have u2 : ∀ z, b = some z → z ≤ up b v := by intro z hz; subst hz; unfold up; dsimp only; split <;> omega
      have u3 : b = some (up b v) ∨ up b v = v := by
        cases b with
        | none => exact .inr rfl
        | some z => unfold up; dsimp only; split; exact .inr rfl; exact .inl rfl
      refine ⟨fun y h => ?_, fun h => ?_⟩
      · obtain ⟨a1, a2, a3⟩ := h1 y h
        have a4 := a3 _ rfl
        refine ⟨?_, fun x hx hx0 => ?_, fun z hz => Int.le_trans (u2 z hz) a4⟩
        · rcases a1 with a1 | a1
          · have a1 := Option.some.inj a1
            rcases u3 with u3 | u3
            · exact .inl (by rw [u3, a1])
            · right; rw [← a1, u3]; exact ⟨.head _, hv⟩
          · exact .inr ⟨.tail _ a1.1, a1.2⟩
        · rcases List.mem_cons.mp hx with e | hx
          · cases e; omega
          · exact a2 x hx hx0
      · exact absurd (h2 h).1 (by simp)
noncomputable def best3 (os : List (Option Int)) : Option Int := maxO (maxO (os.getD 0 none) (os.getD 1 none)) (os.getD 2 none)
theorem best3_none {os : List (Option Int)} (h3 : os.length = 3) (h : best3 os = none) : ∀ u, os.getD u none = none := by
  obtain ⟨a, b, c, rfl⟩ : ∃ a b c, os = [a, b, c] := by
    match os, h3 with
    | [a, b, c], _ => exact ⟨a, b, c, rfl⟩
  intro u
  cases a <;> cases b <;> cases c <;> first | cases h | skip
  match u with
  | 0 => rfl
  | 1 => rfl
  | 2 => rfl
  | n + 3 => rfl
theorem best3_some {os : List (Option Int)} {M : Int} (h : best3 os = some M) : (∃ u, u < 3 ∧ os.getD u none = some M) ∧ ∀ u x, u < 3 → os.getD u none = some x → x ≤ M := by
  have l0 : ∀ x, os.getD 0 none = some x → LeO x (best3 os) := fun x hx => .left (.left ⟨x, hx, Int.le_refl _⟩)
  have l1 : ∀ x, os.getD 1 none = some x → LeO x (best3 os) := fun x hx => .left (.right ⟨x, hx, Int.le_refl _⟩)
  have l2 : ∀ x, os.getD 2 none = some x → LeO x (best3 os) := fun x hx => .right ⟨x, hx, Int.le_refl _⟩
  constructor
  · rcases maxO_some h with h | h
    · rcases maxO_some h with h | h
      · exact ⟨0, by decide, h⟩
      · exact ⟨1, by decide, h⟩
    · exact ⟨2, by decide, h⟩
  · intro u x hu hx
    obtain rfl | rfl | rfl := lt3 hu
    · obtain ⟨y, hy, hl⟩ := l0 x hx
      rw [h] at hy; cases hy; exact hl
    · obtain ⟨y, hy, hl⟩ := l1 x hx
      rw [h] at hy; cases hy; exact hl
    · obtain ⟨y, hy, hl⟩ := l2 x hx
      rw [h] at hy; cases hy; exact hl
theorem max3 {os : List (Option Int)} {l : List (Option Int)} (f : Nat → Int → Int) (hl : ∀ x, some x ∈ l ↔ ∃ u v, u < 3 ∧ os.getD u none = some v ∧ x = f u v) :
    (maxF none l = none ∧ ∀ u v, u < 3 → os.getD u none = some v → f u v = 0) ∨ ∃ u v, u < 3 ∧ os.getD u none = some v ∧ maxF none l = some (f u v) ∧ f u v ≠ 0 ∧ ∀ u' v', u' < 3 → os.getD u' none = some v' → f u' v' ≠ 0 → f u' v' ≤ f u v := by
  obtain ⟨h1, h2⟩ := maxF_spec l none
  cases hm : maxF none l with
  | none => exact .inl ⟨rfl, fun u v hu h => (h2 hm).2 _ ((hl _).mpr ⟨u, v, hu, h, rfl⟩)⟩
  | some y =>
    obtain ⟨a1, a2, _⟩ := h1 y hm
    rcases a1 with a1 | ⟨a1, a0⟩
    · cases a1
    · obtain ⟨u, v, hu, hv, rfl⟩ := (hl y).mp a1
      exact .inr ⟨u, v, hu, hv, rfl, a0, fun u' v' hu' hv' h0 => a2 _ ((hl _).mpr ⟨u', v', hu', hv', rfl⟩) h0⟩
noncomputable def linF (u : Nat) (v : Int) : Int := if u = 0 then 10 ^ (v + 4).toNat - 1 else 10 ^ (v + 3).toNat
theorem pow10 {a b : Nat} (h : a ≤ b) : (10 : Int) ^ a ≤ 10 ^ b := by
  have h1 := Nat.pow_le_pow_right (n := 10) (by decide) h
  have h2 : ((10 ^ a : Nat) : Int) ≤ ((10 ^ b : Nat) : Int) := Int.ofNat_le.mpr h1
  simpa using h2
theorem linF_rg (u : Nat) {v : Int} (h : 0 ≤ v) : (10 : Int) ^ (v + 3).toNat ≤ linF u v ∧ linF u v < 10 ^ (v + 4).toNat ∧ 0 < linF u v := by
  have e : (v + 4).toNat = (v + 3).toNat + 1 := tnS h
  have hp : (0 : Int) < 10 ^ (v + 3).toNat := Int.pow_pos (by decide)
  unfold linF
  rw [e, Int.pow_succ]
  split <;> omega
noncomputable def slenOk (v : Nat) : Prop := slen (10 ^ (v + 4) - 1) = v + 4 ∧ slen (10 ^ (v + 3)) = v + 4
theorem slen_t0 : ∀ v : Fin 15, slen (10 ^ (v.1 + 4) - 1) = v.1 + 4 ∧ slen (10 ^ (v.1 + 3)) = v.1 + 4 := by decide +kernel
theorem slen_t1 : ∀ v : Fin 15, slen (10 ^ (15 + v.1 + 4) - 1) = (15 + v.1 : Nat) + 4 ∧ slen (10 ^ (15 + v.1 + 3)) = (15 + v.1 : Nat) + 4 := by decide +kernel
theorem slen_t2 : ∀ v : Fin 14, slen (10 ^ (30 + v.1 + 4) - 1) = (30 + v.1 : Nat) + 4 ∧ slen (10 ^ (30 + v.1 + 3)) = (30 + v.1 : Nat) + 4 := by decide +kernel
theorem slen_t3 : ∀ v : Fin 14, slen (10 ^ (44 + v.1 + 4) - 1) = (44 + v.1 : Nat) + 4 ∧ slen (10 ^ (44 + v.1 + 3)) = (44 + v.1 : Nat) + 4 := by decide +kernel
theorem slen_from {k n v : Nat} {P : Nat → Prop} (h : ∀ i : Fin n, P (k + i.1)) (a : k ≤ v) (b : v < k + n) : P v := by
  rw [← Nat.add_sub_cancel' a]; exact h ⟨v - k, Nat.sub_lt_left_of_lt_add a b⟩
theorem slen_tab (v : Nat) (h : v < 58) : slenOk v := by
  rcases Nat.lt_or_ge v 15 with a | a
  · exact slen_t0 ⟨v, a⟩
  rcases Nat.lt_or_ge v 30 with b | b
  · exact slen_from (P := slenOk) slen_t1 a b
  rcases Nat.lt_or_ge v 44 with c | c
  · exact slen_from (P := slenOk) slen_t2 b c
  · exact slen_from (P := slenOk) slen_t3 c h
theorem linF_len (u : Nat) {v : Int} (h : 0 ≤ v) (h' : v ≤ 57) : slen (linF u v) = v + 4 := by
  obtain ⟨n, rfl⟩ := Int.eq_ofNat_of_zero_le h
  obtain ⟨a, b⟩ := slen_tab n (by omega)
  have e1 := tn4 n
  have e2 := tn3' n
  unfold linF
  rw [e1, e2]
  split
  · exact a
  · exact b
theorem slen_tab2 : ∀ v : Nat, v < 58 → slen (10 * v) ≤ 3 ∧ slen (10 * v - 1) ≤ 3 := by decide +kernel
theorem len10 {v : Int} (h : 0 ≤ v) (h' : v ≤ 57) : slen (10 * v) ≤ 3 ∧ slen (10 * v - 1) ≤ 3 := by
  obtain ⟨n, rfl⟩ := Int.eq_ofNat_of_zero_le h
  exact slen_tab2 n (by omega)
theorem log_of {y : Int} (h : y.natAbs < 2 ^ 1920) : y.natAbs.log2 < 1920 := by
  by_cases e : y.natAbs = 0
  · rw [e]; decide
  · exact (Nat.log2_lt e).mpr h

end
-- L4
section
example : True := by w_top off; exact trivial
noncomputable def orBits (ks : List Int) : Int := ks.foldl (fun b k => Builtin.bitOr b (2 ^ k.toNat)) 0
theorem orBits_take {ks : List Int} {i : Nat} {d : Int} (h : ks[i]? = some d) : orBits (ks.take (i + 1)) = Builtin.bitOr (orBits (ks.take i)) (2 ^ d.toNat) := by
  unfold orBits
  rw [List.take_add_one, h, List.foldl_append]
  rfl
section
variable {w : World} {p : Program} {loose : List Str} {mean : ExcName → Option Value} {mg mb : Str → Option Value}
theorem t_v3 (j : Nat) (tv : Tok) (ks : List Int) (wk rwA kA : Addr) (kv : List Value) (kn : Nat) (news : Led) (dp un : Nat) (gd : Option (List Code)) (fa : Addr) (ccd : Value) (outer : List Env) (A₀ : Around) (base h₀ : Heap) (L : Addr) (m : Str → Option Value) (s : Shared) (Q : Flow → Shared → Prop) (E : Value → Shared → Prop) (restS : List Stmt)
    (B : Below A₀ base outer h₀) (F : Fr h₀ L s.heap m) (X : (Mine.hd.heap_39 w.params).In h₀) (T : Top p loose mean mg mb h₀)
    (N : News h₀ L s.heap news) (hd : dp + 300 < recursionLimit) (hu : un + 3000 < cLine) (hE : PassesOwn (model PySem.Challenge.rw_wo0033_01.row.prog w) (lawA dp un gd L fa ccd outer) (lawEnv L fa ccd) E)
    (m1 : (kA, listOf kv.toArray kn) ∈ news) (hi : IntsAre kv ks) (hks : ∀ k ∈ ks, 0 ≤ k ∧ k ≤ 57)
    (hk : ∀ p ∈ [(Str.ofString "walks", Value.ref wk), (Str.ofString "row", Value.ref rwA), (Str.ofString "v", Value.int (0 + (j : Int)) tv), (Str.ofString "known", Value.ref kA)], m p.1 = some p.2)
    (hK : ∀ t m' h' tk', (∀ p ∈ [(Str.ofString "walks", Value.ref wk), (Str.ofString "row", Value.ref rwA), (Str.ofString "v", Value.int (0 + (j : Int)) tv), (Str.ofString "known", Value.ref kA), (Str.ofString "bits", Value.int (orBits ks) t)], m' p.1 = some p.2) →
      Fr h₀ L h' m' → News h₀ L h' news →
      wpAny (model PySem.Challenge.rw_wo0033_01.row.prog w) (lawA dp un gd L fa ccd outer) (execs restS (lawEnv L fa ccd)) Q E { s with heap := h', toks := tk' }) :
    wpAny (model PySem.Challenge.rw_wo0033_01.row.prog w) (lawA dp un gd L fa ccd outer) (execs (vS 5 :: vS 6 :: restS) (lawEnv L fa ccd)) Q E s := by
  revert X; k_fill; intro X
  change wpAny _ (ktrTop dp un gd _ ⟨_, _, _, _, _⟩ L fa ccd _ outer) (execs (.Assign _ _ _ :: .For _ _ [.AugAssign _ _ _ _] _ _ :: restS) (envX _ ⟨_, _, _, _, _⟩ _ _ _ _)) _ _ _
  change PassesOwn _ (ktrTop dp un gd _ ⟨_, _, _, _, _⟩ L fa ccd _ outer) (envX _ ⟨_, _, _, _, _⟩ _ _ _ _) _ at hE
  replace F := fr_kst hk F
  dsimp only [kstB] at F
  iterate 6 (first | (k_unfold; (try dsimp only)) | (k_end; wrow_close) | (walk1; (try dsimp only)) | (dsimp only; walk1; (try dsimp only)) | (leave1; walk_say "STEP leave1"; try dsimp only))
  k_dflt (refine For_invV h₀ (by rfl) (by rfl) ?_ (by intro _; rfl) hE)
  (first | ((with_reducible ((k_here; (with_reducible show wpAny _ _ (eval _ (envX _ _ _ _ _ _)) _ _ _); k_dflt (first | (refine' nameX_L ?Fz151 ?vz151 ?_ ?az151 ?bz151; (case Fz151 => k_asm); (case az151 => rfl); (case bz151 => rfl); (case vz151 => rfl); k_whole) | (refine' nameX_C ?Nz151 ?cz151 ?mz151 ?dz151 ?_ ?az151 ?bz151; (case az151 => rfl); (case bz151 => rfl); (case Nz151 => k_asm); (case cz151 => rfl); (case mz151 => walk_at "my mem"); (case dz151 => assumption); k_whole) | (refine' nameX_K ?Fz151 ?Xz151 ?Tz151 ?ez151 ?_ ?az151 ?bz151; (case Fz151 => k_asm); (case Xz151 => k_asm); (case Tz151 => k_asm); (case az151 => rfl); (case bz151 => rfl); (case ez151 => k_is); k_whole) | (refine' nameX_B ?Fz151 ?Xz151 ?Tz151 ?ez151 ?vz151 ?nz151 ?_ ?az151 ?bz151; (case Fz151 => k_asm); (case Xz151 => k_asm); (case Tz151 => k_asm); (case az151 => rfl); (case bz151 => rfl); (case ez151 => k_is); (case vz151 => boot_fast); (case nz151 => decide); k_whole))))); (try dsimp only)) | (dsimp only; (with_reducible ((k_here; (with_reducible show wpAny _ _ (eval _ (envX _ _ _ _ _ _)) _ _ _); k_dflt (first | (refine' nameX_L ?Fz151 ?vz151 ?_ ?az151 ?bz151; (case Fz151 => k_asm); (case az151 => rfl); (case bz151 => rfl); (case vz151 => rfl); k_whole) | (refine' nameX_C ?Nz151 ?cz151 ?mz151 ?dz151 ?_ ?az151 ?bz151; (case az151 => rfl); (case bz151 => rfl); (case Nz151 => k_asm); (case cz151 => rfl); (case mz151 => walk_at "my mem"); (case dz151 => assumption); k_whole) | (refine' nameX_K ?Fz151 ?Xz151 ?Tz151 ?ez151 ?_ ?az151 ?bz151; (case Fz151 => k_asm); (case Xz151 => k_asm); (case Tz151 => k_asm); (case az151 => rfl); (case bz151 => rfl); (case ez151 => k_is); k_whole) | (refine' nameX_B ?Fz151 ?Xz151 ?Tz151 ?ez151 ?vz151 ?nz151 ?_ ?az151 ?bz151; (case Fz151 => k_asm); (case Xz151 => k_asm); (case Tz151 => k_asm); (case az151 => rfl); (case bz151 => rfl); (case ez151 => k_is); (case vz151 => boot_fast); (case nz151 => decide); k_whole))))); (try dsimp only)))
  rename Fr _ _ _ _ => F3
  rename News _ _ _ _ => N3
  refine loopList (fun i m₁ nw => nw = news ∧ ∃ t, ∀ p ∈ [(Str.ofString "walks", Value.ref wk), (Str.ofString "row", Value.ref rwA), (Str.ofString "v", Value.int (0 + (j : Int)) tv), (Str.ofString "known", Value.ref kA), (Str.ofString "bits", Value.int (orBits (ks.take i)) t)], m₁ p.1 = some p.2) rfl m1 ?hJl F3 N3 ?hj ?turn ?done
  case hJl => rintro i m nx ⟨e, _⟩; rw [e]; exact m1
  case hj =>
    refine ⟨rfl, s.toks, ?hn⟩
    case hn =>
      change ∀ p ∈ [_, _, _, _, (Str.ofString "bits", Value.int 0 s.toks)], _
      kst_all
  case turn =>
    clear F3 N3
    rintro i v m₁ nw h tk I oI hv ⟨hnw, t, hk9⟩ hoff F9 N9
    subst hnw
    obtain ⟨d, td, rfl, hd9⟩ := IntsAre.at hi i v hv
    have hb := hks d (List.mem_of_getElem? hd9)
    replace F9 := fr_kstx hk9 F9
    dsimp only [kstB] at F9
    iterate 2 (first | (k_unfold; (try dsimp only)) | (k_end; wrow_close) | (walk1; (try dsimp only)) | (dsimp only; walk1; (try dsimp only)) | (leave1; walk_say "STEP leave1"; try dsimp only))
    (first | ((with_reducible ((k_here; k_dflt (refine wpAny_loadName_local (by rfl) (by rfl) (PyProof.Rows.Fr.ns (by k_asm)) (by rfl) ?_)))); (try dsimp only)) | (dsimp only; (with_reducible ((k_here; k_dflt (refine wpAny_loadName_local (by rfl) (by rfl) (PyProof.Rows.Fr.ns (by k_asm)) (by rfl) ?_)))); (try dsimp only)))
    iterate 2 (first | (k_unfold; (try dsimp only)) | (k_end; wrow_close) | (walk1; (try dsimp only)) | (dsimp only; walk1; (try dsimp only)) | (leave1; walk_say "STEP leave1"; try dsimp only))
    (first | ((with_reducible ((k_here; (with_reducible show wpAny _ _ (eval _ (envX _ _ _ _ _ _)) _ _ _); k_dflt (first | (refine' nameX_L ?Fz153 ?vz153 ?_ ?az153 ?bz153; (case Fz153 => k_asm); (case az153 => rfl); (case bz153 => rfl); (case vz153 => rfl); k_whole) | (refine' nameX_C ?Nz153 ?cz153 ?mz153 ?dz153 ?_ ?az153 ?bz153; (case az153 => rfl); (case bz153 => rfl); (case Nz153 => k_asm); (case cz153 => rfl); (case mz153 => walk_at "my mem"); (case dz153 => assumption); k_whole) | (refine' nameX_K ?Fz153 ?Xz153 ?Tz153 ?ez153 ?_ ?az153 ?bz153; (case Fz153 => k_asm); (case Xz153 => k_asm); (case Tz153 => k_asm); (case az153 => rfl); (case bz153 => rfl); (case ez153 => k_is); k_whole) | (refine' nameX_B ?Fz153 ?Xz153 ?Tz153 ?ez153 ?vz153 ?nz153 ?_ ?az153 ?bz153; (case Fz153 => k_asm); (case Xz153 => k_asm); (case Tz153 => k_asm); (case az153 => rfl); (case bz153 => rfl); (case ez153 => k_is); (case vz153 => boot_fast); (case nz153 => decide); k_whole))))); (try dsimp only)) | (dsimp only; (with_reducible ((k_here; (with_reducible show wpAny _ _ (eval _ (envX _ _ _ _ _ _)) _ _ _); k_dflt (first | (refine' nameX_L ?Fz153 ?vz153 ?_ ?az153 ?bz153; (case Fz153 => k_asm); (case az153 => rfl); (case bz153 => rfl); (case vz153 => rfl); k_whole) | (refine' nameX_C ?Nz153 ?cz153 ?mz153 ?dz153 ?_ ?az153 ?bz153; (case az153 => rfl); (case bz153 => rfl); (case Nz153 => k_asm); (case cz153 => rfl); (case mz153 => walk_at "my mem"); (case dz153 => assumption); k_whole) | (refine' nameX_K ?Fz153 ?Xz153 ?Tz153 ?ez153 ?_ ?az153 ?bz153; (case Fz153 => k_asm); (case Xz153 => k_asm); (case Tz153 => k_asm); (case az153 => rfl); (case bz153 => rfl); (case ez153 => k_is); k_whole) | (refine' nameX_B ?Fz153 ?Xz153 ?Tz153 ?ez153 ?vz153 ?nz153 ?_ ?az153 ?bz153; (case Fz153 => k_asm); (case Xz153 => k_asm); (case Tz153 => k_asm); (case az153 => rfl); (case bz153 => rfl); (case ez153 => k_is); (case vz153 => boot_fast); (case nz153 => decide); k_whole))))); (try dsimp only)))
    iterate 5 (first | (k_unfold; (try dsimp only)) | (k_end; wrow_close) | (walk1; (try dsimp only)) | (dsimp only; walk1; (try dsimp only)) | (leave1; walk_say "STEP leave1"; try dsimp only))
    rename Fr _ _ _ _ => F8
    rename News _ _ _ _ => N8
    rw [orBits_take hd9]
    refine' ⟨_, _, _, nw, rfl, F8, N8, fun p hp e => hoff p hp (List.mem_singleton.mp e), rfl, _, ?hn⟩
    case hn => kst_all
  case done =>
    rintro m' nw' h' tk' ⟨e, t, hk9⟩ F' N'
    subst e
    rw [hi.length, List.take_length] at hk9
    exact hK t m' h' tk' hk9 F' N'
end

end
-- P2
section
noncomputable def bestO (os : List (Option Int)) : Option Int := maxO (maxO (os.getD 0 none) (os.getD 1 none)) (os.getD 2 none)
noncomputable def widO : Option Int → Int
  | none => 0
  | some M => M + 4
noncomputable def linesL (os : List (Option Int)) (n : Nat) : List (Option Int) := (List.range n).map fun (u : Nat) => lineO (0 + (u : Int)) (os.getD u none)
noncomputable def Bd (os : List (Option Int)) : Prop := ∀ v, some v ∈ os → 0 ≤ v ∧ v ≤ 57
theorem known_bd {os : List (Option Int)} (hb : Bd os) : ∀ k ∈ knownL os, 0 ≤ k ∧ k ≤ 57 := by
  intro k hk
  obtain ⟨a, ha, e⟩ := List.mem_filterMap.mp hk
  exact hb k ((show a = some k from e) ▸ ha)
theorem known_mem {os : List (Option Int)} {k : Int} : k ∈ knownL os ↔ some k ∈ os := by
  unfold knownL
  rw [List.mem_filterMap]
  exact ⟨fun ⟨a, ha, e⟩ => (show a = some k from e) ▸ ha, fun h => ⟨_, h, rfl⟩⟩
theorem mem3 {os : List (Option Int)} (h3 : os.length = 3) {x : Int} : some x ∈ os ↔ ∃ u, u < 3 ∧ os.getD u none = some x := by
  constructor
  · intro h
    obtain ⟨i, hi, e⟩ := List.mem_iff_getElem.mp h
    exact ⟨i, h3 ▸ hi, by rw [List.getD_eq_getElem?_getD, List.getElem?_eq_getElem hi, e]; rfl⟩
  · rintro ⟨u, hu, e⟩
    rw [List.getD_eq_getElem?_getD, List.getElem?_eq_getElem (h3 ▸ hu)] at e
    exact (show os[u] = some x from e) ▸ List.getElem_mem _
theorem bd3 {os : List (Option Int)} (h3 : os.length = 3) (hb : Bd os) {u : Nat} {v : Int} (hu : u < 3) (h : os.getD u none = some v) : 0 ≤ v ∧ v ≤ 57 := hb v ((mem3 h3).mpr ⟨u, hu, h⟩)
theorem lines_mem {os : List (Option Int)} (x : Int) : some x ∈ linesL os 3 ↔ ∃ u v, u < 3 ∧ os.getD u none = some v ∧ x = linF u v := by
  have key : ∀ u : Nat, lineO (0 + (u : Int)) (os.getD u none) = some x ↔ ∃ v, os.getD u none = some v ∧ x = linF u v := by
    intro u
    cases h : os.getD u none with
    | none => exact ⟨fun h => (nomatch h), fun ⟨v, h, _⟩ => (nomatch h)⟩
    | some v =>
      have e : lineO (0 + (u : Int)) (some v) = some (linF u v) := by
        unfold lineO linF
        by_cases hu : u = 0
        · subst hu; rfl
        · have : ¬ (0 + (u : Int) = 0) := by omega
          simp only [hu, this, if_false]
      rw [e]
      exact ⟨fun h => ⟨v, rfl, (Option.some.inj h).symm⟩, fun ⟨v', h, e⟩ => by cases h; rw [e]⟩
  unfold linesL
  rw [List.mem_map]
  exact ⟨fun ⟨u, hu, e⟩ => by obtain ⟨v, h, e⟩ := (key u).mp e; exact ⟨u, v, List.mem_range.mp hu, h, e⟩, fun ⟨u, v, hu, h, e⟩ => ⟨u, List.mem_range.mpr hu, (key u).mpr ⟨v, h, e⟩⟩⟩
theorem max_lines {os : List (Option Int)} (h3 : os.length = 3) (hb : Bd os) : (bestO os = none ∧ maxF none (linesL os 3) = none) ∨ ∃ u M, 0 ≤ M ∧ M ≤ 57 ∧ bestO os = some M ∧ maxF none (linesL os 3) = some (linF u M) := by
  rcases max3 linF lines_mem with ⟨h1, h2⟩ | ⟨u, v, hu, hv, h1, h2, hmax⟩
  · left
    refine ⟨?_, h1⟩
    cases hM : bestO os with
    | none => rfl
    | some M =>
      obtain ⟨⟨u, hu, e⟩, _⟩ := best3_some hM
      have := h2 u M hu e
      have b := bd3 h3 hb hu e
      have := (linF_rg u b.1).2.2
      omega
  · right
    have bv := bd3 h3 hb hu hv
    cases hM : bestO os with
    | none => have := best3_none h3 hM u; rw [hv] at this; cases this
    | some M =>
      obtain ⟨⟨u', hu', e⟩, hle⟩ := best3_some hM
      have l1 := hle u v hu hv
      have b := bd3 h3 hb hu' e
      have r' := linF_rg u' b.1
      have r := linF_rg u bv.1
      have l2 := hmax u' M hu' e (by omega)
      by_cases hlt : v < M
      · have p := pow10 (a := (v + 4).toNat) (b := (M + 3).toNat) (tnM hlt)
        omega
      · obtain rfl : v = M := by omega
        exact ⟨u, v, b.1, b.2, rfl, h1⟩
theorem glw_some {l : List (Option Int)} {y : Int} (h : maxF none l = some y) : glw l = if y = -1 then 0 else if (if slen y > 3 then slen y else 3) < 4 ∧ hasNone l = true then 4 else if slen y > 3 then slen y else 3 := by
  have e : mx l = y := by unfold mx; rw [h]; rfl
  simp only [glw, wid, e]
theorem glw_lines {os : List (Option Int)} (h3 : os.length = 3) (hb : Bd os) : glw (linesL os 3) = widO (bestO os) := by
  rcases max_lines h3 hb with ⟨h1, h2⟩ | ⟨u, M, b1, b2, h1, h2⟩
  · rw [h1]; unfold glw mx; rw [h2]; rfl
  · rw [h1]
    have r := linF_rg u b1
    have l := linF_len u b1 b2
    rw [glw_some h2, if_neg (by omega : ¬ linF u M = -1), if_pos (by omega : slen (linF u M) > 3), l, if_neg (by omega)]
    rfl
theorem lin_small (u : Nat) {v : Int} (h : 0 ≤ v) (h' : v ≤ 57) : (linF u v).natAbs < 2 ^ 1920 := by
  have r := linF_rg u h
  have p := pow10 (a := (v + 4).toNat) (b := 61) (by omega)
  have : (linF u v).natAbs < 10 ^ 61 := by
    have e : ((10 : Int) ^ 61) = ((10 ^ 61 : Nat) : Int) := by decide +kernel
    omega
  exact Nat.lt_trans this (by decide +kernel)
theorem log_lines {os : List (Option Int)} (h3 : os.length = 3) (hb : Bd os) : ((maxF none (linesL os 3)).getD (-1)).natAbs.log2 < 1920 := by
  rcases max_lines h3 hb with ⟨h1, h2⟩ | ⟨u, M, b1, b2, h1, h2⟩
  · rw [h2]; decide
  · rw [h2]; exact log_of (lin_small u b1 b2)
theorem len_lines {os : List (Option Int)} (h3 : os.length = 3) (hb : Bd os) : ((Str.ofString (toString ((maxF none (linesL os 3)).getD (-1)))).length : Int) < 9223372036854775808 := by
  rcases max_lines h3 hb with ⟨h1, h2⟩ | ⟨u, M, b1, b2, h1, h2⟩
  · rw [h2]; decide +kernel
  · have l := linF_len u b1 b2
    rw [h2]
    show slen (linF u M) < _
    omega
theorem hb_or {os : List (Option Int)} (h3 : os.length = 3) (hb : Bd os) : (Builtin.Int.intBits (orBits (knownL os)) : Int) - 1 = (bestO os).getD (-1) := by
  cases hM : bestO os with
  | none =>
    have h := best3_none h3 hM
    have e : knownL os = [] := by
      rw [List.eq_nil_iff_forall_not_mem]
      intro k hk
      obtain ⟨u, _, hu⟩ := (mem3 h3).mp (known_mem.mp hk)
      rw [h u] at hu; cases hu
    rw [e]; rfl
  | some M =>
    obtain ⟨⟨u, hu, e⟩, hle⟩ := best3_some hM
    have hm : M ∈ knownL os := known_mem.mpr ((mem3 h3).mpr ⟨u, hu, e⟩)
    have := bits_or (ks := knownL os) (fun k hk => (known_bd hb k hk).1) hm (fun x hx => by obtain ⟨u, hu, e⟩ := (mem3 h3).mp (known_mem.mp hx); exact hle u x hu e)
    show (Builtin.Int.intBits (orB (knownL os)) : Int) - 1 = M
    omega
theorem one_cons {ks : List Int} (hb : ∀ k ∈ ks, 0 ≤ k ∧ k ≤ 57) {a b : Int} (ha : a ∈ ks) (ha' : ∀ x ∈ ks, a ≤ x) (hb1 : b ∈ ks) (hb' : ∀ x ∈ ks, x ≤ b) : oneBit (orBits ks) = decide (a = b) :=
  one_cons' (fun k hk => (hb k hk).1) ha ha' hb1 hb'
noncomputable def bareL (os : List (Option Int)) (n : Nat) : List (Option Int) := ((List.range n).filter fun u => (os.getD u none).isSome).map fun u => (os.getD u none).map fun v => 10 * v - 1
noncomputable def truO : Option Int → Bool
  | none => false
  | some M => M != 0
theorem bare_mem {os : List (Option Int)} (x : Int) : some x ∈ bareL os 3 ↔ ∃ u v, u < 3 ∧ os.getD u none = some v ∧ x = (fun (_ : Nat) v => 10 * v - 1) u v := by
  unfold bareL
  rw [List.mem_map]
  constructor
  · rintro ⟨u, hu, e⟩
    obtain ⟨hu, _⟩ := List.mem_filter.mp hu
    obtain ⟨v, hv, e⟩ := Option.map_eq_some_iff.mp e
    exact ⟨u, v, List.mem_range.mp hu, hv, e.symm⟩
  · rintro ⟨u, v, hu, hv, e⟩
    exact ⟨u, List.mem_filter.mpr ⟨List.mem_range.mpr hu, by rw [hv]; rfl⟩, by rw [hv, e]; rfl⟩
noncomputable def fullL (os : List (Option Int)) (n : Nat) : List (Option Int) := (List.range n).map fun (u : Nat) => (os.getD u none).map fun v => 10 * v
theorem full_mem {os : List (Option Int)} (x : Int) : some x ∈ fullL os 3 ↔ ∃ u v, u < 3 ∧ os.getD u none = some v ∧ x = (fun (_ : Nat) v => 10 * v) u v := by
  unfold fullL
  rw [List.mem_map]
  constructor
  · rintro ⟨u, hu, e⟩
    obtain ⟨v, hv, e⟩ := Option.map_eq_some_iff.mp e
    exact ⟨u, v, List.mem_range.mp hu, hv, e.symm⟩
  · rintro ⟨u, v, hu, hv, e⟩
    exact ⟨u, List.mem_range.mpr hu, by rw [hv, e]; rfl⟩
theorem hasNone_iff : ∀ {l : List (Option Int)}, hasNone l = true ↔ none ∈ l
  | [] => ⟨fun h => (nomatch h), fun h => (nomatch h)⟩
  | none :: r => ⟨fun _ => .head _, fun _ => rfl⟩
  | some x :: r => by
    show hasNone r = true ↔ _
    rw [hasNone_iff, List.mem_cons]
    exact ⟨.inr, fun h => h.elim (fun h => (nomatch h)) id⟩
theorem bare_none (os : List (Option Int)) : hasNone (bareL os 3) = false := by
  cases h : hasNone (bareL os 3) with
  | false => rfl
  | true =>
    obtain ⟨u, hu, e⟩ := List.mem_map.mp (hasNone_iff.mp h)
    have := (List.mem_filter.mp hu).2
    rw [Option.map_eq_none_iff.mp e] at this
    cases this
theorem max_bare {os : List (Option Int)} (h3 : os.length = 3) (hb : Bd os) : (bestO os = none ∧ maxF none (bareL os 3) = none) ∨ ∃ M, 0 ≤ M ∧ M ≤ 57 ∧ bestO os = some M ∧ maxF none (bareL os 3) = some (10 * M - 1) := by
  rcases max3 _ bare_mem with ⟨h1, h2⟩ | ⟨u, v, hu, hv, h1, h2, hmax⟩
  · left
    refine ⟨?_, h1⟩
    cases hM : bestO os with
    | none => rfl
    | some M =>
      obtain ⟨⟨u, hu, e⟩, _⟩ := best3_some hM
      have : 10 * M - 1 = 0 := h2 u M hu e
      omega
  · right
    have bv := bd3 h3 hb hu hv
    cases hM : bestO os with
    | none => have := best3_none h3 hM u; rw [hv] at this; cases this
    | some M =>
      obtain ⟨⟨u', hu', e⟩, hle⟩ := best3_some hM
      have l1 := hle u v hu hv
      have b := bd3 h3 hb hu' e
      have l2 : 10 * M - 1 ≤ 10 * v - 1 := hmax u' M hu' e (by omega)
      obtain rfl : v = M := by omega
      exact ⟨v, b.1, b.2, rfl, h1⟩
theorem glw_bare {os : List (Option Int)} (h3 : os.length = 3) (hb : Bd os) : glw (bareL os 3) = if truO (bestO os) = true then 3 else 0 := by
  rcases max_bare h3 hb with ⟨h1, h2⟩ | ⟨M, b1, b2, h1, h2⟩
  · rw [h1]; unfold glw mx; rw [h2]; rfl
  · rw [h1]
    have l := (len10 b1 b2).2
    rw [glw_some h2, bare_none]
    show _ = if (M != 0) = true then 3 else 0
    by_cases e : M = 0
    · subst e; rfl
    · rw [if_neg (by omega), if_neg (fun h => (nomatch h.2)), if_neg (by omega), if_pos (by simpa using e)]
theorem log_bare {os : List (Option Int)} (h3 : os.length = 3) (hb : Bd os) : ((maxF none (bareL os 3)).getD (-1)).natAbs.log2 < 1920 := by
  rcases max_bare h3 hb with ⟨h1, h2⟩ | ⟨M, b1, b2, h1, h2⟩
  · rw [h2]; decide
  · rw [h2]; refine log_of (Nat.lt_trans (m := 1000) ?_ (by decide +kernel)); show (10 * M - 1).natAbs < 1000; omega
theorem len_bare {os : List (Option Int)} (h3 : os.length = 3) (hb : Bd os) : ((Str.ofString (toString ((maxF none (bareL os 3)).getD (-1)))).length : Int) < 9223372036854775808 := by
  rcases max_bare h3 hb with ⟨h1, h2⟩ | ⟨M, b1, b2, h1, h2⟩
  · rw [h2]; decide +kernel
  · have l := (len10 b1 b2).2
    rw [h2]
    show slen (10 * M - 1) < _
    omega
noncomputable def colI (os : List (Option Int)) : Int := if hasNone os = true then 4 else 3
theorem full_none {os : List (Option Int)} (h3 : os.length = 3) : hasNone (fullL os 3) = hasNone os := by
  obtain ⟨a, b, c, rfl⟩ : ∃ a b c, os = [a, b, c] := by
    match os, h3 with
    | [a, b, c], _ => exact ⟨a, b, c, rfl⟩
  cases a <;> cases b <;> cases c <;> rfl
theorem max_full {os : List (Option Int)} (h3 : os.length = 3) (hb : Bd os) : (truO (bestO os) = false ∧ maxF none (fullL os 3) = none) ∨ ∃ M, 0 < M ∧ M ≤ 57 ∧ bestO os = some M ∧ maxF none (fullL os 3) = some (10 * M) := by
  rcases max3 _ full_mem with ⟨h1, h2⟩ | ⟨u, v, hu, hv, h1, h2, hmax⟩
  · left
    refine ⟨?_, h1⟩
    cases hM : bestO os with
    | none => rfl
    | some M =>
      obtain ⟨⟨u, hu, e⟩, _⟩ := best3_some hM
      have : 10 * M = 0 := h2 u M hu e
      obtain rfl : M = 0 := by omega
      rfl
  · right
    have bv := bd3 h3 hb hu hv
    cases hM : bestO os with
    | none => have := best3_none h3 hM u; rw [hv] at this; cases this
    | some M =>
      obtain ⟨⟨u', hu', e⟩, hle⟩ := best3_some hM
      have l1 := hle u v hu hv
      have b := bd3 h3 hb hu' e
      have h2 : 10 * v ≠ 0 := h2
      have l2 : 10 * M ≤ 10 * v := hmax u' M hu' e (by omega)
      obtain rfl : v = M := by omega
      exact ⟨v, by omega, b.2, rfl, h1⟩
theorem glw_full {os : List (Option Int)} (h3 : os.length = 3) (hb : Bd os) : glw (fullL os 3) = if truO (bestO os) = true then colI os else 0 := by
  rcases max_full h3 hb with ⟨h1, h2⟩ | ⟨M, b1, b2, h1, h2⟩
  · rw [h1]; unfold glw mx; rw [h2]; rfl
  · rw [h1]
    have l := (len10 (Int.le_of_lt b1) b2).1
    rw [glw_some h2, full_none h3]
    show _ = if (M != 0) = true then colI os else 0
    rw [if_neg (by omega : ¬ (10 * M = -1)), if_neg (by omega : ¬ slen (10 * M) > 3), if_pos (by simp; omega : (M != 0) = true)]
    unfold colI
    cases hasNone os with
    | false => rfl
    | true => rfl
theorem log_full {os : List (Option Int)} (h3 : os.length = 3) (hb : Bd os) : ((maxF none (fullL os 3)).getD (-1)).natAbs.log2 < 1920 := by
  rcases max_full h3 hb with ⟨h1, h2⟩ | ⟨M, b1, b2, h1, h2⟩
  · rw [h2]; decide
  · rw [h2]; refine log_of (Nat.lt_trans (m := 1000) ?_ (by decide +kernel)); show (10 * M).natAbs < 1000; omega
theorem len_full {os : List (Option Int)} (h3 : os.length = 3) (hb : Bd os) : ((Str.ofString (toString ((maxF none (fullL os 3)).getD (-1)))).length : Int) < 9223372036854775808 := by
  rcases max_full h3 hb with ⟨h1, h2⟩ | ⟨M, b1, b2, h1, h2⟩
  · rw [h2]; decide +kernel
  · have l := (len10 (Int.le_of_lt b1) b2).1
    rw [h2]
    show slen (10 * M) < _
    omega
theorem known_nil {os : List (Option Int)} (h3 : os.length = 3) (h : knownL os = []) : bestO os = none := by
  cases hM : bestO os with
  | none => rfl
  | some M =>
    obtain ⟨⟨u, hu, e⟩, _⟩ := best3_some hM
    have hm : M ∈ knownL os := known_mem.mpr ((mem3 h3).mpr ⟨u, hu, e⟩)
    rw [h] at hm
    cases hm
theorem best_bd {os : List (Option Int)} (h3 : os.length = 3) (hb : Bd os) : ∀ M, bestO os = some M → 0 ≤ M ∧ M ≤ 57 := by
  intro M hM
  obtain ⟨⟨u, hu, e⟩, _⟩ := best3_some hM
  exact bd3 h3 hb hu e

end
-- L5
section
example : True := by w_top off; exact trivial
theorem stored_new {kvs : List (Int × Value)} {k : Int} {v : Value} (h : ∀ kv ∈ kvs, kv.1 ≠ k) : stored kvs k v = kvs ++ [(k, v)] := by
  unfold stored
  rw [if_neg]
  intro e
  obtain ⟨kv, hm, he⟩ := List.any_eq_true.mp e
  exact h kv hm (by simpa using he)
theorem getD_mem {os : List (Option Int)} {i : Nat} {v : Int} (h : os.getD i none = some v) : some v ∈ os := by
  rw [List.getD_eq_getElem?_getD] at h
  cases e : os[i]? with
  | none => rw [e] at h; cases h
  | some o => rw [e] at h; rw [← show o = some v from h]; exact List.mem_of_getElem? e
theorem keys_new {kvs : List (Int × Value)} {i : Nat} (h : kvs.map (·.1) = (List.range i).map (fun (u : Nat) => 2 * (0 + (u : Int)))) : ∀ kv ∈ kvs, kv.1 ≠ 2 * (0 + (i : Int)) := by
  intro kv hm e
  have h1 : kv.1 ∈ kvs.map (·.1) := List.mem_map_of_mem hm
  rw [h] at h1
  obtain ⟨u, hu, e2⟩ := List.mem_map.mp h1
  have := List.mem_range.mp hu
  omega
theorem linesL_succ (os : List (Option Int)) (i : Nat) : linesL os (i + 1) = linesL os i ++ [lineO (0 + (i : Int)) (os.getD i none)] := by
  simp only [linesL, List.range_succ, List.map_append, List.map_cons, List.map_nil]
section
variable {w : World} {p : Program} {loose : List Str} {mean : ExcName → Option Value} {mg mb : Str → Option Value}
theorem t_v4 (j : Nat) (tv tb : Tok) (os : List (Option Int)) (wk rwA kA lA : Addr) (lv : List Value) (ln : Nat) (o2 : Obj) (news : Led) (dp un : Nat) (gd : Option (List Code)) (fa : Addr) (ccd : Value) (outer : List Env) (A₀ : Around) (base h₀ : Heap) (L : Addr) (m : Str → Option Value) (s : Shared) (Q : Flow → Shared → Prop) (E : Value → Shared → Prop) (restS : List Stmt)
    (B : Below A₀ base outer h₀) (F : Fr h₀ L s.heap m) (X : (Mine.hd.heap_39 w.params).In h₀) (T : Top p loose mean mg mb h₀)
    (N : News h₀ L s.heap news) (hd : dp + 300 < recursionLimit) (hu : un + 3000 < cLine)
    (m1 : (lA, listOf lv.toArray ln) ∈ news) (m2 : (L + 1 + 1, o2) ∈ news) (d2 : o2.data = .cell (some (.ref lA)))
    (hl : OvL os lv) (hol : os.length = 3) (hb : Bd os)
    (hk : ∀ p ∈ [(Str.ofString "walks", Value.ref wk), (Str.ofString "row", Value.ref rwA), (Str.ofString "v", Value.int (0 + (j : Int)) tv), (Str.ofString "known", Value.ref kA), (Str.ofString "bits", Value.int (orBits (knownL os)) tb)], m p.1 = some p.2)
    (hK : ∀ t m' h' tk', (∀ p ∈ [(Str.ofString "walks", Value.ref wk), (Str.ofString "row", Value.ref rwA), (Str.ofString "v", Value.int (0 + (j : Int)) tv), (Str.ofString "known", Value.ref kA), (Str.ofString "bits", Value.int (orBits (knownL os)) tb), (Str.ofString "width", Value.int (widO (bestO os)) t)], m' p.1 = some p.2) →
      Fr h₀ L h' m' → News h₀ L h' news →
      wpAny (model PySem.Challenge.rw_wo0033_01.row.prog w) (lawA dp un gd L fa ccd outer) (execs restS (lawEnv L fa ccd)) Q E { s with heap := h', toks := tk' }) :
    wpAny (model PySem.Challenge.rw_wo0033_01.row.prog w) (lawA dp un gd L fa ccd outer) (execs (vS 7 :: vS 8 :: restS) (lawEnv L fa ccd)) Q E s := by
  revert X; k_fill; intro X
  change wpAny _ (ktrTop dp un gd _ ⟨_, _, _, _, _⟩ L fa ccd _ outer) (execs (.Assign _ _ _ :: .If _ _ _ _ :: restS) (envX _ ⟨_, _, _, _, _⟩ _ _ _ _)) _ _ _
  replace F := fr_kst hk F
  dsimp only [kstB] at F
  have hlv := hl.length
  iterate 3 (first | (k_unfold; (try dsimp only)) | (k_end; wrow_close) | (walk1; (try dsimp only)) | (dsimp only; walk1; (try dsimp only)) | (leave1; walk_say "STEP leave1"; try dsimp only))
  (first | ((with_reducible ((k_here; (with_reducible show wpAny _ _ (eval _ (envX _ _ _ _ _ _)) _ _ _); k_dflt (first | (refine' nameX_L ?Fz154 ?vz154 ?_ ?az154 ?bz154; (case Fz154 => k_asm); (case az154 => rfl); (case bz154 => rfl); (case vz154 => rfl); k_whole) | (refine' nameX_C ?Nz154 ?cz154 ?mz154 ?dz154 ?_ ?az154 ?bz154; (case az154 => rfl); (case bz154 => rfl); (case Nz154 => k_asm); (case cz154 => rfl); (case mz154 => walk_at "my mem"); (case dz154 => assumption); k_whole) | (refine' nameX_K ?Fz154 ?Xz154 ?Tz154 ?ez154 ?_ ?az154 ?bz154; (case Fz154 => k_asm); (case Xz154 => k_asm); (case Tz154 => k_asm); (case az154 => rfl); (case bz154 => rfl); (case ez154 => k_is); k_whole) | (refine' nameX_B ?Fz154 ?Xz154 ?Tz154 ?ez154 ?vz154 ?nz154 ?_ ?az154 ?bz154; (case Fz154 => k_asm); (case Xz154 => k_asm); (case Tz154 => k_asm); (case az154 => rfl); (case bz154 => rfl); (case ez154 => k_is); (case vz154 => boot_fast); (case nz154 => decide); k_whole))))); (try dsimp only)) | (dsimp only; (with_reducible ((k_here; (with_reducible show wpAny _ _ (eval _ (envX _ _ _ _ _ _)) _ _ _); k_dflt (first | (refine' nameX_L ?Fz154 ?vz154 ?_ ?az154 ?bz154; (case Fz154 => k_asm); (case az154 => rfl); (case bz154 => rfl); (case vz154 => rfl); k_whole) | (refine' nameX_C ?Nz154 ?cz154 ?mz154 ?dz154 ?_ ?az154 ?bz154; (case az154 => rfl); (case bz154 => rfl); (case Nz154 => k_asm); (case cz154 => rfl); (case mz154 => walk_at "my mem"); (case dz154 => assumption); k_whole) | (refine' nameX_K ?Fz154 ?Xz154 ?Tz154 ?ez154 ?_ ?az154 ?bz154; (case Fz154 => k_asm); (case Xz154 => k_asm); (case Tz154 => k_asm); (case az154 => rfl); (case bz154 => rfl); (case ez154 => k_is); k_whole) | (refine' nameX_B ?Fz154 ?Xz154 ?Tz154 ?ez154 ?vz154 ?nz154 ?_ ?az154 ?bz154; (case Fz154 => k_asm); (case Xz154 => k_asm); (case Tz154 => k_asm); (case az154 => rfl); (case bz154 => rfl); (case ez154 => k_is); (case vz154 => boot_fast); (case nz154 => decide); k_whole))))); (try dsimp only)))
  (first | ((with_reducible ((k_here; k_dflt (first | refine' callWith_K ?k1z155 ?k2z155 ?_; (case k1z155 => k_asm); (case k2z155 => k_is); k_whole | refine' callWith_KW ?k1z155 ?k2z155 ?k3z155 ?_; (case k1z155 => k_asm); (case k2z155 => k_is); (case k3z155 => exact rfl); k_whole)))); (try dsimp only)) | (dsimp only; (with_reducible ((k_here; k_dflt (first | refine' callWith_K ?k1z155 ?k2z155 ?_; (case k1z155 => k_asm); (case k2z155 => k_is); k_whole | refine' callWith_KW ?k1z155 ?k2z155 ?k3z155 ?_; (case k1z155 => k_asm); (case k2z155 => k_is); (case k3z155 => exact rfl); k_whole)))); (try dsimp only)))
  iterate 1 (first | (k_unfold; (try dsimp only)) | (k_end; wrow_close) | (walk1; (try dsimp only)) | (dsimp only; walk1; (try dsimp only)) | (leave1; walk_say "STEP leave1"; try dsimp only))
  (first | ((with_reducible ((k_here; k_dflt (refine DictComp_J (intKind _ _) (by k_asm) (by rfl) (by decide) (by rfl) (by decide) (by rfl) ?_)))); (try dsimp only)) | (dsimp only; (with_reducible ((k_here; k_dflt (refine DictComp_J (intKind _ _) (by k_asm) (by rfl) (by decide) (by rfl) (by decide) (by rfl) ?_)))); (try dsimp only)))
  iterate 1 (first | (k_unfold; (try dsimp only)) | (k_end; wrow_close) | (walk1; (try dsimp only)) | (dsimp only; walk1; (try dsimp only)) | (leave1; walk_say "STEP leave1"; try dsimp only))
  (first | ((with_reducible ((k_here; (with_reducible show wpAny _ _ (eval _ (envX _ _ _ _ _ _)) _ _ _); k_dflt (first | (refine' nameX_L ?Fz157 ?vz157 ?_ ?az157 ?bz157; (case Fz157 => k_asm); (case az157 => rfl); (case bz157 => rfl); (case vz157 => rfl); k_whole) | (refine' nameX_C ?Nz157 ?cz157 ?mz157 ?dz157 ?_ ?az157 ?bz157; (case az157 => rfl); (case bz157 => rfl); (case Nz157 => k_asm); (case cz157 => rfl); (case mz157 => walk_at "my mem"); (case dz157 => assumption); k_whole) | (refine' nameX_K ?Fz157 ?Xz157 ?Tz157 ?ez157 ?_ ?az157 ?bz157; (case Fz157 => k_asm); (case Xz157 => k_asm); (case Tz157 => k_asm); (case az157 => rfl); (case bz157 => rfl); (case ez157 => k_is); k_whole) | (refine' nameX_B ?Fz157 ?Xz157 ?Tz157 ?ez157 ?vz157 ?nz157 ?_ ?az157 ?bz157; (case Fz157 => k_asm); (case Xz157 => k_asm); (case Tz157 => k_asm); (case az157 => rfl); (case bz157 => rfl); (case ez157 => k_is); (case vz157 => boot_fast); (case nz157 => decide); k_whole))))); (try dsimp only)) | (dsimp only; (with_reducible ((k_here; (with_reducible show wpAny _ _ (eval _ (envX _ _ _ _ _ _)) _ _ _); k_dflt (first | (refine' nameX_L ?Fz157 ?vz157 ?_ ?az157 ?bz157; (case Fz157 => k_asm); (case az157 => rfl); (case bz157 => rfl); (case vz157 => rfl); k_whole) | (refine' nameX_C ?Nz157 ?cz157 ?mz157 ?dz157 ?_ ?az157 ?bz157; (case az157 => rfl); (case bz157 => rfl); (case Nz157 => k_asm); (case cz157 => rfl); (case mz157 => walk_at "my mem"); (case dz157 => assumption); k_whole) | (refine' nameX_K ?Fz157 ?Xz157 ?Tz157 ?ez157 ?_ ?az157 ?bz157; (case Fz157 => k_asm); (case Xz157 => k_asm); (case Tz157 => k_asm); (case az157 => rfl); (case bz157 => rfl); (case ez157 => k_is); k_whole) | (refine' nameX_B ?Fz157 ?Xz157 ?Tz157 ?ez157 ?vz157 ?nz157 ?_ ?az157 ?bz157; (case Fz157 => k_asm); (case Xz157 => k_asm); (case Tz157 => k_asm); (case az157 => rfl); (case bz157 => rfl); (case ez157 => k_is); (case vz157 => boot_fast); (case nz157 => decide); k_whole))))); (try dsimp only)))
  iterate 5 (first | (k_unfold; (try dsimp only)) | (k_end; wrow_close) | (walk1; (try dsimp only)) | (dsimp only; walk1; (try dsimp only)) | (leave1; walk_say "STEP leave1"; try dsimp only))
  rename Fr _ _ _ _ => F1
  rename News _ _ _ _ => N1
  rename IsRange _ _ _ _ _ _ _ _ => hR
  refine DSrc.range (n := 3) (fun i kvs nw => nw = news ∧ kvs.map (·.1) = (List.range i).map (fun (u : Nat) => 2 * (0 + (u : Int))) ∧ OvL (linesL os i) (kvs.map (·.2))) rfl F1 N1 hR (by decide) (by rfl) (by decide) ⟨rfl, rfl, .nil⟩ ?turn ?fin
  case turn =>
    clear F1 N1
    rintro g i v I oI C oC D oD m₂ kvs h tk nw E' hi ⟨t, hv⟩ ⟨hnw, hkeys, hvals⟩ hdo hC hx F9 N9 off ne
    subst hv hnw
    show wpAny _ _ (pure true) _ _ _
    refine wpAny_pure ?_
    rw [if_pos rfl]
    obtain ⟨tl, hlv9⟩ := ovGet (k := i) hl (by omega)
    have hi9 : lv[(0 + (i : Int)).toNat]? = some (ov (os.getD i none) tl) := by rw [tn0 i]; exact hlv9
    (try dsimp only)
    iterate 2 (first | (k_unfold; (try dsimp only)) | (k_end; wrow_close) | (walk1; (try dsimp only)) | (dsimp only; walk1; (try dsimp only)) | (leave1; walk_say "STEP leave1"; try dsimp only))
    (first | ((with_reducible ((k_here; (with_reducible show wpAny _ _ (eval _ (compEnvC _ _ _ _)) _ _ _); k_dflt (first | refine LCgL.ld_own (by k_asm) (by walk_at "my mem") (by assumption) (by assumption) ?_ | refine kcf_cell (by k_asm) (by rfl) (by walk_at "my mem") (by assumption) ?_)))); (try dsimp only)) | (dsimp only; (with_reducible ((k_here; (with_reducible show wpAny _ _ (eval _ (compEnvC _ _ _ _)) _ _ _); k_dflt (first | refine LCgL.ld_own (by k_asm) (by walk_at "my mem") (by assumption) (by assumption) ?_ | refine kcf_cell (by k_asm) (by rfl) (by walk_at "my mem") (by assumption) ?_)))); (try dsimp only)))
    iterate 4 (first | (k_unfold; (try dsimp only)) | (k_end; wrow_close) | (walk1; (try dsimp only)) | (dsimp only; walk1; (try dsimp only)) | (leave1; walk_say "STEP leave1"; try dsimp only))
    (first | ((with_reducible ((k_here; k_dflt (first | refine' callWith_K ?k1z159 ?k2z159 ?_; (case k1z159 => k_asm); (case k2z159 => k_is); k_whole | refine' callWith_KW ?k1z159 ?k2z159 ?k3z159 ?_; (case k1z159 => k_asm); (case k2z159 => k_is); (case k3z159 => exact rfl); k_whole)))); (try dsimp only)) | (dsimp only; (with_reducible ((k_here; k_dflt (first | refine' callWith_K ?k1z159 ?k2z159 ?_; (case k1z159 => k_asm); (case k2z159 => k_is); k_whole | refine' callWith_KW ?k1z159 ?k2z159 ?k3z159 ?_; (case k1z159 => k_asm); (case k2z159 => k_is); (case k3z159 => exact rfl); k_whole)))); (try dsimp only)))
    iterate 2 (first | (k_unfold; (try dsimp only)) | (k_end; wrow_close) | (walk1; (try dsimp only)) | (dsimp only; walk1; (try dsimp only)) | (leave1; walk_say "STEP leave1"; try dsimp only))
    (first | ((with_reducible ((k_here; (with_reducible show wpAny _ _ (eval _ (compEnvC _ _ _ _)) _ _ _); k_dflt (first | refine LCgL.ld_own (by k_asm) (by walk_at "my mem") (by assumption) (by assumption) ?_ | refine kcf_cell (by k_asm) (by rfl) (by walk_at "my mem") (by assumption) ?_)))); (try dsimp only)) | (dsimp only; (with_reducible ((k_here; (with_reducible show wpAny _ _ (eval _ (compEnvC _ _ _ _)) _ _ _); k_dflt (first | refine LCgL.ld_own (by k_asm) (by walk_at "my mem") (by assumption) (by assumption) ?_ | refine kcf_cell (by k_asm) (by rfl) (by walk_at "my mem") (by assumption) ?_)))); (try dsimp only)))
    (first | ((with_reducible ((k_here; (with_reducible show wpAny _ _ (eval _ (compEnvC _ _ _ _)) _ _ _); k_dflt (first | refine LCgL.ld_own (by k_asm) (by walk_at "my mem") (by assumption) (by assumption) ?_ | refine kcf_cell (by k_asm) (by rfl) (by walk_at "my mem") (by assumption) ?_)))); (try dsimp only)) | (dsimp only; (with_reducible ((k_here; (with_reducible show wpAny _ _ (eval _ (compEnvC _ _ _ _)) _ _ _); k_dflt (first | refine LCgL.ld_own (by k_asm) (by walk_at "my mem") (by assumption) (by assumption) ?_ | refine kcf_cell (by k_asm) (by rfl) (by walk_at "my mem") (by assumption) ?_)))); (try dsimp only)))
    (first | ((with_reducible (((k_here; (with_reducible show wpAny _ _ (subscriptTail _ _ (Value.ref _) (Value.int _ _)) _ _ _); k_dflt (first | refine my_item (by k_asm) (by walk_at "my mem") (by omega) (by omega) (by assumption) ?_ | refine my_last (by k_asm) (by walk_at "my mem") (by omega) (by omega) (by assumption) ?_))))); (try dsimp only)) | (dsimp only; (with_reducible (((k_here; (with_reducible show wpAny _ _ (subscriptTail _ _ (Value.ref _) (Value.int _ _)) _ _ _); k_dflt (first | refine my_item (by k_asm) (by walk_at "my mem") (by omega) (by omega) (by assumption) ?_ | refine my_last (by k_asm) (by walk_at "my mem") (by omega) (by omega) (by assumption) ?_))))); (try dsimp only)))
    iterate 1 (first | (k_unfold; (try dsimp only)) | (k_end; wrow_close) | (walk1; (try dsimp only)) | (dsimp only; walk1; (try dsimp only)) | (leave1; walk_say "STEP leave1"; try dsimp only))
    (first | ((with_reducible ((k_here; (with_reducible show wpAny _ _ (eval _ (compEnvC _ _ _ _)) _ _ _); k_dflt (first | refine LCgL.ld_own (by k_asm) (by walk_at "my mem") (by assumption) (by assumption) ?_ | refine kcf_cell (by k_asm) (by rfl) (by walk_at "my mem") (by assumption) ?_)))); (try dsimp only)) | (dsimp only; (with_reducible ((k_here; (with_reducible show wpAny _ _ (eval _ (compEnvC _ _ _ _)) _ _ _); k_dflt (first | refine LCgL.ld_own (by k_asm) (by walk_at "my mem") (by assumption) (by assumption) ?_ | refine kcf_cell (by k_asm) (by rfl) (by walk_at "my mem") (by assumption) ?_)))); (try dsimp only)))
    iterate 2 (first | (k_unfold; (try dsimp only)) | (k_end; wrow_close) | (walk1; (try dsimp only)) | (dsimp only; walk1; (try dsimp only)) | (leave1; walk_say "STEP leave1"; try dsimp only))
    refine c_law_line _ (os.getD i none) (0 + (i : Int)) tl t (fun v hv => hb v (getD_mem hv)) _ _ _ _ _ _ _ _ _ _ _ _ _ _ _ _ _ B F9 X N9 T rfl trivial (rm2 hd (by decide)) (rm2 hu (by decide)) ?_
    intro t8 h8 tk8 F8 N8
    clear F9 N9
    iterate 1 (first | (k_unfold; (try dsimp only)) | (k_end; wrow_close) | (walk1; (try dsimp only)) | (dsimp only; walk1; (try dsimp only)) | (leave1; walk_say "STEP leave1"; try dsimp only))
    have hnew := keys_new hkeys
    refine ⟨2 * (0 + (i : Int)), ?is, LCg.CompEnd.intro F8 N8 _ (fun p hp => hp) off trivial ⟨rfl, ?keys, ?vals⟩⟩
    case is => exact intKind_is _ _ _ _
    case keys => rw [stored_new hnew, List.map_append, hkeys, List.range_succ, List.map_append]; rfl
    case vals => rw [stored_new hnew, List.map_append, linesL_succ]; exact ovApp hvals (.cons .nil)
  case fin =>
    clear F1 N1
    rintro D h8 tk8 kvs oD nw F8 N8 hdo o8 ⟨hnw, hkeys, hvals⟩ hsm
    subst hnw
    (try dsimp only)
    iterate 2 (first | (k_unfold; (try dsimp only)) | (k_end; wrow_close) | (walk1; (try dsimp only)) | (dsimp only; walk1; (try dsimp only)) | (leave1; walk_say "STEP leave1"; try dsimp only))
    refine c_width _ D oD kvs (linesL os 3) (hsm (modules_low T.nolimit)) (.head _) hdo hvals (log_lines hol hb) (len_lines hol hb) _ _ _ _ _ _ _ _ _ _ _ _ _ _ _ _ _ B F8 X N8 T rfl trivial (rm2 hd (by decide)) (rm2 hu (by decide)) ?_
    intro t9 h9 tk9 F9 N9
    rw [glw_lines hol hb]
    replace N9 := cb_drop N9 (fun p hp => .tail _ hp)
    clear F8 N8
    (try dsimp only)
    iterate 6 (first | (k_unfold; (try dsimp only)) | (k_end; wrow_close) | (walk1; (try dsimp only)) | (dsimp only; walk1; (try dsimp only)) | (leave1; walk_say "STEP leave1"; try dsimp only))
    (first | ((with_reducible ((k_here; (with_reducible show wpAny _ _ (eval _ (envX _ _ _ _ _ _)) _ _ _); k_dflt (first | (refine' nameX_L ?Fz164 ?vz164 ?_ ?az164 ?bz164; (case Fz164 => k_asm); (case az164 => rfl); (case bz164 => rfl); (case vz164 => rfl); k_whole) | (refine' nameX_C ?Nz164 ?cz164 ?mz164 ?dz164 ?_ ?az164 ?bz164; (case az164 => rfl); (case bz164 => rfl); (case Nz164 => k_asm); (case cz164 => rfl); (case mz164 => walk_at "my mem"); (case dz164 => assumption); k_whole) | (refine' nameX_K ?Fz164 ?Xz164 ?Tz164 ?ez164 ?_ ?az164 ?bz164; (case Fz164 => k_asm); (case Xz164 => k_asm); (case Tz164 => k_asm); (case az164 => rfl); (case bz164 => rfl); (case ez164 => k_is); k_whole) | (refine' nameX_B ?Fz164 ?Xz164 ?Tz164 ?ez164 ?vz164 ?nz164 ?_ ?az164 ?bz164; (case Fz164 => k_asm); (case Xz164 => k_asm); (case Tz164 => k_asm); (case az164 => rfl); (case bz164 => rfl); (case ez164 => k_is); (case vz164 => boot_fast); (case nz164 => decide); k_whole))))); (try dsimp only)) | (dsimp only; (with_reducible ((k_here; (with_reducible show wpAny _ _ (eval _ (envX _ _ _ _ _ _)) _ _ _); k_dflt (first | (refine' nameX_L ?Fz164 ?vz164 ?_ ?az164 ?bz164; (case Fz164 => k_asm); (case az164 => rfl); (case bz164 => rfl); (case vz164 => rfl); k_whole) | (refine' nameX_C ?Nz164 ?cz164 ?mz164 ?dz164 ?_ ?az164 ?bz164; (case az164 => rfl); (case bz164 => rfl); (case Nz164 => k_asm); (case cz164 => rfl); (case mz164 => walk_at "my mem"); (case dz164 => assumption); k_whole) | (refine' nameX_K ?Fz164 ?Xz164 ?Tz164 ?ez164 ?_ ?az164 ?bz164; (case Fz164 => k_asm); (case Xz164 => k_asm); (case Tz164 => k_asm); (case az164 => rfl); (case bz164 => rfl); (case ez164 => k_is); k_whole) | (refine' nameX_B ?Fz164 ?Xz164 ?Tz164 ?ez164 ?vz164 ?nz164 ?_ ?az164 ?bz164; (case Fz164 => k_asm); (case Xz164 => k_asm); (case Tz164 => k_asm); (case az164 => rfl); (case bz164 => rfl); (case ez164 => k_is); (case vz164 => boot_fast); (case nz164 => decide); k_whole))))); (try dsimp only)))
    (first | ((with_reducible ((k_here; k_dflt (first | refine' callWith_K ?k1z165 ?k2z165 ?_; (case k1z165 => k_asm); (case k2z165 => k_is); k_whole | refine' callWith_KW ?k1z165 ?k2z165 ?k3z165 ?_; (case k1z165 => k_asm); (case k2z165 => k_is); (case k3z165 => exact rfl); k_whole)))); (try dsimp only)) | (dsimp only; (with_reducible ((k_here; k_dflt (first | refine' callWith_K ?k1z165 ?k2z165 ?_; (case k1z165 => k_asm); (case k2z165 => k_is); k_whole | refine' callWith_KW ?k1z165 ?k2z165 ?k3z165 ?_; (case k1z165 => k_asm); (case k2z165 => k_is); (case k3z165 => exact rfl); k_whole)))); (try dsimp only)))
    iterate 1 (first | (k_unfold; (try dsimp only)) | (k_end; wrow_close) | (walk1; (try dsimp only)) | (dsimp only; walk1; (try dsimp only)) | (leave1; walk_say "STEP leave1"; try dsimp only))
    (first | ((with_reducible ((k_here; (with_reducible show wpAny _ _ (eval _ (envX _ _ _ _ _ _)) _ _ _); k_dflt (first | (refine' nameX_L ?Fz166 ?vz166 ?_ ?az166 ?bz166; (case Fz166 => k_asm); (case az166 => rfl); (case bz166 => rfl); (case vz166 => rfl); k_whole) | (refine' nameX_C ?Nz166 ?cz166 ?mz166 ?dz166 ?_ ?az166 ?bz166; (case az166 => rfl); (case bz166 => rfl); (case Nz166 => k_asm); (case cz166 => rfl); (case mz166 => walk_at "my mem"); (case dz166 => assumption); k_whole) | (refine' nameX_K ?Fz166 ?Xz166 ?Tz166 ?ez166 ?_ ?az166 ?bz166; (case Fz166 => k_asm); (case Xz166 => k_asm); (case Tz166 => k_asm); (case az166 => rfl); (case bz166 => rfl); (case ez166 => k_is); k_whole) | (refine' nameX_B ?Fz166 ?Xz166 ?Tz166 ?ez166 ?vz166 ?nz166 ?_ ?az166 ?bz166; (case Fz166 => k_asm); (case Xz166 => k_asm); (case Tz166 => k_asm); (case az166 => rfl); (case bz166 => rfl); (case ez166 => k_is); (case vz166 => boot_fast); (case nz166 => decide); k_whole))))); (try dsimp only)) | (dsimp only; (with_reducible ((k_here; (with_reducible show wpAny _ _ (eval _ (envX _ _ _ _ _ _)) _ _ _); k_dflt (first | (refine' nameX_L ?Fz166 ?vz166 ?_ ?az166 ?bz166; (case Fz166 => k_asm); (case az166 => rfl); (case bz166 => rfl); (case vz166 => rfl); k_whole) | (refine' nameX_C ?Nz166 ?cz166 ?mz166 ?dz166 ?_ ?az166 ?bz166; (case az166 => rfl); (case bz166 => rfl); (case Nz166 => k_asm); (case cz166 => rfl); (case mz166 => walk_at "my mem"); (case dz166 => assumption); k_whole) | (refine' nameX_K ?Fz166 ?Xz166 ?Tz166 ?ez166 ?_ ?az166 ?bz166; (case Fz166 => k_asm); (case Xz166 => k_asm); (case Tz166 => k_asm); (case az166 => rfl); (case bz166 => rfl); (case ez166 => k_is); k_whole) | (refine' nameX_B ?Fz166 ?Xz166 ?Tz166 ?ez166 ?vz166 ?nz166 ?_ ?az166 ?bz166; (case Fz166 => k_asm); (case Xz166 => k_asm); (case Tz166 => k_asm); (case az166 => rfl); (case bz166 => rfl); (case ez166 => k_is); (case vz166 => boot_fast); (case nz166 => decide); k_whole))))); (try dsimp only)))
    iterate 2 (first | (k_unfold; (try dsimp only)) | (k_end; wrow_close) | (walk1; (try dsimp only)) | (dsimp only; walk1; (try dsimp only)) | (leave1; walk_say "STEP leave1"; try dsimp only))
    rename Fr _ _ _ _ => F8
    rename News _ _ _ _ => N8
    refine c_high_bit _ (orBits (knownL os)) tb _ _ _ _ _ _ _ _ _ _ _ _ _ _ _ _ _ B F8 X N8 T rfl trivial (rm2 hd (by decide)) (rm2 hu (by decide)) ?_
    intro t7 h7 tk7 F7 N7
    clear F8 N8
    rw [hb_or hol hb]
    have hM := best_bd hol hb
    generalize bestO os = bo at *
    cases bo with
    | none =>
      dsimp only [widO, Option.getD] at *
      iterate 2 (first | (k_unfold; (try dsimp only)) | (k_end; wrow_close) | (walk1; (try dsimp only)) | (dsimp only; walk1; (try dsimp only)) | (leave1; walk_say "STEP leave1"; try dsimp only))
      (first | ((with_reducible ((k_here; (with_reducible show wpAny _ _ (eval _ (envX _ _ _ _ _ _)) _ _ _); k_dflt (first | (refine' nameX_L ?Fz167 ?vz167 ?_ ?az167 ?bz167; (case Fz167 => k_asm); (case az167 => rfl); (case bz167 => rfl); (case vz167 => rfl); k_whole) | (refine' nameX_C ?Nz167 ?cz167 ?mz167 ?dz167 ?_ ?az167 ?bz167; (case az167 => rfl); (case bz167 => rfl); (case Nz167 => k_asm); (case cz167 => rfl); (case mz167 => walk_at "my mem"); (case dz167 => assumption); k_whole) | (refine' nameX_K ?Fz167 ?Xz167 ?Tz167 ?ez167 ?_ ?az167 ?bz167; (case Fz167 => k_asm); (case Xz167 => k_asm); (case Tz167 => k_asm); (case az167 => rfl); (case bz167 => rfl); (case ez167 => k_is); k_whole) | (refine' nameX_B ?Fz167 ?Xz167 ?Tz167 ?ez167 ?vz167 ?nz167 ?_ ?az167 ?bz167; (case Fz167 => k_asm); (case Xz167 => k_asm); (case Tz167 => k_asm); (case az167 => rfl); (case bz167 => rfl); (case ez167 => k_is); (case vz167 => boot_fast); (case nz167 => decide); k_whole))))); (try dsimp only)) | (dsimp only; (with_reducible ((k_here; (with_reducible show wpAny _ _ (eval _ (envX _ _ _ _ _ _)) _ _ _); k_dflt (first | (refine' nameX_L ?Fz167 ?vz167 ?_ ?az167 ?bz167; (case Fz167 => k_asm); (case az167 => rfl); (case bz167 => rfl); (case vz167 => rfl); k_whole) | (refine' nameX_C ?Nz167 ?cz167 ?mz167 ?dz167 ?_ ?az167 ?bz167; (case az167 => rfl); (case bz167 => rfl); (case Nz167 => k_asm); (case cz167 => rfl); (case mz167 => walk_at "my mem"); (case dz167 => assumption); k_whole) | (refine' nameX_K ?Fz167 ?Xz167 ?Tz167 ?ez167 ?_ ?az167 ?bz167; (case Fz167 => k_asm); (case Xz167 => k_asm); (case Tz167 => k_asm); (case az167 => rfl); (case bz167 => rfl); (case ez167 => k_is); k_whole) | (refine' nameX_B ?Fz167 ?Xz167 ?Tz167 ?ez167 ?vz167 ?nz167 ?_ ?az167 ?bz167; (case Fz167 => k_asm); (case Xz167 => k_asm); (case Tz167 => k_asm); (case az167 => rfl); (case bz167 => rfl); (case ez167 => k_is); (case vz167 => boot_fast); (case nz167 => decide); k_whole))))); (try dsimp only)))
      iterate 12 (first | (k_unfold; (try dsimp only)) | (k_end; wrow_close) | (walk1; (try dsimp only)) | (dsimp only; walk1; (try dsimp only)) | (leave1; walk_say "STEP leave1"; try dsimp only))
      rename Fr _ _ _ _ => F8
      rename News _ _ _ _ => N8
      refine hK t9 _ _ _ ?hn F8 N8
      case hn => kst_all
    | some M =>
      obtain ⟨hM1, hM2⟩ := hM M rfl
      dsimp only [widO, Option.getD] at *
      iterate 2 (first | (k_unfold; (try dsimp only)) | (k_end; wrow_close) | (walk1; (try dsimp only)) | (dsimp only; walk1; (try dsimp only)) | (leave1; walk_say "STEP leave1"; try dsimp only))
      (first | ((with_reducible ((k_here; (with_reducible show wpAny _ _ (eval _ (envX _ _ _ _ _ _)) _ _ _); k_dflt (first | (refine' nameX_L ?Fz168 ?vz168 ?_ ?az168 ?bz168; (case Fz168 => k_asm); (case az168 => rfl); (case bz168 => rfl); (case vz168 => rfl); k_whole) | (refine' nameX_C ?Nz168 ?cz168 ?mz168 ?dz168 ?_ ?az168 ?bz168; (case az168 => rfl); (case bz168 => rfl); (case Nz168 => k_asm); (case cz168 => rfl); (case mz168 => walk_at "my mem"); (case dz168 => assumption); k_whole) | (refine' nameX_K ?Fz168 ?Xz168 ?Tz168 ?ez168 ?_ ?az168 ?bz168; (case Fz168 => k_asm); (case Xz168 => k_asm); (case Tz168 => k_asm); (case az168 => rfl); (case bz168 => rfl); (case ez168 => k_is); k_whole) | (refine' nameX_B ?Fz168 ?Xz168 ?Tz168 ?ez168 ?vz168 ?nz168 ?_ ?az168 ?bz168; (case Fz168 => k_asm); (case Xz168 => k_asm); (case Tz168 => k_asm); (case az168 => rfl); (case bz168 => rfl); (case ez168 => k_is); (case vz168 => boot_fast); (case nz168 => decide); k_whole))))); (try dsimp only)) | (dsimp only; (with_reducible ((k_here; (with_reducible show wpAny _ _ (eval _ (envX _ _ _ _ _ _)) _ _ _); k_dflt (first | (refine' nameX_L ?Fz168 ?vz168 ?_ ?az168 ?bz168; (case Fz168 => k_asm); (case az168 => rfl); (case bz168 => rfl); (case vz168 => rfl); k_whole) | (refine' nameX_C ?Nz168 ?cz168 ?mz168 ?dz168 ?_ ?az168 ?bz168; (case az168 => rfl); (case bz168 => rfl); (case Nz168 => k_asm); (case cz168 => rfl); (case mz168 => walk_at "my mem"); (case dz168 => assumption); k_whole) | (refine' nameX_K ?Fz168 ?Xz168 ?Tz168 ?ez168 ?_ ?az168 ?bz168; (case Fz168 => k_asm); (case Xz168 => k_asm); (case Tz168 => k_asm); (case az168 => rfl); (case bz168 => rfl); (case ez168 => k_is); k_whole) | (refine' nameX_B ?Fz168 ?Xz168 ?Tz168 ?ez168 ?vz168 ?nz168 ?_ ?az168 ?bz168; (case Fz168 => k_asm); (case Xz168 => k_asm); (case Tz168 => k_asm); (case az168 => rfl); (case bz168 => rfl); (case ez168 => k_is); (case vz168 => boot_fast); (case nz168 => decide); k_whole))))); (try dsimp only)))
      iterate 5 (first | (k_unfold; (try dsimp only)) | (k_end; wrow_close) | (walk1; (try dsimp only)) | (dsimp only; walk1; (try dsimp only)) | (leave1; walk_say "STEP leave1"; try dsimp only))
      (first | ((with_reducible ((k_here; (with_reducible show wpAny _ _ (eval _ (envX _ _ _ _ _ _)) _ _ _); k_dflt (first | (refine' nameX_L ?Fz169 ?vz169 ?_ ?az169 ?bz169; (case Fz169 => k_asm); (case az169 => rfl); (case bz169 => rfl); (case vz169 => rfl); k_whole) | (refine' nameX_C ?Nz169 ?cz169 ?mz169 ?dz169 ?_ ?az169 ?bz169; (case az169 => rfl); (case bz169 => rfl); (case Nz169 => k_asm); (case cz169 => rfl); (case mz169 => walk_at "my mem"); (case dz169 => assumption); k_whole) | (refine' nameX_K ?Fz169 ?Xz169 ?Tz169 ?ez169 ?_ ?az169 ?bz169; (case Fz169 => k_asm); (case Xz169 => k_asm); (case Tz169 => k_asm); (case az169 => rfl); (case bz169 => rfl); (case ez169 => k_is); k_whole) | (refine' nameX_B ?Fz169 ?Xz169 ?Tz169 ?ez169 ?vz169 ?nz169 ?_ ?az169 ?bz169; (case Fz169 => k_asm); (case Xz169 => k_asm); (case Tz169 => k_asm); (case az169 => rfl); (case bz169 => rfl); (case ez169 => k_is); (case vz169 => boot_fast); (case nz169 => decide); k_whole))))); (try dsimp only)) | (dsimp only; (with_reducible ((k_here; (with_reducible show wpAny _ _ (eval _ (envX _ _ _ _ _ _)) _ _ _); k_dflt (first | (refine' nameX_L ?Fz169 ?vz169 ?_ ?az169 ?bz169; (case Fz169 => k_asm); (case az169 => rfl); (case bz169 => rfl); (case vz169 => rfl); k_whole) | (refine' nameX_C ?Nz169 ?cz169 ?mz169 ?dz169 ?_ ?az169 ?bz169; (case az169 => rfl); (case bz169 => rfl); (case Nz169 => k_asm); (case cz169 => rfl); (case mz169 => walk_at "my mem"); (case dz169 => assumption); k_whole) | (refine' nameX_K ?Fz169 ?Xz169 ?Tz169 ?ez169 ?_ ?az169 ?bz169; (case Fz169 => k_asm); (case Xz169 => k_asm); (case Tz169 => k_asm); (case az169 => rfl); (case bz169 => rfl); (case ez169 => k_is); k_whole) | (refine' nameX_B ?Fz169 ?Xz169 ?Tz169 ?ez169 ?vz169 ?nz169 ?_ ?az169 ?bz169; (case Fz169 => k_asm); (case Xz169 => k_asm); (case Tz169 => k_asm); (case az169 => rfl); (case bz169 => rfl); (case ez169 => k_is); (case vz169 => boot_fast); (case nz169 => decide); k_whole))))); (try dsimp only)))
      iterate 2 (first | (k_unfold; (try dsimp only)) | (k_end; wrow_close) | (walk1; (try dsimp only)) | (dsimp only; walk1; (try dsimp only)) | (leave1; walk_say "STEP leave1"; try dsimp only))
      rw [show M + 4 - 4 = M by omega]
      iterate 1 (first | (k_unfold; (try dsimp only)) | (k_end; wrow_close) | (walk1; (try dsimp only)) | (dsimp only; walk1; (try dsimp only)) | (leave1; walk_say "STEP leave1"; try dsimp only))
      rw [show (M != M) = false from bne_self_eq_false M]
      iterate 4 (first | (k_unfold; (try dsimp only)) | (k_end; wrow_close) | (walk1; (try dsimp only)) | (dsimp only; walk1; (try dsimp only)) | (leave1; walk_say "STEP leave1"; try dsimp only))
      rename Fr _ _ _ _ => F8
      rename News _ _ _ _ => N8
      refine hK t9 _ _ _ ?hn F8 N8
      case hn => kst_all
end

end
-- L6
section
example : True := by w_top off; exact trivial
section
variable {w : World} {p : Program} {loose : List Str} {mean : ExcName → Option Value} {mg mb : Str → Option Value}
theorem t_v5 (j : Nat) (tv tb tw : Tok) (ks : List Int) (wid : Int) (wk rwA kA : Addr) (kv : List Value) (kn : Nat) (news : Led) (dp un : Nat) (gd : Option (List Code)) (fa : Addr) (ccd : Value) (outer : List Env) (A₀ : Around) (base h₀ : Heap) (L : Addr) (m : Str → Option Value) (s : Shared) (Q : Flow → Shared → Prop) (E : Value → Shared → Prop) (restS : List Stmt)
    (B : Below A₀ base outer h₀) (F : Fr h₀ L s.heap m) (X : (Mine.hd.heap_39 w.params).In h₀) (T : Top p loose mean mg mb h₀)
    (N : News h₀ L s.heap news) (hd : dp + 300 < recursionLimit) (hu : un + 3000 < cLine)
    (m1 : (kA, listOf kv.toArray kn) ∈ news) (hi : IntsAre kv ks) (hb : ∀ k ∈ ks, 0 ≤ k ∧ k ≤ 57)
    (hk : ∀ p ∈ [(Str.ofString "walks", Value.ref wk), (Str.ofString "row", Value.ref rwA), (Str.ofString "v", Value.int (0 + (j : Int)) tv), (Str.ofString "known", Value.ref kA), (Str.ofString "bits", Value.int (orBits ks) tb), (Str.ofString "width", Value.int wid tw)], m p.1 = some p.2)
    (hK : ∀ m' h' tk', (∀ p ∈ [(Str.ofString "walks", Value.ref wk), (Str.ofString "row", Value.ref rwA), (Str.ofString "v", Value.int (0 + (j : Int)) tv), (Str.ofString "known", Value.ref kA), (Str.ofString "width", Value.int wid tw)], m' p.1 = some p.2) →
      Fr h₀ L h' m' → News h₀ L h' news →
      wpAny (model PySem.Challenge.rw_wo0033_01.row.prog w) (lawA dp un gd L fa ccd outer) (execs restS (lawEnv L fa ccd)) Q E { s with heap := h', toks := tk' }) :
    wpAny (model PySem.Challenge.rw_wo0033_01.row.prog w) (lawA dp un gd L fa ccd outer) (execs (vS 9 :: restS) (lawEnv L fa ccd)) Q E s := by
  revert X; k_fill; intro X
  change wpAny _ (ktrTop dp un gd _ ⟨_, _, _, _, _⟩ L fa ccd _ outer) (execs (.If _ _ _ _ :: restS) (envX _ ⟨_, _, _, _, _⟩ _ _ _ _)) _ _ _
  replace F := fr_kst hk F
  dsimp only [kstB] at F
  iterate 4 (first | (k_unfold; (try dsimp only)) | (k_end; wrow_close) | (walk1; (try dsimp only)) | (dsimp only; walk1; (try dsimp only)) | (leave1; walk_say "STEP leave1"; try dsimp only))
  (first | ((with_reducible ((k_here; (with_reducible show wpAny _ _ (eval _ (envX _ _ _ _ _ _)) _ _ _); k_dflt (first | (refine' nameX_L ?Fz170 ?vz170 ?_ ?az170 ?bz170; (case Fz170 => k_asm); (case az170 => rfl); (case bz170 => rfl); (case vz170 => rfl); k_whole) | (refine' nameX_C ?Nz170 ?cz170 ?mz170 ?dz170 ?_ ?az170 ?bz170; (case az170 => rfl); (case bz170 => rfl); (case Nz170 => k_asm); (case cz170 => rfl); (case mz170 => walk_at "my mem"); (case dz170 => assumption); k_whole) | (refine' nameX_K ?Fz170 ?Xz170 ?Tz170 ?ez170 ?_ ?az170 ?bz170; (case Fz170 => k_asm); (case Xz170 => k_asm); (case Tz170 => k_asm); (case az170 => rfl); (case bz170 => rfl); (case ez170 => k_is); k_whole) | (refine' nameX_B ?Fz170 ?Xz170 ?Tz170 ?ez170 ?vz170 ?nz170 ?_ ?az170 ?bz170; (case Fz170 => k_asm); (case Xz170 => k_asm); (case Tz170 => k_asm); (case az170 => rfl); (case bz170 => rfl); (case ez170 => k_is); (case vz170 => boot_fast); (case nz170 => decide); k_whole))))); (try dsimp only)) | (dsimp only; (with_reducible ((k_here; (with_reducible show wpAny _ _ (eval _ (envX _ _ _ _ _ _)) _ _ _); k_dflt (first | (refine' nameX_L ?Fz170 ?vz170 ?_ ?az170 ?bz170; (case Fz170 => k_asm); (case az170 => rfl); (case bz170 => rfl); (case vz170 => rfl); k_whole) | (refine' nameX_C ?Nz170 ?cz170 ?mz170 ?dz170 ?_ ?az170 ?bz170; (case az170 => rfl); (case bz170 => rfl); (case Nz170 => k_asm); (case cz170 => rfl); (case mz170 => walk_at "my mem"); (case dz170 => assumption); k_whole) | (refine' nameX_K ?Fz170 ?Xz170 ?Tz170 ?ez170 ?_ ?az170 ?bz170; (case Fz170 => k_asm); (case Xz170 => k_asm); (case Tz170 => k_asm); (case az170 => rfl); (case bz170 => rfl); (case ez170 => k_is); k_whole) | (refine' nameX_B ?Fz170 ?Xz170 ?Tz170 ?ez170 ?vz170 ?nz170 ?_ ?az170 ?bz170; (case Fz170 => k_asm); (case Xz170 => k_asm); (case Tz170 => k_asm); (case az170 => rfl); (case bz170 => rfl); (case ez170 => k_is); (case vz170 => boot_fast); (case nz170 => decide); k_whole))))); (try dsimp only)))
  (first | ((with_reducible ((k_here; k_dflt (first | refine' callWith_K ?k1z171 ?k2z171 ?_; (case k1z171 => k_asm); (case k2z171 => k_is); k_whole | refine' callWith_KW ?k1z171 ?k2z171 ?k3z171 ?_; (case k1z171 => k_asm); (case k2z171 => k_is); (case k3z171 => exact rfl); k_whole)))); (try dsimp only)) | (dsimp only; (with_reducible ((k_here; k_dflt (first | refine' callWith_K ?k1z171 ?k2z171 ?_; (case k1z171 => k_asm); (case k2z171 => k_is); k_whole | refine' callWith_KW ?k1z171 ?k2z171 ?k3z171 ?_; (case k1z171 => k_asm); (case k2z171 => k_is); (case k3z171 => exact rfl); k_whole)))); (try dsimp only)))
  iterate 1 (first | (k_unfold; (try dsimp only)) | (k_end; wrow_close) | (walk1; (try dsimp only)) | (dsimp only; walk1; (try dsimp only)) | (leave1; walk_say "STEP leave1"; try dsimp only))
  (first | ((with_reducible ((k_here; (with_reducible show wpAny _ _ (eval _ (envX _ _ _ _ _ _)) _ _ _); k_dflt (first | (refine' nameX_L ?Fz172 ?vz172 ?_ ?az172 ?bz172; (case Fz172 => k_asm); (case az172 => rfl); (case bz172 => rfl); (case vz172 => rfl); k_whole) | (refine' nameX_C ?Nz172 ?cz172 ?mz172 ?dz172 ?_ ?az172 ?bz172; (case az172 => rfl); (case bz172 => rfl); (case Nz172 => k_asm); (case cz172 => rfl); (case mz172 => walk_at "my mem"); (case dz172 => assumption); k_whole) | (refine' nameX_K ?Fz172 ?Xz172 ?Tz172 ?ez172 ?_ ?az172 ?bz172; (case Fz172 => k_asm); (case Xz172 => k_asm); (case Tz172 => k_asm); (case az172 => rfl); (case bz172 => rfl); (case ez172 => k_is); k_whole) | (refine' nameX_B ?Fz172 ?Xz172 ?Tz172 ?ez172 ?vz172 ?nz172 ?_ ?az172 ?bz172; (case Fz172 => k_asm); (case Xz172 => k_asm); (case Tz172 => k_asm); (case az172 => rfl); (case bz172 => rfl); (case ez172 => k_is); (case vz172 => boot_fast); (case nz172 => decide); k_whole))))); (try dsimp only)) | (dsimp only; (with_reducible ((k_here; (with_reducible show wpAny _ _ (eval _ (envX _ _ _ _ _ _)) _ _ _); k_dflt (first | (refine' nameX_L ?Fz172 ?vz172 ?_ ?az172 ?bz172; (case Fz172 => k_asm); (case az172 => rfl); (case bz172 => rfl); (case vz172 => rfl); k_whole) | (refine' nameX_C ?Nz172 ?cz172 ?mz172 ?dz172 ?_ ?az172 ?bz172; (case az172 => rfl); (case bz172 => rfl); (case Nz172 => k_asm); (case cz172 => rfl); (case mz172 => walk_at "my mem"); (case dz172 => assumption); k_whole) | (refine' nameX_K ?Fz172 ?Xz172 ?Tz172 ?ez172 ?_ ?az172 ?bz172; (case Fz172 => k_asm); (case Xz172 => k_asm); (case Tz172 => k_asm); (case az172 => rfl); (case bz172 => rfl); (case ez172 => k_is); k_whole) | (refine' nameX_B ?Fz172 ?Xz172 ?Tz172 ?ez172 ?vz172 ?nz172 ?_ ?az172 ?bz172; (case Fz172 => k_asm); (case Xz172 => k_asm); (case Tz172 => k_asm); (case az172 => rfl); (case bz172 => rfl); (case ez172 => k_is); (case vz172 => boot_fast); (case nz172 => decide); k_whole))))); (try dsimp only)))
  iterate 2 (first | (k_unfold; (try dsimp only)) | (k_end; wrow_close) | (walk1; (try dsimp only)) | (dsimp only; walk1; (try dsimp only)) | (leave1; walk_say "STEP leave1"; try dsimp only))
  rename Fr _ _ _ _ => F1
  rename News _ _ _ _ => N1
  refine c_single_bit _ (orBits ks) tb _ _ _ _ _ _ _ _ _ _ _ _ _ _ _ _ _ B F1 X N1 T rfl trivial (rm2 hd (by decide)) (rm2 hu (by decide)) ?_
  intro t7 h7 tk7 F7 N7
  clear F1 N1
  (try dsimp only)
  iterate 2 (first | (k_unfold; (try dsimp only)) | (k_end; wrow_close) | (walk1; (try dsimp only)) | (dsimp only; walk1; (try dsimp only)) | (leave1; walk_say "STEP leave1"; try dsimp only))
  (first | ((with_reducible ((k_here; (with_reducible show wpAny _ _ (eval _ (envX _ _ _ _ _ _)) _ _ _); k_dflt (first | (refine' nameX_L ?Fz173 ?vz173 ?_ ?az173 ?bz173; (case Fz173 => k_asm); (case az173 => rfl); (case bz173 => rfl); (case vz173 => rfl); k_whole) | (refine' nameX_C ?Nz173 ?cz173 ?mz173 ?dz173 ?_ ?az173 ?bz173; (case az173 => rfl); (case bz173 => rfl); (case Nz173 => k_asm); (case cz173 => rfl); (case mz173 => walk_at "my mem"); (case dz173 => assumption); k_whole) | (refine' nameX_K ?Fz173 ?Xz173 ?Tz173 ?ez173 ?_ ?az173 ?bz173; (case Fz173 => k_asm); (case Xz173 => k_asm); (case Tz173 => k_asm); (case az173 => rfl); (case bz173 => rfl); (case ez173 => k_is); k_whole) | (refine' nameX_B ?Fz173 ?Xz173 ?Tz173 ?ez173 ?vz173 ?nz173 ?_ ?az173 ?bz173; (case Fz173 => k_asm); (case Xz173 => k_asm); (case Tz173 => k_asm); (case az173 => rfl); (case bz173 => rfl); (case ez173 => k_is); (case vz173 => boot_fast); (case nz173 => decide); k_whole))))); (try dsimp only)) | (dsimp only; (with_reducible ((k_here; (with_reducible show wpAny _ _ (eval _ (envX _ _ _ _ _ _)) _ _ _); k_dflt (first | (refine' nameX_L ?Fz173 ?vz173 ?_ ?az173 ?bz173; (case Fz173 => k_asm); (case az173 => rfl); (case bz173 => rfl); (case vz173 => rfl); k_whole) | (refine' nameX_C ?Nz173 ?cz173 ?mz173 ?dz173 ?_ ?az173 ?bz173; (case az173 => rfl); (case bz173 => rfl); (case Nz173 => k_asm); (case cz173 => rfl); (case mz173 => walk_at "my mem"); (case dz173 => assumption); k_whole) | (refine' nameX_K ?Fz173 ?Xz173 ?Tz173 ?ez173 ?_ ?az173 ?bz173; (case Fz173 => k_asm); (case Xz173 => k_asm); (case Tz173 => k_asm); (case az173 => rfl); (case bz173 => rfl); (case ez173 => k_is); k_whole) | (refine' nameX_B ?Fz173 ?Xz173 ?Tz173 ?ez173 ?vz173 ?nz173 ?_ ?az173 ?bz173; (case Fz173 => k_asm); (case Xz173 => k_asm); (case Tz173 => k_asm); (case az173 => rfl); (case bz173 => rfl); (case ez173 => k_is); (case vz173 => boot_fast); (case nz173 => decide); k_whole))))); (try dsimp only)))
  iterate 3 (first | (k_unfold; (try dsimp only)) | (k_end; wrow_close) | (walk1; (try dsimp only)) | (dsimp only; walk1; (try dsimp only)) | (leave1; walk_say "STEP leave1"; try dsimp only))
  rename Fr _ _ _ _ => F1
  rename News _ _ _ _ => N1
  refine ne_intsK (vs := kv) (us := []) (N1.isList (.tail _ m1)) hi (N1.isList (.head _)) .nil ?hun ?_
  case hun => first | ktr_units | (show un + _ + _ < _; first | exact rm3 hu (by decide) | omega)
  replace N1 := cb_drop N1 (fun p hp => .tail _ hp)
  by_cases hks : ks = []
  · subst hks
    rw [show oneBit (orBits []) = false from rfl]
    (try dsimp only [decide_true, Bool.not_true])
    iterate 6 (first | (k_unfold; (try dsimp only)) | (k_end; wrow_close) | (walk1; (try dsimp only)) | (dsimp only; walk1; (try dsimp only)) | (leave1; walk_say "STEP leave1"; try dsimp only))
    rename Fr _ _ _ _ => F8
    refine hK _ _ _ ?hn F8 N1
    case hn => kst_all
  · rw [decide_eq_false hks]
    have hne : 0 < ks.length := List.length_pos_iff.mpr hks
    (try dsimp only [Bool.not_false])
    iterate 5 (first | (k_unfold; (try dsimp only)) | (k_end; wrow_close) | (walk1; (try dsimp only)) | (dsimp only; walk1; (try dsimp only)) | (leave1; walk_say "STEP leave1"; try dsimp only))
    (first | ((with_reducible ((k_here; (with_reducible show wpAny _ _ (eval _ (envX _ _ _ _ _ _)) _ _ _); k_dflt (first | (refine' nameX_L ?Fz174 ?vz174 ?_ ?az174 ?bz174; (case Fz174 => k_asm); (case az174 => rfl); (case bz174 => rfl); (case vz174 => rfl); k_whole) | (refine' nameX_C ?Nz174 ?cz174 ?mz174 ?dz174 ?_ ?az174 ?bz174; (case az174 => rfl); (case bz174 => rfl); (case Nz174 => k_asm); (case cz174 => rfl); (case mz174 => walk_at "my mem"); (case dz174 => assumption); k_whole) | (refine' nameX_K ?Fz174 ?Xz174 ?Tz174 ?ez174 ?_ ?az174 ?bz174; (case Fz174 => k_asm); (case Xz174 => k_asm); (case Tz174 => k_asm); (case az174 => rfl); (case bz174 => rfl); (case ez174 => k_is); k_whole) | (refine' nameX_B ?Fz174 ?Xz174 ?Tz174 ?ez174 ?vz174 ?nz174 ?_ ?az174 ?bz174; (case Fz174 => k_asm); (case Xz174 => k_asm); (case Tz174 => k_asm); (case az174 => rfl); (case bz174 => rfl); (case ez174 => k_is); (case vz174 => boot_fast); (case nz174 => decide); k_whole))))); (try dsimp only)) | (dsimp only; (with_reducible ((k_here; (with_reducible show wpAny _ _ (eval _ (envX _ _ _ _ _ _)) _ _ _); k_dflt (first | (refine' nameX_L ?Fz174 ?vz174 ?_ ?az174 ?bz174; (case Fz174 => k_asm); (case az174 => rfl); (case bz174 => rfl); (case vz174 => rfl); k_whole) | (refine' nameX_C ?Nz174 ?cz174 ?mz174 ?dz174 ?_ ?az174 ?bz174; (case az174 => rfl); (case bz174 => rfl); (case Nz174 => k_asm); (case cz174 => rfl); (case mz174 => walk_at "my mem"); (case dz174 => assumption); k_whole) | (refine' nameX_K ?Fz174 ?Xz174 ?Tz174 ?ez174 ?_ ?az174 ?bz174; (case Fz174 => k_asm); (case Xz174 => k_asm); (case Tz174 => k_asm); (case az174 => rfl); (case bz174 => rfl); (case ez174 => k_is); k_whole) | (refine' nameX_B ?Fz174 ?Xz174 ?Tz174 ?ez174 ?vz174 ?nz174 ?_ ?az174 ?bz174; (case Fz174 => k_asm); (case Xz174 => k_asm); (case Tz174 => k_asm); (case az174 => rfl); (case bz174 => rfl); (case ez174 => k_is); (case vz174 => boot_fast); (case nz174 => decide); k_whole))))); (try dsimp only)))
    iterate 2 (first | (k_unfold; (try dsimp only)) | (k_end; wrow_close) | (walk1; (try dsimp only)) | (dsimp only; walk1; (try dsimp only)) | (leave1; walk_say "STEP leave1"; try dsimp only))
    (first | ((with_reducible ((k_here; (with_reducible show wpAny _ _ (eval _ (envX _ _ _ _ _ _)) _ _ _); k_dflt (first | (refine' nameX_L ?Fz175 ?vz175 ?_ ?az175 ?bz175; (case Fz175 => k_asm); (case az175 => rfl); (case bz175 => rfl); (case vz175 => rfl); k_whole) | (refine' nameX_C ?Nz175 ?cz175 ?mz175 ?dz175 ?_ ?az175 ?bz175; (case az175 => rfl); (case bz175 => rfl); (case Nz175 => k_asm); (case cz175 => rfl); (case mz175 => walk_at "my mem"); (case dz175 => assumption); k_whole) | (refine' nameX_K ?Fz175 ?Xz175 ?Tz175 ?ez175 ?_ ?az175 ?bz175; (case Fz175 => k_asm); (case Xz175 => k_asm); (case Tz175 => k_asm); (case az175 => rfl); (case bz175 => rfl); (case ez175 => k_is); k_whole) | (refine' nameX_B ?Fz175 ?Xz175 ?Tz175 ?ez175 ?vz175 ?nz175 ?_ ?az175 ?bz175; (case Fz175 => k_asm); (case Xz175 => k_asm); (case Tz175 => k_asm); (case az175 => rfl); (case bz175 => rfl); (case ez175 => k_is); (case vz175 => boot_fast); (case nz175 => decide); k_whole))))); (try dsimp only)) | (dsimp only; (with_reducible ((k_here; (with_reducible show wpAny _ _ (eval _ (envX _ _ _ _ _ _)) _ _ _); k_dflt (first | (refine' nameX_L ?Fz175 ?vz175 ?_ ?az175 ?bz175; (case Fz175 => k_asm); (case az175 => rfl); (case bz175 => rfl); (case vz175 => rfl); k_whole) | (refine' nameX_C ?Nz175 ?cz175 ?mz175 ?dz175 ?_ ?az175 ?bz175; (case az175 => rfl); (case bz175 => rfl); (case Nz175 => k_asm); (case cz175 => rfl); (case mz175 => walk_at "my mem"); (case dz175 => assumption); k_whole) | (refine' nameX_K ?Fz175 ?Xz175 ?Tz175 ?ez175 ?_ ?az175 ?bz175; (case Fz175 => k_asm); (case Xz175 => k_asm); (case Tz175 => k_asm); (case az175 => rfl); (case bz175 => rfl); (case ez175 => k_is); k_whole) | (refine' nameX_B ?Fz175 ?Xz175 ?Tz175 ?ez175 ?vz175 ?nz175 ?_ ?az175 ?bz175; (case Fz175 => k_asm); (case Xz175 => k_asm); (case Tz175 => k_asm); (case az175 => rfl); (case bz175 => rfl); (case ez175 => k_is); (case vz175 => boot_fast); (case nz175 => decide); k_whole))))); (try dsimp only)))
    iterate 1 (first | (k_unfold; (try dsimp only)) | (k_end; wrow_close) | (walk1; (try dsimp only)) | (dsimp only; walk1; (try dsimp only)) | (leave1; walk_say "STEP leave1"; try dsimp only))
    rename Fr _ _ _ _ => F8
    refine kso_min F8 N1 (N1.isList m1) hi hne rfl ?_
    intro h2 M1 t1 tk1 F2 N2 hM1 hM1'
    clear F8 N1
    (try dsimp only)
    iterate 1 (first | (k_unfold; (try dsimp only)) | (k_end; wrow_close) | (walk1; (try dsimp only)) | (dsimp only; walk1; (try dsimp only)) | (leave1; walk_say "STEP leave1"; try dsimp only))
    (first | ((with_reducible ((k_here; (with_reducible show wpAny _ _ (eval _ (envX _ _ _ _ _ _)) _ _ _); k_dflt (first | (refine' nameX_L ?Fz176 ?vz176 ?_ ?az176 ?bz176; (case Fz176 => k_asm); (case az176 => rfl); (case bz176 => rfl); (case vz176 => rfl); k_whole) | (refine' nameX_C ?Nz176 ?cz176 ?mz176 ?dz176 ?_ ?az176 ?bz176; (case az176 => rfl); (case bz176 => rfl); (case Nz176 => k_asm); (case cz176 => rfl); (case mz176 => walk_at "my mem"); (case dz176 => assumption); k_whole) | (refine' nameX_K ?Fz176 ?Xz176 ?Tz176 ?ez176 ?_ ?az176 ?bz176; (case Fz176 => k_asm); (case Xz176 => k_asm); (case Tz176 => k_asm); (case az176 => rfl); (case bz176 => rfl); (case ez176 => k_is); k_whole) | (refine' nameX_B ?Fz176 ?Xz176 ?Tz176 ?ez176 ?vz176 ?nz176 ?_ ?az176 ?bz176; (case Fz176 => k_asm); (case Xz176 => k_asm); (case Tz176 => k_asm); (case az176 => rfl); (case bz176 => rfl); (case ez176 => k_is); (case vz176 => boot_fast); (case nz176 => decide); k_whole))))); (try dsimp only)) | (dsimp only; (with_reducible ((k_here; (with_reducible show wpAny _ _ (eval _ (envX _ _ _ _ _ _)) _ _ _); k_dflt (first | (refine' nameX_L ?Fz176 ?vz176 ?_ ?az176 ?bz176; (case Fz176 => k_asm); (case az176 => rfl); (case bz176 => rfl); (case vz176 => rfl); k_whole) | (refine' nameX_C ?Nz176 ?cz176 ?mz176 ?dz176 ?_ ?az176 ?bz176; (case az176 => rfl); (case bz176 => rfl); (case Nz176 => k_asm); (case cz176 => rfl); (case mz176 => walk_at "my mem"); (case dz176 => assumption); k_whole) | (refine' nameX_K ?Fz176 ?Xz176 ?Tz176 ?ez176 ?_ ?az176 ?bz176; (case Fz176 => k_asm); (case Xz176 => k_asm); (case Tz176 => k_asm); (case az176 => rfl); (case bz176 => rfl); (case ez176 => k_is); k_whole) | (refine' nameX_B ?Fz176 ?Xz176 ?Tz176 ?ez176 ?vz176 ?nz176 ?_ ?az176 ?bz176; (case Fz176 => k_asm); (case Xz176 => k_asm); (case Tz176 => k_asm); (case az176 => rfl); (case bz176 => rfl); (case ez176 => k_is); (case vz176 => boot_fast); (case nz176 => decide); k_whole))))); (try dsimp only)))
    iterate 2 (first | (k_unfold; (try dsimp only)) | (k_end; wrow_close) | (walk1; (try dsimp only)) | (dsimp only; walk1; (try dsimp only)) | (leave1; walk_say "STEP leave1"; try dsimp only))
    (first | ((with_reducible ((k_here; (with_reducible show wpAny _ _ (eval _ (envX _ _ _ _ _ _)) _ _ _); k_dflt (first | (refine' nameX_L ?Fz177 ?vz177 ?_ ?az177 ?bz177; (case Fz177 => k_asm); (case az177 => rfl); (case bz177 => rfl); (case vz177 => rfl); k_whole) | (refine' nameX_C ?Nz177 ?cz177 ?mz177 ?dz177 ?_ ?az177 ?bz177; (case az177 => rfl); (case bz177 => rfl); (case Nz177 => k_asm); (case cz177 => rfl); (case mz177 => walk_at "my mem"); (case dz177 => assumption); k_whole) | (refine' nameX_K ?Fz177 ?Xz177 ?Tz177 ?ez177 ?_ ?az177 ?bz177; (case Fz177 => k_asm); (case Xz177 => k_asm); (case Tz177 => k_asm); (case az177 => rfl); (case bz177 => rfl); (case ez177 => k_is); k_whole) | (refine' nameX_B ?Fz177 ?Xz177 ?Tz177 ?ez177 ?vz177 ?nz177 ?_ ?az177 ?bz177; (case Fz177 => k_asm); (case Xz177 => k_asm); (case Tz177 => k_asm); (case az177 => rfl); (case bz177 => rfl); (case ez177 => k_is); (case vz177 => boot_fast); (case nz177 => decide); k_whole))))); (try dsimp only)) | (dsimp only; (with_reducible ((k_here; (with_reducible show wpAny _ _ (eval _ (envX _ _ _ _ _ _)) _ _ _); k_dflt (first | (refine' nameX_L ?Fz177 ?vz177 ?_ ?az177 ?bz177; (case Fz177 => k_asm); (case az177 => rfl); (case bz177 => rfl); (case vz177 => rfl); k_whole) | (refine' nameX_C ?Nz177 ?cz177 ?mz177 ?dz177 ?_ ?az177 ?bz177; (case az177 => rfl); (case bz177 => rfl); (case Nz177 => k_asm); (case cz177 => rfl); (case mz177 => walk_at "my mem"); (case dz177 => assumption); k_whole) | (refine' nameX_K ?Fz177 ?Xz177 ?Tz177 ?ez177 ?_ ?az177 ?bz177; (case Fz177 => k_asm); (case Xz177 => k_asm); (case Tz177 => k_asm); (case az177 => rfl); (case bz177 => rfl); (case ez177 => k_is); k_whole) | (refine' nameX_B ?Fz177 ?Xz177 ?Tz177 ?ez177 ?vz177 ?nz177 ?_ ?az177 ?bz177; (case Fz177 => k_asm); (case Xz177 => k_asm); (case Tz177 => k_asm); (case az177 => rfl); (case bz177 => rfl); (case ez177 => k_is); (case vz177 => boot_fast); (case nz177 => decide); k_whole))))); (try dsimp only)))
    iterate 1 (first | (k_unfold; (try dsimp only)) | (k_end; wrow_close) | (walk1; (try dsimp only)) | (dsimp only; walk1; (try dsimp only)) | (leave1; walk_say "STEP leave1"; try dsimp only))
    refine kso_max F2 N2 (N2.isList m1) hi hne rfl ?_
    intro h3 M2 t2 tk2 F3 N3 hM2 hM2'
    clear F2 N2
    rw [one_cons hb hM1 hM1' hM2 hM2']
    (try dsimp only)
    iterate 2 (first | (k_unfold; (try dsimp only)) | (k_end; wrow_close) | (walk1; (try dsimp only)) | (dsimp only; walk1; (try dsimp only)) | (leave1; walk_say "STEP leave1"; try dsimp only))
    rw [show (decide (M1 = M2) != (M1 == M2)) = false from by rw [show (M1 == M2) = decide (M1 = M2) from rfl]; exact bne_self_eq_false _]
    iterate 3 (first | (k_unfold; (try dsimp only)) | (k_end; wrow_close) | (walk1; (try dsimp only)) | (dsimp only; walk1; (try dsimp only)) | (leave1; walk_say "STEP leave1"; try dsimp only))
    refine hK _ _ _ ?hn F3 N3
    case hn => kst_all
end

end
-- L7
section
example : True := by w_top off; exact trivial
noncomputable def keysF (os : List (Option Int)) (n : Nat) : List Int := ((List.range n).filter fun u => (os.getD u none).isSome).map fun (u : Nat) => 2 * (0 + (u : Int))
theorem one_test {M : Model} {A : Around} {E : Value → Shared → Prop} {s : Shared} {c : Expr} {cenv : Env} {Q : Bool → Shared → Prop} (h : wpAny M A (isTrue c cenv (eval c cenv)) Q E s) :
    wpAny M A (forIn [c] true fun c r => if r = true then do let ok ← isTrue c cenv (eval c cenv); pure (ForInStep.yield ok) else pure (ForInStep.yield r)) Q E s := by
  rw [List.forIn_cons]
  refine wpAny_bind ?_
  rw [if_pos rfl]
  refine wpAny_bind (wpAny_mono h (fun ok s' hq => wpAny_pure ?_) fun _ _ e => e)
  dsimp only
  rw [List.forIn_nil]
  exact wpAny_pure hq
theorem keysF_succ (os : List (Option Int)) (i : Nat) : keysF os (i + 1) = keysF os i ++ (if (os.getD i none).isSome = true then [2 * (0 + (i : Int))] else []) := by
  simp only [keysF, List.range_succ, List.filter_append, List.map_append, List.filter_cons, List.filter_nil]
  split <;> simp
theorem bareL_succ (os : List (Option Int)) (i : Nat) : bareL os (i + 1) = bareL os i ++ (if (os.getD i none).isSome = true then [(os.getD i none).map fun v => 10 * v - 1] else []) := by
  simp only [bareL, List.range_succ, List.filter_append, List.map_append, List.filter_cons, List.filter_nil]
  split <;> simp
theorem keysF_new {os : List (Option Int)} {kvs : List (Int × Value)} {i : Nat} (h : kvs.map (·.1) = keysF os i) : ∀ kv ∈ kvs, kv.1 ≠ 2 * (0 + (i : Int)) := by
  intro kv hm e
  have h1 : kv.1 ∈ kvs.map (·.1) := List.mem_map_of_mem hm
  rw [h] at h1
  obtain ⟨u, hu, e2⟩ := List.mem_map.mp h1
  have := List.mem_range.mp (List.mem_filter.mp hu).1
  omega
section
variable {w : World} {p : Program} {loose : List Str} {mean : ExcName → Option Value} {mg mb : Str → Option Value}
theorem t_v6a (j : Nat) (tv tw : Tok) (bo : Option Int) (wk rwA kA : Addr) (rwv : List Value) (rn : Nat) (news : Led) (dp un : Nat) (gd : Option (List Code)) (fa : Addr) (ccd : Value) (outer : List Env) (A₀ : Around) (base h₀ : Heap) (L : Addr) (m : Str → Option Value) (s : Shared) (Q : Flow → Shared → Prop) (E : Value → Shared → Prop) (restS : List Stmt)
    (B : Below A₀ base outer h₀) (F : Fr h₀ L s.heap m) (X : (Mine.hd.heap_39 w.params).In h₀) (T : Top p loose mean mg mb h₀)
    (N : News h₀ L s.heap ((rwA, listOf rwv.toArray rn) :: news)) (hof : ∀ p ∈ news, p.1 ≠ rwA) (hd : dp + 300 < recursionLimit) (hu : un + 3000 < cLine)
    (hM : ∀ M, bo = some M → 0 ≤ M ∧ M ≤ 57) (hrw : rwv.length ≤ 100)
    (hk : ∀ p ∈ [(Str.ofString "walks", Value.ref wk), (Str.ofString "row", Value.ref rwA), (Str.ofString "v", Value.int (0 + (j : Int)) tv), (Str.ofString "known", Value.ref kA), (Str.ofString "width", Value.int (widO bo) tw)], m p.1 = some p.2)
    (hK : ∀ t m' h' tk', (∀ p ∈ [(Str.ofString "walks", Value.ref wk), (Str.ofString "row", Value.ref rwA), (Str.ofString "v", Value.int (0 + (j : Int)) tv), (Str.ofString "known", Value.ref kA)], m' p.1 = some p.2) →
      Fr h₀ L h' m' → News h₀ L h' ((rwA, listOf (rwv ++ [ov bo t]).toArray (rn + 1)) :: news) →
      wpAny (model PySem.Challenge.rw_wo0033_01.row.prog w) (lawA dp un gd L fa ccd outer) (execs restS (lawEnv L fa ccd)) Q E { s with heap := h', toks := tk' }) :
    wpAny (model PySem.Challenge.rw_wo0033_01.row.prog w) (lawA dp un gd L fa ccd outer) (execs (vS 10 :: restS) (lawEnv L fa ccd)) Q E s := by
  revert X; k_fill; intro X
  change wpAny _ (ktrTop dp un gd _ ⟨_, _, _, _, _⟩ L fa ccd _ outer) (execs (.Expr _ _ :: restS) (envX _ ⟨_, _, _, _, _⟩ _ _ _ _)) _ _ _
  replace F := fr_kst hk F
  dsimp only [kstB] at F
  cases bo with
  | none =>
    dsimp only [widO] at F
    iterate 3 (first | (k_unfold; (try dsimp only)) | (k_end; wrow_close) | (walk1; (try dsimp only)) | (dsimp only; walk1; (try dsimp only)) | (leave1; walk_say "STEP leave1"; try dsimp only))
    (first | ((with_reducible ((k_here; (with_reducible show wpAny _ _ (eval _ (envX _ _ _ _ _ _)) _ _ _); k_dflt (first | (refine' nameX_L ?Fz178 ?vz178 ?_ ?az178 ?bz178; (case Fz178 => k_asm); (case az178 => rfl); (case bz178 => rfl); (case vz178 => rfl); k_whole) | (refine' nameX_C ?Nz178 ?cz178 ?mz178 ?dz178 ?_ ?az178 ?bz178; (case az178 => rfl); (case bz178 => rfl); (case Nz178 => k_asm); (case cz178 => rfl); (case mz178 => walk_at "my mem"); (case dz178 => assumption); k_whole) | (refine' nameX_K ?Fz178 ?Xz178 ?Tz178 ?ez178 ?_ ?az178 ?bz178; (case Fz178 => k_asm); (case Xz178 => k_asm); (case Tz178 => k_asm); (case az178 => rfl); (case bz178 => rfl); (case ez178 => k_is); k_whole) | (refine' nameX_B ?Fz178 ?Xz178 ?Tz178 ?ez178 ?vz178 ?nz178 ?_ ?az178 ?bz178; (case Fz178 => k_asm); (case Xz178 => k_asm); (case Tz178 => k_asm); (case az178 => rfl); (case bz178 => rfl); (case ez178 => k_is); (case vz178 => boot_fast); (case nz178 => decide); k_whole))))); (try dsimp only)) | (dsimp only; (with_reducible ((k_here; (with_reducible show wpAny _ _ (eval _ (envX _ _ _ _ _ _)) _ _ _); k_dflt (first | (refine' nameX_L ?Fz178 ?vz178 ?_ ?az178 ?bz178; (case Fz178 => k_asm); (case az178 => rfl); (case bz178 => rfl); (case vz178 => rfl); k_whole) | (refine' nameX_C ?Nz178 ?cz178 ?mz178 ?dz178 ?_ ?az178 ?bz178; (case az178 => rfl); (case bz178 => rfl); (case Nz178 => k_asm); (case cz178 => rfl); (case mz178 => walk_at "my mem"); (case dz178 => assumption); k_whole) | (refine' nameX_K ?Fz178 ?Xz178 ?Tz178 ?ez178 ?_ ?az178 ?bz178; (case Fz178 => k_asm); (case Xz178 => k_asm); (case Tz178 => k_asm); (case az178 => rfl); (case bz178 => rfl); (case ez178 => k_is); k_whole) | (refine' nameX_B ?Fz178 ?Xz178 ?Tz178 ?ez178 ?vz178 ?nz178 ?_ ?az178 ?bz178; (case Fz178 => k_asm); (case Xz178 => k_asm); (case Tz178 => k_asm); (case az178 => rfl); (case bz178 => rfl); (case ez178 => k_is); (case vz178 => boot_fast); (case nz178 => decide); k_whole))))); (try dsimp only)))
    iterate 5 (first | (k_unfold; (try dsimp only)) | (k_end; wrow_close) | (walk1; (try dsimp only)) | (dsimp only; walk1; (try dsimp only)) | (leave1; walk_say "STEP leave1"; try dsimp only))
    (first | ((with_reducible ((k_here; (with_reducible show wpAny _ _ (eval _ (envX _ _ _ _ _ _)) _ _ _); k_dflt (first | (refine' nameX_L ?Fz179 ?vz179 ?_ ?az179 ?bz179; (case Fz179 => k_asm); (case az179 => rfl); (case bz179 => rfl); (case vz179 => rfl); k_whole) | (refine' nameX_C ?Nz179 ?cz179 ?mz179 ?dz179 ?_ ?az179 ?bz179; (case az179 => rfl); (case bz179 => rfl); (case Nz179 => k_asm); (case cz179 => rfl); (case mz179 => walk_at "my mem"); (case dz179 => assumption); k_whole) | (refine' nameX_K ?Fz179 ?Xz179 ?Tz179 ?ez179 ?_ ?az179 ?bz179; (case Fz179 => k_asm); (case Xz179 => k_asm); (case Tz179 => k_asm); (case az179 => rfl); (case bz179 => rfl); (case ez179 => k_is); k_whole) | (refine' nameX_B ?Fz179 ?Xz179 ?Tz179 ?ez179 ?vz179 ?nz179 ?_ ?az179 ?bz179; (case Fz179 => k_asm); (case Xz179 => k_asm); (case Tz179 => k_asm); (case az179 => rfl); (case bz179 => rfl); (case ez179 => k_is); (case vz179 => boot_fast); (case nz179 => decide); k_whole))))); (try dsimp only)) | (dsimp only; (with_reducible ((k_here; (with_reducible show wpAny _ _ (eval _ (envX _ _ _ _ _ _)) _ _ _); k_dflt (first | (refine' nameX_L ?Fz179 ?vz179 ?_ ?az179 ?bz179; (case Fz179 => k_asm); (case az179 => rfl); (case bz179 => rfl); (case vz179 => rfl); k_whole) | (refine' nameX_C ?Nz179 ?cz179 ?mz179 ?dz179 ?_ ?az179 ?bz179; (case az179 => rfl); (case bz179 => rfl); (case Nz179 => k_asm); (case cz179 => rfl); (case mz179 => walk_at "my mem"); (case dz179 => assumption); k_whole) | (refine' nameX_K ?Fz179 ?Xz179 ?Tz179 ?ez179 ?_ ?az179 ?bz179; (case Fz179 => k_asm); (case Xz179 => k_asm); (case Tz179 => k_asm); (case az179 => rfl); (case bz179 => rfl); (case ez179 => k_is); k_whole) | (refine' nameX_B ?Fz179 ?Xz179 ?Tz179 ?ez179 ?vz179 ?nz179 ?_ ?az179 ?bz179; (case Fz179 => k_asm); (case Xz179 => k_asm); (case Tz179 => k_asm); (case az179 => rfl); (case bz179 => rfl); (case ez179 => k_is); (case vz179 => boot_fast); (case nz179 => decide); k_whole))))); (try dsimp only)))
    iterate 6 (first | (k_unfold; (try dsimp only)) | (k_end; wrow_close) | (walk1; (try dsimp only)) | (dsimp only; walk1; (try dsimp only)) | (leave1; walk_say "STEP leave1"; try dsimp only))
    rename Fr _ _ _ _ => F8
    rename News _ _ _ _ => N8
    refine my_append [] F8 N8 (List.forall_mem_nil _) hof (by omega) ?_
    intro h8 F9 N9
    clear F8 N8
    (try dsimp only)
    refine hK 0 _ _ _ ?hn F9 N9
    case hn => kst_all
  | some M =>
    obtain ⟨hM1, hM2⟩ := hM M rfl
    dsimp only [widO] at F
    iterate 3 (first | (k_unfold; (try dsimp only)) | (k_end; wrow_close) | (walk1; (try dsimp only)) | (dsimp only; walk1; (try dsimp only)) | (leave1; walk_say "STEP leave1"; try dsimp only))
    (first | ((with_reducible ((k_here; (with_reducible show wpAny _ _ (eval _ (envX _ _ _ _ _ _)) _ _ _); k_dflt (first | (refine' nameX_L ?Fz180 ?vz180 ?_ ?az180 ?bz180; (case Fz180 => k_asm); (case az180 => rfl); (case bz180 => rfl); (case vz180 => rfl); k_whole) | (refine' nameX_C ?Nz180 ?cz180 ?mz180 ?dz180 ?_ ?az180 ?bz180; (case az180 => rfl); (case bz180 => rfl); (case Nz180 => k_asm); (case cz180 => rfl); (case mz180 => walk_at "my mem"); (case dz180 => assumption); k_whole) | (refine' nameX_K ?Fz180 ?Xz180 ?Tz180 ?ez180 ?_ ?az180 ?bz180; (case Fz180 => k_asm); (case Xz180 => k_asm); (case Tz180 => k_asm); (case az180 => rfl); (case bz180 => rfl); (case ez180 => k_is); k_whole) | (refine' nameX_B ?Fz180 ?Xz180 ?Tz180 ?ez180 ?vz180 ?nz180 ?_ ?az180 ?bz180; (case Fz180 => k_asm); (case Xz180 => k_asm); (case Tz180 => k_asm); (case az180 => rfl); (case bz180 => rfl); (case ez180 => k_is); (case vz180 => boot_fast); (case nz180 => decide); k_whole))))); (try dsimp only)) | (dsimp only; (with_reducible ((k_here; (with_reducible show wpAny _ _ (eval _ (envX _ _ _ _ _ _)) _ _ _); k_dflt (first | (refine' nameX_L ?Fz180 ?vz180 ?_ ?az180 ?bz180; (case Fz180 => k_asm); (case az180 => rfl); (case bz180 => rfl); (case vz180 => rfl); k_whole) | (refine' nameX_C ?Nz180 ?cz180 ?mz180 ?dz180 ?_ ?az180 ?bz180; (case az180 => rfl); (case bz180 => rfl); (case Nz180 => k_asm); (case cz180 => rfl); (case mz180 => walk_at "my mem"); (case dz180 => assumption); k_whole) | (refine' nameX_K ?Fz180 ?Xz180 ?Tz180 ?ez180 ?_ ?az180 ?bz180; (case Fz180 => k_asm); (case Xz180 => k_asm); (case Tz180 => k_asm); (case az180 => rfl); (case bz180 => rfl); (case ez180 => k_is); k_whole) | (refine' nameX_B ?Fz180 ?Xz180 ?Tz180 ?ez180 ?vz180 ?nz180 ?_ ?az180 ?bz180; (case Fz180 => k_asm); (case Xz180 => k_asm); (case Tz180 => k_asm); (case az180 => rfl); (case bz180 => rfl); (case ez180 => k_is); (case vz180 => boot_fast); (case nz180 => decide); k_whole))))); (try dsimp only)))
    iterate 5 (first | (k_unfold; (try dsimp only)) | (k_end; wrow_close) | (walk1; (try dsimp only)) | (dsimp only; walk1; (try dsimp only)) | (leave1; walk_say "STEP leave1"; try dsimp only))
    (first | ((with_reducible ((k_here; (with_reducible show wpAny _ _ (eval _ (envX _ _ _ _ _ _)) _ _ _); k_dflt (first | (refine' nameX_L ?Fz181 ?vz181 ?_ ?az181 ?bz181; (case Fz181 => k_asm); (case az181 => rfl); (case bz181 => rfl); (case vz181 => rfl); k_whole) | (refine' nameX_C ?Nz181 ?cz181 ?mz181 ?dz181 ?_ ?az181 ?bz181; (case az181 => rfl); (case bz181 => rfl); (case Nz181 => k_asm); (case cz181 => rfl); (case mz181 => walk_at "my mem"); (case dz181 => assumption); k_whole) | (refine' nameX_K ?Fz181 ?Xz181 ?Tz181 ?ez181 ?_ ?az181 ?bz181; (case Fz181 => k_asm); (case Xz181 => k_asm); (case Tz181 => k_asm); (case az181 => rfl); (case bz181 => rfl); (case ez181 => k_is); k_whole) | (refine' nameX_B ?Fz181 ?Xz181 ?Tz181 ?ez181 ?vz181 ?nz181 ?_ ?az181 ?bz181; (case Fz181 => k_asm); (case Xz181 => k_asm); (case Tz181 => k_asm); (case az181 => rfl); (case bz181 => rfl); (case ez181 => k_is); (case vz181 => boot_fast); (case nz181 => decide); k_whole))))); (try dsimp only)) | (dsimp only; (with_reducible ((k_here; (with_reducible show wpAny _ _ (eval _ (envX _ _ _ _ _ _)) _ _ _); k_dflt (first | (refine' nameX_L ?Fz181 ?vz181 ?_ ?az181 ?bz181; (case Fz181 => k_asm); (case az181 => rfl); (case bz181 => rfl); (case vz181 => rfl); k_whole) | (refine' nameX_C ?Nz181 ?cz181 ?mz181 ?dz181 ?_ ?az181 ?bz181; (case az181 => rfl); (case bz181 => rfl); (case Nz181 => k_asm); (case cz181 => rfl); (case mz181 => walk_at "my mem"); (case dz181 => assumption); k_whole) | (refine' nameX_K ?Fz181 ?Xz181 ?Tz181 ?ez181 ?_ ?az181 ?bz181; (case Fz181 => k_asm); (case Xz181 => k_asm); (case Tz181 => k_asm); (case az181 => rfl); (case bz181 => rfl); (case ez181 => k_is); k_whole) | (refine' nameX_B ?Fz181 ?Xz181 ?Tz181 ?ez181 ?vz181 ?nz181 ?_ ?az181 ?bz181; (case Fz181 => k_asm); (case Xz181 => k_asm); (case Tz181 => k_asm); (case az181 => rfl); (case bz181 => rfl); (case ez181 => k_is); (case vz181 => boot_fast); (case nz181 => decide); k_whole))))); (try dsimp only)))
    iterate 5 (first | (k_unfold; (try dsimp only)) | (k_end; wrow_close) | (walk1; (try dsimp only)) | (dsimp only; walk1; (try dsimp only)) | (leave1; walk_say "STEP leave1"; try dsimp only))
    (first | ((with_reducible ((k_here; (with_reducible show wpAny _ _ (eval _ (envX _ _ _ _ _ _)) _ _ _); k_dflt (first | (refine' nameX_L ?Fz182 ?vz182 ?_ ?az182 ?bz182; (case Fz182 => k_asm); (case az182 => rfl); (case bz182 => rfl); (case vz182 => rfl); k_whole) | (refine' nameX_C ?Nz182 ?cz182 ?mz182 ?dz182 ?_ ?az182 ?bz182; (case az182 => rfl); (case bz182 => rfl); (case Nz182 => k_asm); (case cz182 => rfl); (case mz182 => walk_at "my mem"); (case dz182 => assumption); k_whole) | (refine' nameX_K ?Fz182 ?Xz182 ?Tz182 ?ez182 ?_ ?az182 ?bz182; (case Fz182 => k_asm); (case Xz182 => k_asm); (case Tz182 => k_asm); (case az182 => rfl); (case bz182 => rfl); (case ez182 => k_is); k_whole) | (refine' nameX_B ?Fz182 ?Xz182 ?Tz182 ?ez182 ?vz182 ?nz182 ?_ ?az182 ?bz182; (case Fz182 => k_asm); (case Xz182 => k_asm); (case Tz182 => k_asm); (case az182 => rfl); (case bz182 => rfl); (case ez182 => k_is); (case vz182 => boot_fast); (case nz182 => decide); k_whole))))); (try dsimp only)) | (dsimp only; (with_reducible ((k_here; (with_reducible show wpAny _ _ (eval _ (envX _ _ _ _ _ _)) _ _ _); k_dflt (first | (refine' nameX_L ?Fz182 ?vz182 ?_ ?az182 ?bz182; (case Fz182 => k_asm); (case az182 => rfl); (case bz182 => rfl); (case vz182 => rfl); k_whole) | (refine' nameX_C ?Nz182 ?cz182 ?mz182 ?dz182 ?_ ?az182 ?bz182; (case az182 => rfl); (case bz182 => rfl); (case Nz182 => k_asm); (case cz182 => rfl); (case mz182 => walk_at "my mem"); (case dz182 => assumption); k_whole) | (refine' nameX_K ?Fz182 ?Xz182 ?Tz182 ?ez182 ?_ ?az182 ?bz182; (case Fz182 => k_asm); (case Xz182 => k_asm); (case Tz182 => k_asm); (case az182 => rfl); (case bz182 => rfl); (case ez182 => k_is); k_whole) | (refine' nameX_B ?Fz182 ?Xz182 ?Tz182 ?ez182 ?vz182 ?nz182 ?_ ?az182 ?bz182; (case Fz182 => k_asm); (case Xz182 => k_asm); (case Tz182 => k_asm); (case az182 => rfl); (case bz182 => rfl); (case ez182 => k_is); (case vz182 => boot_fast); (case nz182 => decide); k_whole))))); (try dsimp only)))
    iterate 3 (first | (k_unfold; (try dsimp only)) | (k_end; wrow_close) | (walk1; (try dsimp only)) | (dsimp only; walk1; (try dsimp only)) | (leave1; walk_say "STEP leave1"; try dsimp only))
    rw [show M + 4 - 4 = M by omega]
    rename Fr _ _ _ _ => F8
    rename News _ _ _ _ => N8
    refine my_append [] F8 N8 (List.forall_mem_nil _) hof (by omega) ?_
    intro h8 F9 N9
    clear F8 N8
    (try dsimp only)
    refine hK _ _ _ _ ?hn F9 N9
    case hn => kst_all
theorem t_v6b (j : Nat) (tv tb : Tok) (os : List (Option Int)) (wk rwA kA lA : Addr) (lv rwv : List Value) (ln rn : Nat) (o2 : Obj) (news : Led) (dp un : Nat) (gd : Option (List Code)) (fa : Addr) (ccd : Value) (outer : List Env) (A₀ : Around) (base h₀ : Heap) (L : Addr) (m : Str → Option Value) (s : Shared) (Q : Flow → Shared → Prop) (E : Value → Shared → Prop) (restS : List Stmt)
    (B : Below A₀ base outer h₀) (F : Fr h₀ L s.heap m) (X : (Mine.hd.heap_39 w.params).In h₀) (T : Top p loose mean mg mb h₀)
    (N : News h₀ L s.heap news) (hd : dp + 300 < recursionLimit) (hu : un + 3000 < cLine)
    (m1 : (lA, listOf lv.toArray ln) ∈ news) (m2 : (L + 1 + 1, o2) ∈ news) (d2 : o2.data = .cell (some (.ref lA))) (m3 : (rwA, listOf rwv.toArray rn) ∈ news)
    (hl : OvL os lv) (hol : os.length = 3) (hb : Bd os) (hrw : rwv.length ≤ 100) (hrw1 : 1 ≤ rwv.length) (hrw2 : rwv[rwv.length - 1]? = some (ov (bestO os) tb))
    (hk : ∀ p ∈ [(Str.ofString "walks", Value.ref wk), (Str.ofString "row", Value.ref rwA), (Str.ofString "v", Value.int (0 + (j : Int)) tv), (Str.ofString "known", Value.ref kA)], m p.1 = some p.2)
    (hK : ∀ m' h' tk', (∀ p ∈ [(Str.ofString "walks", Value.ref wk), (Str.ofString "row", Value.ref rwA), (Str.ofString "v", Value.int (0 + (j : Int)) tv), (Str.ofString "known", Value.ref kA)], m' p.1 = some p.2) →
      Fr h₀ L h' m' → News h₀ L h' news →
      wpAny (model PySem.Challenge.rw_wo0033_01.row.prog w) (lawA dp un gd L fa ccd outer) (execs restS (lawEnv L fa ccd)) Q E { s with heap := h', toks := tk' }) :
    wpAny (model PySem.Challenge.rw_wo0033_01.row.prog w) (lawA dp un gd L fa ccd outer) (execs (vS 11 :: vS 12 :: restS) (lawEnv L fa ccd)) Q E s := by
  revert X; k_fill; intro X
  change wpAny _ (ktrTop dp un gd _ ⟨_, _, _, _, _⟩ L fa ccd _ outer) (execs (.Assign _ _ _ :: .If _ _ _ _ :: restS) (envX _ ⟨_, _, _, _, _⟩ _ _ _ _)) _ _ _
  replace F := fr_kst hk F
  dsimp only [kstB] at F
  have hlv := hl.length
  iterate 1 (first | (k_unfold; (try dsimp only)) | (k_end; wrow_close) | (walk1; (try dsimp only)) | (dsimp only; walk1; (try dsimp only)) | (leave1; walk_say "STEP leave1"; try dsimp only))
  (first | ((with_reducible ((k_here; k_dflt (refine Assign_DictComp_J (intKind _ _) (by k_asm) (by rfl) (by with_unfolding_all rfl) (by with_unfolding_all rfl) (by decide) (by rfl) (by decide) (by rfl) (by rfl) (by rfl) ?_)))); (try dsimp only)) | (dsimp only; (with_reducible ((k_here; k_dflt (refine Assign_DictComp_J (intKind _ _) (by k_asm) (by rfl) (by with_unfolding_all rfl) (by with_unfolding_all rfl) (by decide) (by rfl) (by decide) (by rfl) (by rfl) (by rfl) ?_)))); (try dsimp only)))
  iterate 1 (first | (k_unfold; (try dsimp only)) | (k_end; wrow_close) | (walk1; (try dsimp only)) | (dsimp only; walk1; (try dsimp only)) | (leave1; walk_say "STEP leave1"; try dsimp only))
  (first | ((with_reducible ((k_here; (with_reducible show wpAny _ _ (eval _ (envX _ _ _ _ _ _)) _ _ _); k_dflt (first | (refine' nameX_L ?Fz184 ?vz184 ?_ ?az184 ?bz184; (case Fz184 => k_asm); (case az184 => rfl); (case bz184 => rfl); (case vz184 => rfl); k_whole) | (refine' nameX_C ?Nz184 ?cz184 ?mz184 ?dz184 ?_ ?az184 ?bz184; (case az184 => rfl); (case bz184 => rfl); (case Nz184 => k_asm); (case cz184 => rfl); (case mz184 => walk_at "my mem"); (case dz184 => assumption); k_whole) | (refine' nameX_K ?Fz184 ?Xz184 ?Tz184 ?ez184 ?_ ?az184 ?bz184; (case Fz184 => k_asm); (case Xz184 => k_asm); (case Tz184 => k_asm); (case az184 => rfl); (case bz184 => rfl); (case ez184 => k_is); k_whole) | (refine' nameX_B ?Fz184 ?Xz184 ?Tz184 ?ez184 ?vz184 ?nz184 ?_ ?az184 ?bz184; (case Fz184 => k_asm); (case Xz184 => k_asm); (case Tz184 => k_asm); (case az184 => rfl); (case bz184 => rfl); (case ez184 => k_is); (case vz184 => boot_fast); (case nz184 => decide); k_whole))))); (try dsimp only)) | (dsimp only; (with_reducible ((k_here; (with_reducible show wpAny _ _ (eval _ (envX _ _ _ _ _ _)) _ _ _); k_dflt (first | (refine' nameX_L ?Fz184 ?vz184 ?_ ?az184 ?bz184; (case Fz184 => k_asm); (case az184 => rfl); (case bz184 => rfl); (case vz184 => rfl); k_whole) | (refine' nameX_C ?Nz184 ?cz184 ?mz184 ?dz184 ?_ ?az184 ?bz184; (case az184 => rfl); (case bz184 => rfl); (case Nz184 => k_asm); (case cz184 => rfl); (case mz184 => walk_at "my mem"); (case dz184 => assumption); k_whole) | (refine' nameX_K ?Fz184 ?Xz184 ?Tz184 ?ez184 ?_ ?az184 ?bz184; (case Fz184 => k_asm); (case Xz184 => k_asm); (case Tz184 => k_asm); (case az184 => rfl); (case bz184 => rfl); (case ez184 => k_is); k_whole) | (refine' nameX_B ?Fz184 ?Xz184 ?Tz184 ?ez184 ?vz184 ?nz184 ?_ ?az184 ?bz184; (case Fz184 => k_asm); (case Xz184 => k_asm); (case Tz184 => k_asm); (case az184 => rfl); (case bz184 => rfl); (case ez184 => k_is); (case vz184 => boot_fast); (case nz184 => decide); k_whole))))); (try dsimp only)))
  iterate 5 (first | (k_unfold; (try dsimp only)) | (k_end; wrow_close) | (walk1; (try dsimp only)) | (dsimp only; walk1; (try dsimp only)) | (leave1; walk_say "STEP leave1"; try dsimp only))
  rename Fr _ _ _ _ => F1
  rename News _ _ _ _ => N1
  rename IsRange _ _ _ _ _ _ _ _ => hR
  refine DSrcA.range (n := 3) (fun i kvs nw => nw = news ∧ kvs.map (·.1) = keysF os i ∧ OvL (bareL os i) (kvs.map (·.2))) rfl F1 N1 hR (by decide) (by rfl) (by decide) ⟨rfl, rfl, .nil⟩ ?turn ?fin
  case turn =>
    clear F1 N1
    rintro g i v I oI C oC D oD m₂ kvs h tk nw E' hi ⟨t, hv⟩ ⟨hnw, hkeys, hvals⟩ hdo hC hx F9 N9 off ne
    subst hv hnw
    refine one_test ?_
    obtain ⟨tl, hlv9⟩ := ovGet (k := i) hl (by omega)
    have hi9 : lv[(0 + (i : Int)).toNat]? = some (ov (os.getD i none) tl) := by rw [tn0 i]; exact hlv9
    have hnew := keysF_new hkeys
    have hks := keysF_succ os i
    have hbs := bareL_succ os i
    cases ho : os.getD i none with
    | none =>
      rw [ho] at hi9 hks hbs
      dsimp only [ov] at hi9
      (try dsimp only)
      iterate 2 (first | (k_unfold; (try dsimp only)) | (k_end; wrow_close) | (walk1; (try dsimp only)) | (dsimp only; walk1; (try dsimp only)) | (leave1; walk_say "STEP leave1"; try dsimp only))
      (first | ((with_reducible ((k_here; (with_reducible show wpAny _ _ (eval _ (compEnvC _ _ _ _)) _ _ _); k_dflt (first | refine LCgL.ld_own (by k_asm) (by walk_at "my mem") (by assumption) (by assumption) ?_ | refine kcf_cell (by k_asm) (by rfl) (by walk_at "my mem") (by assumption) ?_)))); (try dsimp only)) | (dsimp only; (with_reducible ((k_here; (with_reducible show wpAny _ _ (eval _ (compEnvC _ _ _ _)) _ _ _); k_dflt (first | refine LCgL.ld_own (by k_asm) (by walk_at "my mem") (by assumption) (by assumption) ?_ | refine kcf_cell (by k_asm) (by rfl) (by walk_at "my mem") (by assumption) ?_)))); (try dsimp only)))
      (first | ((with_reducible ((k_here; (with_reducible show wpAny _ _ (eval _ (compEnvC _ _ _ _)) _ _ _); k_dflt (first | refine LCgL.ld_own (by k_asm) (by walk_at "my mem") (by assumption) (by assumption) ?_ | refine kcf_cell (by k_asm) (by rfl) (by walk_at "my mem") (by assumption) ?_)))); (try dsimp only)) | (dsimp only; (with_reducible ((k_here; (with_reducible show wpAny _ _ (eval _ (compEnvC _ _ _ _)) _ _ _); k_dflt (first | refine LCgL.ld_own (by k_asm) (by walk_at "my mem") (by assumption) (by assumption) ?_ | refine kcf_cell (by k_asm) (by rfl) (by walk_at "my mem") (by assumption) ?_)))); (try dsimp only)))
      (first | ((with_reducible (((k_here; (with_reducible show wpAny _ _ (subscriptTail _ _ (Value.ref _) (Value.int _ _)) _ _ _); k_dflt (first | refine my_item (by k_asm) (by walk_at "my mem") (by omega) (by omega) (by assumption) ?_ | refine my_last (by k_asm) (by walk_at "my mem") (by omega) (by omega) (by assumption) ?_))))); (try dsimp only)) | (dsimp only; (with_reducible (((k_here; (with_reducible show wpAny _ _ (subscriptTail _ _ (Value.ref _) (Value.int _ _)) _ _ _); k_dflt (first | refine my_item (by k_asm) (by walk_at "my mem") (by omega) (by omega) (by assumption) ?_ | refine my_last (by k_asm) (by walk_at "my mem") (by omega) (by omega) (by assumption) ?_))))); (try dsimp only)))
      iterate 4 (first | (k_unfold; (try dsimp only)) | (k_end; wrow_close) | (walk1; (try dsimp only)) | (dsimp only; walk1; (try dsimp only)) | (leave1; walk_say "STEP leave1"; try dsimp only))
      refine LCg.CompEnd.intro F9 N9 _ (fun p hp => hp) off trivial ⟨rfl, ?keys, ?vals⟩
      case keys => rw [hks, Option.isSome_none, if_neg (by decide), List.append_nil]; exact hkeys
      case vals => rw [hbs, Option.isSome_none, if_neg (by decide), List.append_nil]; exact hvals
    | some o =>
      rw [ho] at hi9 hks hbs
      dsimp only [ov] at hi9
      (try dsimp only)
      iterate 2 (first | (k_unfold; (try dsimp only)) | (k_end; wrow_close) | (walk1; (try dsimp only)) | (dsimp only; walk1; (try dsimp only)) | (leave1; walk_say "STEP leave1"; try dsimp only))
      (first | ((with_reducible ((k_here; (with_reducible show wpAny _ _ (eval _ (compEnvC _ _ _ _)) _ _ _); k_dflt (first | refine LCgL.ld_own (by k_asm) (by walk_at "my mem") (by assumption) (by assumption) ?_ | refine kcf_cell (by k_asm) (by rfl) (by walk_at "my mem") (by assumption) ?_)))); (try dsimp only)) | (dsimp only; (with_reducible ((k_here; (with_reducible show wpAny _ _ (eval _ (compEnvC _ _ _ _)) _ _ _); k_dflt (first | refine LCgL.ld_own (by k_asm) (by walk_at "my mem") (by assumption) (by assumption) ?_ | refine kcf_cell (by k_asm) (by rfl) (by walk_at "my mem") (by assumption) ?_)))); (try dsimp only)))
      (first | ((with_reducible ((k_here; (with_reducible show wpAny _ _ (eval _ (compEnvC _ _ _ _)) _ _ _); k_dflt (first | refine LCgL.ld_own (by k_asm) (by walk_at "my mem") (by assumption) (by assumption) ?_ | refine kcf_cell (by k_asm) (by rfl) (by walk_at "my mem") (by assumption) ?_)))); (try dsimp only)) | (dsimp only; (with_reducible ((k_here; (with_reducible show wpAny _ _ (eval _ (compEnvC _ _ _ _)) _ _ _); k_dflt (first | refine LCgL.ld_own (by k_asm) (by walk_at "my mem") (by assumption) (by assumption) ?_ | refine kcf_cell (by k_asm) (by rfl) (by walk_at "my mem") (by assumption) ?_)))); (try dsimp only)))
      (first | ((with_reducible (((k_here; (with_reducible show wpAny _ _ (subscriptTail _ _ (Value.ref _) (Value.int _ _)) _ _ _); k_dflt (first | refine my_item (by k_asm) (by walk_at "my mem") (by omega) (by omega) (by assumption) ?_ | refine my_last (by k_asm) (by walk_at "my mem") (by omega) (by omega) (by assumption) ?_))))); (try dsimp only)) | (dsimp only; (with_reducible (((k_here; (with_reducible show wpAny _ _ (subscriptTail _ _ (Value.ref _) (Value.int _ _)) _ _ _); k_dflt (first | refine my_item (by k_asm) (by walk_at "my mem") (by omega) (by omega) (by assumption) ?_ | refine my_last (by k_asm) (by walk_at "my mem") (by omega) (by omega) (by assumption) ?_))))); (try dsimp only)))
      iterate 6 (first | (k_unfold; (try dsimp only)) | (k_end; wrow_close) | (walk1; (try dsimp only)) | (dsimp only; walk1; (try dsimp only)) | (leave1; walk_say "STEP leave1"; try dsimp only))
      (first | ((with_reducible ((k_here; (with_reducible show wpAny _ _ (eval _ (compEnvC _ _ _ _)) _ _ _); k_dflt (first | refine LCgL.ld_own (by k_asm) (by walk_at "my mem") (by assumption) (by assumption) ?_ | refine kcf_cell (by k_asm) (by rfl) (by walk_at "my mem") (by assumption) ?_)))); (try dsimp only)) | (dsimp only; (with_reducible ((k_here; (with_reducible show wpAny _ _ (eval _ (compEnvC _ _ _ _)) _ _ _); k_dflt (first | refine LCgL.ld_own (by k_asm) (by walk_at "my mem") (by assumption) (by assumption) ?_ | refine kcf_cell (by k_asm) (by rfl) (by walk_at "my mem") (by assumption) ?_)))); (try dsimp only)))
      iterate 5 (first | (k_unfold; (try dsimp only)) | (k_end; wrow_close) | (walk1; (try dsimp only)) | (dsimp only; walk1; (try dsimp only)) | (leave1; walk_say "STEP leave1"; try dsimp only))
      (first | ((with_reducible ((k_here; (with_reducible show wpAny _ _ (eval _ (compEnvC _ _ _ _)) _ _ _); k_dflt (first | refine LCgL.ld_own (by k_asm) (by walk_at "my mem") (by assumption) (by assumption) ?_ | refine kcf_cell (by k_asm) (by rfl) (by walk_at "my mem") (by assumption) ?_)))); (try dsimp only)) | (dsimp only; (with_reducible ((k_here; (with_reducible show wpAny _ _ (eval _ (compEnvC _ _ _ _)) _ _ _); k_dflt (first | refine LCgL.ld_own (by k_asm) (by walk_at "my mem") (by assumption) (by assumption) ?_ | refine kcf_cell (by k_asm) (by rfl) (by walk_at "my mem") (by assumption) ?_)))); (try dsimp only)))
      (first | ((with_reducible ((k_here; (with_reducible show wpAny _ _ (eval _ (compEnvC _ _ _ _)) _ _ _); k_dflt (first | refine LCgL.ld_own (by k_asm) (by walk_at "my mem") (by assumption) (by assumption) ?_ | refine kcf_cell (by k_asm) (by rfl) (by walk_at "my mem") (by assumption) ?_)))); (try dsimp only)) | (dsimp only; (with_reducible ((k_here; (with_reducible show wpAny _ _ (eval _ (compEnvC _ _ _ _)) _ _ _); k_dflt (first | refine LCgL.ld_own (by k_asm) (by walk_at "my mem") (by assumption) (by assumption) ?_ | refine kcf_cell (by k_asm) (by rfl) (by walk_at "my mem") (by assumption) ?_)))); (try dsimp only)))
      (first | ((with_reducible (((k_here; (with_reducible show wpAny _ _ (subscriptTail _ _ (Value.ref _) (Value.int _ _)) _ _ _); k_dflt (first | refine my_item (by k_asm) (by walk_at "my mem") (by omega) (by omega) (by assumption) ?_ | refine my_last (by k_asm) (by walk_at "my mem") (by omega) (by omega) (by assumption) ?_))))); (try dsimp only)) | (dsimp only; (with_reducible (((k_here; (with_reducible show wpAny _ _ (subscriptTail _ _ (Value.ref _) (Value.int _ _)) _ _ _); k_dflt (first | refine my_item (by k_asm) (by walk_at "my mem") (by omega) (by omega) (by assumption) ?_ | refine my_last (by k_asm) (by walk_at "my mem") (by omega) (by omega) (by assumption) ?_))))); (try dsimp only)))
      iterate 3 (first | (k_unfold; (try dsimp only)) | (k_end; wrow_close) | (walk1; (try dsimp only)) | (dsimp only; walk1; (try dsimp only)) | (leave1; walk_say "STEP leave1"; try dsimp only))
      refine ⟨2 * (0 + (i : Int)), ?is, LCg.CompEnd.intro F9 N9 _ (fun p hp => hp) off trivial ⟨rfl, ?keys, ?vals⟩⟩
      case is => exact intKind_is _ _ _ _
      case keys => rw [stored_new hnew, List.map_append, hkeys, hks, Option.isSome_some, if_pos rfl]; rfl
      case vals => rw [stored_new hnew, List.map_append, hbs, Option.isSome_some, if_pos rfl]; exact ovApp hvals (.cons (o := some _) .nil)
  case fin =>
    clear F1 N1
    rintro D h8 tk8 kvs oD nw F8 N8 hdo o8 ⟨hnw, hkeys, hvals⟩ hsm
    subst hnw
    (try dsimp only)
    iterate 4 (first | (k_unfold; (try dsimp only)) | (k_end; wrow_close) | (walk1; (try dsimp only)) | (dsimp only; walk1; (try dsimp only)) | (leave1; walk_say "STEP leave1"; try dsimp only))
    (first | ((with_reducible ((k_here; (with_reducible show wpAny _ _ (eval _ (envX _ _ _ _ _ _)) _ _ _); k_dflt (first | (refine' nameX_L ?Fz195 ?vz195 ?_ ?az195 ?bz195; (case Fz195 => k_asm); (case az195 => rfl); (case bz195 => rfl); (case vz195 => rfl); k_whole) | (refine' nameX_C ?Nz195 ?cz195 ?mz195 ?dz195 ?_ ?az195 ?bz195; (case az195 => rfl); (case bz195 => rfl); (case Nz195 => k_asm); (case cz195 => rfl); (case mz195 => walk_at "my mem"); (case dz195 => assumption); k_whole) | (refine' nameX_K ?Fz195 ?Xz195 ?Tz195 ?ez195 ?_ ?az195 ?bz195; (case Fz195 => k_asm); (case Xz195 => k_asm); (case Tz195 => k_asm); (case az195 => rfl); (case bz195 => rfl); (case ez195 => k_is); k_whole) | (refine' nameX_B ?Fz195 ?Xz195 ?Tz195 ?ez195 ?vz195 ?nz195 ?_ ?az195 ?bz195; (case Fz195 => k_asm); (case Xz195 => k_asm); (case Tz195 => k_asm); (case az195 => rfl); (case bz195 => rfl); (case ez195 => k_is); (case vz195 => boot_fast); (case nz195 => decide); k_whole))))); (try dsimp only)) | (dsimp only; (with_reducible ((k_here; (with_reducible show wpAny _ _ (eval _ (envX _ _ _ _ _ _)) _ _ _); k_dflt (first | (refine' nameX_L ?Fz195 ?vz195 ?_ ?az195 ?bz195; (case Fz195 => k_asm); (case az195 => rfl); (case bz195 => rfl); (case vz195 => rfl); k_whole) | (refine' nameX_C ?Nz195 ?cz195 ?mz195 ?dz195 ?_ ?az195 ?bz195; (case az195 => rfl); (case bz195 => rfl); (case Nz195 => k_asm); (case cz195 => rfl); (case mz195 => walk_at "my mem"); (case dz195 => assumption); k_whole) | (refine' nameX_K ?Fz195 ?Xz195 ?Tz195 ?ez195 ?_ ?az195 ?bz195; (case Fz195 => k_asm); (case Xz195 => k_asm); (case Tz195 => k_asm); (case az195 => rfl); (case bz195 => rfl); (case ez195 => k_is); k_whole) | (refine' nameX_B ?Fz195 ?Xz195 ?Tz195 ?ez195 ?vz195 ?nz195 ?_ ?az195 ?bz195; (case Fz195 => k_asm); (case Xz195 => k_asm); (case Tz195 => k_asm); (case az195 => rfl); (case bz195 => rfl); (case ez195 => k_is); (case vz195 => boot_fast); (case nz195 => decide); k_whole))))); (try dsimp only)))
    (first | ((with_reducible ((k_here; k_dflt (first | refine' callWith_K ?k1z196 ?k2z196 ?_; (case k1z196 => k_asm); (case k2z196 => k_is); k_whole | refine' callWith_KW ?k1z196 ?k2z196 ?k3z196 ?_; (case k1z196 => k_asm); (case k2z196 => k_is); (case k3z196 => exact rfl); k_whole)))); (try dsimp only)) | (dsimp only; (with_reducible ((k_here; k_dflt (first | refine' callWith_K ?k1z196 ?k2z196 ?_; (case k1z196 => k_asm); (case k2z196 => k_is); k_whole | refine' callWith_KW ?k1z196 ?k2z196 ?k3z196 ?_; (case k1z196 => k_asm); (case k2z196 => k_is); (case k3z196 => exact rfl); k_whole)))); (try dsimp only)))
    iterate 1 (first | (k_unfold; (try dsimp only)) | (k_end; wrow_close) | (walk1; (try dsimp only)) | (dsimp only; walk1; (try dsimp only)) | (leave1; walk_say "STEP leave1"; try dsimp only))
    (first | ((with_reducible ((k_here; (with_reducible show wpAny _ _ (eval _ (envX _ _ _ _ _ _)) _ _ _); k_dflt (first | (refine' nameX_L ?Fz197 ?vz197 ?_ ?az197 ?bz197; (case Fz197 => k_asm); (case az197 => rfl); (case bz197 => rfl); (case vz197 => rfl); k_whole) | (refine' nameX_C ?Nz197 ?cz197 ?mz197 ?dz197 ?_ ?az197 ?bz197; (case az197 => rfl); (case bz197 => rfl); (case Nz197 => k_asm); (case cz197 => rfl); (case mz197 => walk_at "my mem"); (case dz197 => assumption); k_whole) | (refine' nameX_K ?Fz197 ?Xz197 ?Tz197 ?ez197 ?_ ?az197 ?bz197; (case Fz197 => k_asm); (case Xz197 => k_asm); (case Tz197 => k_asm); (case az197 => rfl); (case bz197 => rfl); (case ez197 => k_is); k_whole) | (refine' nameX_B ?Fz197 ?Xz197 ?Tz197 ?ez197 ?vz197 ?nz197 ?_ ?az197 ?bz197; (case Fz197 => k_asm); (case Xz197 => k_asm); (case Tz197 => k_asm); (case az197 => rfl); (case bz197 => rfl); (case ez197 => k_is); (case vz197 => boot_fast); (case nz197 => decide); k_whole))))); (try dsimp only)) | (dsimp only; (with_reducible ((k_here; (with_reducible show wpAny _ _ (eval _ (envX _ _ _ _ _ _)) _ _ _); k_dflt (first | (refine' nameX_L ?Fz197 ?vz197 ?_ ?az197 ?bz197; (case Fz197 => k_asm); (case az197 => rfl); (case bz197 => rfl); (case vz197 => rfl); k_whole) | (refine' nameX_C ?Nz197 ?cz197 ?mz197 ?dz197 ?_ ?az197 ?bz197; (case az197 => rfl); (case bz197 => rfl); (case Nz197 => k_asm); (case cz197 => rfl); (case mz197 => walk_at "my mem"); (case dz197 => assumption); k_whole) | (refine' nameX_K ?Fz197 ?Xz197 ?Tz197 ?ez197 ?_ ?az197 ?bz197; (case Fz197 => k_asm); (case Xz197 => k_asm); (case Tz197 => k_asm); (case az197 => rfl); (case bz197 => rfl); (case ez197 => k_is); k_whole) | (refine' nameX_B ?Fz197 ?Xz197 ?Tz197 ?ez197 ?vz197 ?nz197 ?_ ?az197 ?bz197; (case Fz197 => k_asm); (case Xz197 => k_asm); (case Tz197 => k_asm); (case az197 => rfl); (case bz197 => rfl); (case ez197 => k_is); (case vz197 => boot_fast); (case nz197 => decide); k_whole))))); (try dsimp only)))
    iterate 2 (first | (k_unfold; (try dsimp only)) | (k_end; wrow_close) | (walk1; (try dsimp only)) | (dsimp only; walk1; (try dsimp only)) | (leave1; walk_say "STEP leave1"; try dsimp only))
    refine c_width _ D oD kvs (bareL os 3) (hsm (modules_low T.nolimit)) (.head _) hdo hvals (log_bare hol hb) (len_bare hol hb) _ _ _ _ _ _ _ _ _ _ _ _ _ _ _ _ _ B F8 X N8 T rfl trivial (rm2 hd (by decide)) (rm2 hu (by decide)) ?_
    intro t9 h9 tk9 F9 N9
    rw [glw_bare hol hb]
    replace N9 := cb_drop N9 (fun p hp => .tail _ hp)
    clear F8 N8
    generalize bestO os = bo at *
    cases bo with
    | none =>
      rw [show truO none = false from rfl, if_neg (by decide)]
      dsimp only [ov] at hrw2
      (try dsimp only)
      iterate 3 (first | (k_unfold; (try dsimp only)) | (k_end; wrow_close) | (walk1; (try dsimp only)) | (dsimp only; walk1; (try dsimp only)) | (leave1; walk_say "STEP leave1"; try dsimp only))
      (first | ((with_reducible ((k_here; (with_reducible show wpAny _ _ (eval _ (envX _ _ _ _ _ _)) _ _ _); k_dflt (first | (refine' nameX_L ?Fz198 ?vz198 ?_ ?az198 ?bz198; (case Fz198 => k_asm); (case az198 => rfl); (case bz198 => rfl); (case vz198 => rfl); k_whole) | (refine' nameX_C ?Nz198 ?cz198 ?mz198 ?dz198 ?_ ?az198 ?bz198; (case az198 => rfl); (case bz198 => rfl); (case Nz198 => k_asm); (case cz198 => rfl); (case mz198 => walk_at "my mem"); (case dz198 => assumption); k_whole) | (refine' nameX_K ?Fz198 ?Xz198 ?Tz198 ?ez198 ?_ ?az198 ?bz198; (case Fz198 => k_asm); (case Xz198 => k_asm); (case Tz198 => k_asm); (case az198 => rfl); (case bz198 => rfl); (case ez198 => k_is); k_whole) | (refine' nameX_B ?Fz198 ?Xz198 ?Tz198 ?ez198 ?vz198 ?nz198 ?_ ?az198 ?bz198; (case Fz198 => k_asm); (case Xz198 => k_asm); (case Tz198 => k_asm); (case az198 => rfl); (case bz198 => rfl); (case ez198 => k_is); (case vz198 => boot_fast); (case nz198 => decide); k_whole))))); (try dsimp only)) | (dsimp only; (with_reducible ((k_here; (with_reducible show wpAny _ _ (eval _ (envX _ _ _ _ _ _)) _ _ _); k_dflt (first | (refine' nameX_L ?Fz198 ?vz198 ?_ ?az198 ?bz198; (case Fz198 => k_asm); (case az198 => rfl); (case bz198 => rfl); (case vz198 => rfl); k_whole) | (refine' nameX_C ?Nz198 ?cz198 ?mz198 ?dz198 ?_ ?az198 ?bz198; (case az198 => rfl); (case bz198 => rfl); (case Nz198 => k_asm); (case cz198 => rfl); (case mz198 => walk_at "my mem"); (case dz198 => assumption); k_whole) | (refine' nameX_K ?Fz198 ?Xz198 ?Tz198 ?ez198 ?_ ?az198 ?bz198; (case Fz198 => k_asm); (case Xz198 => k_asm); (case Tz198 => k_asm); (case az198 => rfl); (case bz198 => rfl); (case ez198 => k_is); k_whole) | (refine' nameX_B ?Fz198 ?Xz198 ?Tz198 ?ez198 ?vz198 ?nz198 ?_ ?az198 ?bz198; (case Fz198 => k_asm); (case Xz198 => k_asm); (case Tz198 => k_asm); (case az198 => rfl); (case bz198 => rfl); (case ez198 => k_is); (case vz198 => boot_fast); (case nz198 => decide); k_whole))))); (try dsimp only)))
      iterate 3 (first | (k_unfold; (try dsimp only)) | (k_end; wrow_close) | (walk1; (try dsimp only)) | (dsimp only; walk1; (try dsimp only)) | (leave1; walk_say "STEP leave1"; try dsimp only))
      (first | ((with_reducible (((k_here; (with_reducible show wpAny _ _ (subscriptTail _ _ (Value.ref _) (Value.int _ _)) _ _ _); k_dflt (first | refine my_item (by k_asm) (by walk_at "my mem") (by omega) (by omega) (by assumption) ?_ | refine my_last (by k_asm) (by walk_at "my mem") (by omega) (by omega) (by assumption) ?_))))); (try dsimp only)) | (dsimp only; (with_reducible (((k_here; (with_reducible show wpAny _ _ (subscriptTail _ _ (Value.ref _) (Value.int _ _)) _ _ _); k_dflt (first | refine my_item (by k_asm) (by walk_at "my mem") (by omega) (by omega) (by assumption) ?_ | refine my_last (by k_asm) (by walk_at "my mem") (by omega) (by omega) (by assumption) ?_))))); (try dsimp only)))
      iterate 8 (first | (k_unfold; (try dsimp only)) | (k_end; wrow_close) | (walk1; (try dsimp only)) | (dsimp only; walk1; (try dsimp only)) | (leave1; walk_say "STEP leave1"; try dsimp only))
      refine hK _ _ _ ?hn F9 N9
      case hn => kst_all
    | some M =>
      dsimp only [ov] at hrw2
      by_cases hM : M = 0
      · subst hM
        rw [show truO (some 0) = false from rfl, if_neg (by decide)]
        (try dsimp only)
        iterate 3 (first | (k_unfold; (try dsimp only)) | (k_end; wrow_close) | (walk1; (try dsimp only)) | (dsimp only; walk1; (try dsimp only)) | (leave1; walk_say "STEP leave1"; try dsimp only))
        (first | ((with_reducible ((k_here; (with_reducible show wpAny _ _ (eval _ (envX _ _ _ _ _ _)) _ _ _); k_dflt (first | (refine' nameX_L ?Fz200 ?vz200 ?_ ?az200 ?bz200; (case Fz200 => k_asm); (case az200 => rfl); (case bz200 => rfl); (case vz200 => rfl); k_whole) | (refine' nameX_C ?Nz200 ?cz200 ?mz200 ?dz200 ?_ ?az200 ?bz200; (case az200 => rfl); (case bz200 => rfl); (case Nz200 => k_asm); (case cz200 => rfl); (case mz200 => walk_at "my mem"); (case dz200 => assumption); k_whole) | (refine' nameX_K ?Fz200 ?Xz200 ?Tz200 ?ez200 ?_ ?az200 ?bz200; (case Fz200 => k_asm); (case Xz200 => k_asm); (case Tz200 => k_asm); (case az200 => rfl); (case bz200 => rfl); (case ez200 => k_is); k_whole) | (refine' nameX_B ?Fz200 ?Xz200 ?Tz200 ?ez200 ?vz200 ?nz200 ?_ ?az200 ?bz200; (case Fz200 => k_asm); (case Xz200 => k_asm); (case Tz200 => k_asm); (case az200 => rfl); (case bz200 => rfl); (case ez200 => k_is); (case vz200 => boot_fast); (case nz200 => decide); k_whole))))); (try dsimp only)) | (dsimp only; (with_reducible ((k_here; (with_reducible show wpAny _ _ (eval _ (envX _ _ _ _ _ _)) _ _ _); k_dflt (first | (refine' nameX_L ?Fz200 ?vz200 ?_ ?az200 ?bz200; (case Fz200 => k_asm); (case az200 => rfl); (case bz200 => rfl); (case vz200 => rfl); k_whole) | (refine' nameX_C ?Nz200 ?cz200 ?mz200 ?dz200 ?_ ?az200 ?bz200; (case az200 => rfl); (case bz200 => rfl); (case Nz200 => k_asm); (case cz200 => rfl); (case mz200 => walk_at "my mem"); (case dz200 => assumption); k_whole) | (refine' nameX_K ?Fz200 ?Xz200 ?Tz200 ?ez200 ?_ ?az200 ?bz200; (case Fz200 => k_asm); (case Xz200 => k_asm); (case Tz200 => k_asm); (case az200 => rfl); (case bz200 => rfl); (case ez200 => k_is); k_whole) | (refine' nameX_B ?Fz200 ?Xz200 ?Tz200 ?ez200 ?vz200 ?nz200 ?_ ?az200 ?bz200; (case Fz200 => k_asm); (case Xz200 => k_asm); (case Tz200 => k_asm); (case az200 => rfl); (case bz200 => rfl); (case ez200 => k_is); (case vz200 => boot_fast); (case nz200 => decide); k_whole))))); (try dsimp only)))
        iterate 3 (first | (k_unfold; (try dsimp only)) | (k_end; wrow_close) | (walk1; (try dsimp only)) | (dsimp only; walk1; (try dsimp only)) | (leave1; walk_say "STEP leave1"; try dsimp only))
        (first | ((with_reducible (((k_here; (with_reducible show wpAny _ _ (subscriptTail _ _ (Value.ref _) (Value.int _ _)) _ _ _); k_dflt (first | refine my_item (by k_asm) (by walk_at "my mem") (by omega) (by omega) (by assumption) ?_ | refine my_last (by k_asm) (by walk_at "my mem") (by omega) (by omega) (by assumption) ?_))))); (try dsimp only)) | (dsimp only; (with_reducible (((k_here; (with_reducible show wpAny _ _ (subscriptTail _ _ (Value.ref _) (Value.int _ _)) _ _ _); k_dflt (first | refine my_item (by k_asm) (by walk_at "my mem") (by omega) (by omega) (by assumption) ?_ | refine my_last (by k_asm) (by walk_at "my mem") (by omega) (by omega) (by assumption) ?_))))); (try dsimp only)))
        iterate 8 (first | (k_unfold; (try dsimp only)) | (k_end; wrow_close) | (walk1; (try dsimp only)) | (dsimp only; walk1; (try dsimp only)) | (leave1; walk_say "STEP leave1"; try dsimp only))
        refine hK _ _ _ ?hn F9 N9
        case hn => kst_all
      · have hm0 : (M != 0) = true := bne_iff_ne.mpr hM
        rw [show truO (some M) = true from hm0, if_pos rfl]
        (try dsimp only)
        iterate 3 (first | (k_unfold; (try dsimp only)) | (k_end; wrow_close) | (walk1; (try dsimp only)) | (dsimp only; walk1; (try dsimp only)) | (leave1; walk_say "STEP leave1"; try dsimp only))
        (first | ((with_reducible ((k_here; (with_reducible show wpAny _ _ (eval _ (envX _ _ _ _ _ _)) _ _ _); k_dflt (first | (refine' nameX_L ?Fz202 ?vz202 ?_ ?az202 ?bz202; (case Fz202 => k_asm); (case az202 => rfl); (case bz202 => rfl); (case vz202 => rfl); k_whole) | (refine' nameX_C ?Nz202 ?cz202 ?mz202 ?dz202 ?_ ?az202 ?bz202; (case az202 => rfl); (case bz202 => rfl); (case Nz202 => k_asm); (case cz202 => rfl); (case mz202 => walk_at "my mem"); (case dz202 => assumption); k_whole) | (refine' nameX_K ?Fz202 ?Xz202 ?Tz202 ?ez202 ?_ ?az202 ?bz202; (case Fz202 => k_asm); (case Xz202 => k_asm); (case Tz202 => k_asm); (case az202 => rfl); (case bz202 => rfl); (case ez202 => k_is); k_whole) | (refine' nameX_B ?Fz202 ?Xz202 ?Tz202 ?ez202 ?vz202 ?nz202 ?_ ?az202 ?bz202; (case Fz202 => k_asm); (case Xz202 => k_asm); (case Tz202 => k_asm); (case az202 => rfl); (case bz202 => rfl); (case ez202 => k_is); (case vz202 => boot_fast); (case nz202 => decide); k_whole))))); (try dsimp only)) | (dsimp only; (with_reducible ((k_here; (with_reducible show wpAny _ _ (eval _ (envX _ _ _ _ _ _)) _ _ _); k_dflt (first | (refine' nameX_L ?Fz202 ?vz202 ?_ ?az202 ?bz202; (case Fz202 => k_asm); (case az202 => rfl); (case bz202 => rfl); (case vz202 => rfl); k_whole) | (refine' nameX_C ?Nz202 ?cz202 ?mz202 ?dz202 ?_ ?az202 ?bz202; (case az202 => rfl); (case bz202 => rfl); (case Nz202 => k_asm); (case cz202 => rfl); (case mz202 => walk_at "my mem"); (case dz202 => assumption); k_whole) | (refine' nameX_K ?Fz202 ?Xz202 ?Tz202 ?ez202 ?_ ?az202 ?bz202; (case Fz202 => k_asm); (case Xz202 => k_asm); (case Tz202 => k_asm); (case az202 => rfl); (case bz202 => rfl); (case ez202 => k_is); k_whole) | (refine' nameX_B ?Fz202 ?Xz202 ?Tz202 ?ez202 ?vz202 ?nz202 ?_ ?az202 ?bz202; (case Fz202 => k_asm); (case Xz202 => k_asm); (case Tz202 => k_asm); (case az202 => rfl); (case bz202 => rfl); (case ez202 => k_is); (case vz202 => boot_fast); (case nz202 => decide); k_whole))))); (try dsimp only)))
        iterate 3 (first | (k_unfold; (try dsimp only)) | (k_end; wrow_close) | (walk1; (try dsimp only)) | (dsimp only; walk1; (try dsimp only)) | (leave1; walk_say "STEP leave1"; try dsimp only))
        (first | ((with_reducible (((k_here; (with_reducible show wpAny _ _ (subscriptTail _ _ (Value.ref _) (Value.int _ _)) _ _ _); k_dflt (first | refine my_item (by k_asm) (by walk_at "my mem") (by omega) (by omega) (by assumption) ?_ | refine my_last (by k_asm) (by walk_at "my mem") (by omega) (by omega) (by assumption) ?_))))); (try dsimp only)) | (dsimp only; (with_reducible (((k_here; (with_reducible show wpAny _ _ (subscriptTail _ _ (Value.ref _) (Value.int _ _)) _ _ _); k_dflt (first | refine my_item (by k_asm) (by walk_at "my mem") (by omega) (by omega) (by assumption) ?_ | refine my_last (by k_asm) (by walk_at "my mem") (by omega) (by omega) (by assumption) ?_))))); (try dsimp only)))
        iterate 1 (first | (k_unfold; (try dsimp only)) | (k_end; wrow_close) | (walk1; (try dsimp only)) | (dsimp only; walk1; (try dsimp only)) | (leave1; walk_say "STEP leave1"; try dsimp only))
        rw [hm0]
        iterate 7 (first | (k_unfold; (try dsimp only)) | (k_end; wrow_close) | (walk1; (try dsimp only)) | (dsimp only; walk1; (try dsimp only)) | (leave1; walk_say "STEP leave1"; try dsimp only))
        refine hK _ _ _ ?hn F9 N9
        case hn => kst_all
end

end
-- L8
section
example : True := by w_top off; exact trivial
noncomputable def isNo : Value → Bool
  | .none => true
  | _ => false
theorem any_isNo {os : List (Option Int)} {vs : List Value} (h : OvL os vs) : vs.any isNo = hasNone os := by
  induction h with
  | nil => rfl
  | @cons o t os vs h ih =>
    cases o with
    | none => rfl
    | some v => exact ih
theorem eq_isNo {A : Around} {s : Shared} : ∀ {os : List (Option Int)} {vs : List Value}, OvL os vs → ∀ y, y ∈ vs → SeqAt.EqAt A s y .none (isNo y)
  | _, _, .nil, _, hy => nomatch hy
  | _, _, .cons (o := o) (t := t) h, y, hy => by
    rcases List.mem_cons.mp hy with rfl | hy
    · cases o with
      | none => exact SeqAt.EqAt.same _
      | some v => exact SeqAt.EqAt.int_none v t
    · exact eq_isNo h y hy
section
variable {prog : Program} {w : World} {A : Around} {E : Value → Shared → Prop} {s : Shared}
theorem in_none {l : Addr} {vs : List Value} {os : List (Option Int)} {Q : Value → Shared → Prop} (hl : s.heap.IsList l vs.toArray) (ho : OvL os vs)
    (h : Q (.bool (hasNone os)) s) : wpAny (model prog w) A (compareOp .In .none (.ref l)) Q E s :=
  SeqAt.in_listAt isNo hl (fun y hy => eq_isNo ho y (by simpa using hy)) (by rw [← Array.any_toList, show vs.toArray.toList = vs from rfl, any_isNo ho]; exact h)
theorem notin_none {l : Addr} {vs : List Value} {os : List (Option Int)} {Q : Value → Shared → Prop} (hl : s.heap.IsList l vs.toArray) (ho : OvL os vs)
    (h : Q (.bool (!hasNone os)) s) : wpAny (model prog w) A (compareOp .NotIn .none (.ref l)) Q E s :=
  SeqAt.notIn_listAt isNo hl (fun y hy => eq_isNo ho y (by simpa using hy)) (by rw [← Array.any_toList, show vs.toArray.toList = vs from rfl, any_isNo ho]; exact h)
end
theorem fullL_succ (os : List (Option Int)) (i : Nat) : fullL os (i + 1) = fullL os i ++ [(os.getD i none).map fun v => 10 * v] := by
  simp only [fullL, List.range_succ, List.map_append, List.map_cons, List.map_nil]
section
variable {w : World} {p : Program} {loose : List Str} {mean : ExcName → Option Value} {mg mb : Str → Option Value}
noncomputable def FullIs (w : World) (os : List (Option Int)) (news : Led) (fv : Value) (nw : Led) : Prop :=
  (knownL os = [] ∧ fv = .none ∧ nw = news) ∨ (∃ D oD kvs, fv = .ref D ∧ nw = (D, oD) :: news ∧ Obj.IsDictOf (intKind PySem.Challenge.rw_wo0033_01.row.prog w) oD kvs ∧ OvL (fullL os 3) (kvs.map (·.2)) ∧ (D == sysModules) = false)
theorem t_v7a (j : Nat) (tv : Tok) (os : List (Option Int)) (wk rwA kA lA : Addr) (lv kv : List Value) (ln kn : Nat) (o2 : Obj) (news : Led) (dp un : Nat) (gd : Option (List Code)) (fa : Addr) (ccd : Value) (outer : List Env) (A₀ : Around) (base h₀ : Heap) (L : Addr) (m : Str → Option Value) (s : Shared) (Q : Flow → Shared → Prop) (E : Value → Shared → Prop) (restS : List Stmt)
    (B : Below A₀ base outer h₀) (F : Fr h₀ L s.heap m) (X : (Mine.hd.heap_39 w.params).In h₀) (T : Top p loose mean mg mb h₀)
    (N : News h₀ L s.heap news) (hd : dp + 300 < recursionLimit) (hu : un + 3000 < cLine)
    (m1 : (lA, listOf lv.toArray ln) ∈ news) (m2 : (L + 1 + 1, o2) ∈ news) (d2 : o2.data = .cell (some (.ref lA))) (m3 : (kA, listOf kv.toArray kn) ∈ news) (hi : IntsAre kv (knownL os))
    (hl : OvL os lv) (hol : os.length = 3)
    (hk : ∀ p ∈ [(Str.ofString "walks", Value.ref wk), (Str.ofString "row", Value.ref rwA), (Str.ofString "v", Value.int (0 + (j : Int)) tv), (Str.ofString "known", Value.ref kA)], m p.1 = some p.2)
    (hK : ∀ fv nw m' h' tk', FullIs w os news fv nw → (∀ p ∈ [(Str.ofString "walks", Value.ref wk), (Str.ofString "row", Value.ref rwA), (Str.ofString "v", Value.int (0 + (j : Int)) tv), (Str.ofString "full", fv)], m' p.1 = some p.2) →
      Fr h₀ L h' m' → News h₀ L h' nw →
      wpAny (model PySem.Challenge.rw_wo0033_01.row.prog w) (lawA dp un gd L fa ccd outer) (execs restS (lawEnv L fa ccd)) Q E { s with heap := h', toks := tk' }) :
    wpAny (model PySem.Challenge.rw_wo0033_01.row.prog w) (lawA dp un gd L fa ccd outer) (execs (vS 13 :: restS) (lawEnv L fa ccd)) Q E s := by
  revert X; k_fill; intro X
  change wpAny _ (ktrTop dp un gd _ ⟨_, _, _, _, _⟩ L fa ccd _ outer) (execs (.Assign _ _ _ :: restS) (envX _ ⟨_, _, _, _, _⟩ _ _ _ _)) _ _ _
  replace F := fr_kst hk F
  dsimp only [kstB] at F
  have hlv := hl.length
  iterate 4 (first | (k_unfold; (try dsimp only)) | (k_end; wrow_close) | (walk1; (try dsimp only)) | (dsimp only; walk1; (try dsimp only)) | (leave1; walk_say "STEP leave1"; try dsimp only))
  (first | ((with_reducible ((k_here; (with_reducible show wpAny _ _ (eval _ (envX _ _ _ _ _ _)) _ _ _); k_dflt (first | (refine' nameX_L ?Fz204 ?vz204 ?_ ?az204 ?bz204; (case Fz204 => k_asm); (case az204 => rfl); (case bz204 => rfl); (case vz204 => rfl); k_whole) | (refine' nameX_C ?Nz204 ?cz204 ?mz204 ?dz204 ?_ ?az204 ?bz204; (case az204 => rfl); (case bz204 => rfl); (case Nz204 => k_asm); (case cz204 => rfl); (case mz204 => walk_at "my mem"); (case dz204 => assumption); k_whole) | (refine' nameX_K ?Fz204 ?Xz204 ?Tz204 ?ez204 ?_ ?az204 ?bz204; (case Fz204 => k_asm); (case Xz204 => k_asm); (case Tz204 => k_asm); (case az204 => rfl); (case bz204 => rfl); (case ez204 => k_is); k_whole) | (refine' nameX_B ?Fz204 ?Xz204 ?Tz204 ?ez204 ?vz204 ?nz204 ?_ ?az204 ?bz204; (case Fz204 => k_asm); (case Xz204 => k_asm); (case Tz204 => k_asm); (case az204 => rfl); (case bz204 => rfl); (case ez204 => k_is); (case vz204 => boot_fast); (case nz204 => decide); k_whole))))); (try dsimp only)) | (dsimp only; (with_reducible ((k_here; (with_reducible show wpAny _ _ (eval _ (envX _ _ _ _ _ _)) _ _ _); k_dflt (first | (refine' nameX_L ?Fz204 ?vz204 ?_ ?az204 ?bz204; (case Fz204 => k_asm); (case az204 => rfl); (case bz204 => rfl); (case vz204 => rfl); k_whole) | (refine' nameX_C ?Nz204 ?cz204 ?mz204 ?dz204 ?_ ?az204 ?bz204; (case az204 => rfl); (case bz204 => rfl); (case Nz204 => k_asm); (case cz204 => rfl); (case mz204 => walk_at "my mem"); (case dz204 => assumption); k_whole) | (refine' nameX_K ?Fz204 ?Xz204 ?Tz204 ?ez204 ?_ ?az204 ?bz204; (case Fz204 => k_asm); (case Xz204 => k_asm); (case Tz204 => k_asm); (case az204 => rfl); (case bz204 => rfl); (case ez204 => k_is); k_whole) | (refine' nameX_B ?Fz204 ?Xz204 ?Tz204 ?ez204 ?vz204 ?nz204 ?_ ?az204 ?bz204; (case Fz204 => k_asm); (case Xz204 => k_asm); (case Tz204 => k_asm); (case az204 => rfl); (case bz204 => rfl); (case ez204 => k_is); (case vz204 => boot_fast); (case nz204 => decide); k_whole))))); (try dsimp only)))
  iterate 3 (first | (k_unfold; (try dsimp only)) | (k_end; wrow_close) | (walk1; (try dsimp only)) | (dsimp only; walk1; (try dsimp only)) | (leave1; walk_say "STEP leave1"; try dsimp only))
  rename Fr _ _ _ _ => F1
  rename News _ _ _ _ => N1
  refine ne_intsK (vs := kv) (us := []) (N1.isList (.tail _ m3)) hi (N1.isList (.head _)) .nil ?hun ?_
  case hun => first | ktr_units | (show un + _ + _ < _; first | exact rm3 hu (by decide) | omega)
  replace N1 := cb_drop N1 (fun p hp => .tail _ hp)
  by_cases hks : knownL os = []
  · rw [decide_eq_true hks]
    (try dsimp only [Bool.not_true])
    iterate 4 (first | (k_unfold; (try dsimp only)) | (k_end; wrow_close) | (walk1; (try dsimp only)) | (dsimp only; walk1; (try dsimp only)) | (leave1; walk_say "STEP leave1"; try dsimp only))
    rename Fr _ _ _ _ => F8
    rename News _ _ _ _ => N8
    refine hK .none news _ _ _ (.inl ⟨hks, rfl, rfl⟩) ?hn F8 N8
    case hn => kst_all
  · rw [decide_eq_false hks]
    (try dsimp only [Bool.not_false])
    iterate 2 (first | (k_unfold; (try dsimp only)) | (k_end; wrow_close) | (walk1; (try dsimp only)) | (dsimp only; walk1; (try dsimp only)) | (leave1; walk_say "STEP leave1"; try dsimp only))
    (first | ((with_reducible ((k_here; k_dflt (refine DictComp_J (intKind _ _) (by k_asm) (by rfl) (by decide) (by rfl) (by decide) (by rfl) ?_)))); (try dsimp only)) | (dsimp only; (with_reducible ((k_here; k_dflt (refine DictComp_J (intKind _ _) (by k_asm) (by rfl) (by decide) (by rfl) (by decide) (by rfl) ?_)))); (try dsimp only)))
    iterate 1 (first | (k_unfold; (try dsimp only)) | (k_end; wrow_close) | (walk1; (try dsimp only)) | (dsimp only; walk1; (try dsimp only)) | (leave1; walk_say "STEP leave1"; try dsimp only))
    (first | ((with_reducible ((k_here; (with_reducible show wpAny _ _ (eval _ (envX _ _ _ _ _ _)) _ _ _); k_dflt (first | (refine' nameX_L ?Fz206 ?vz206 ?_ ?az206 ?bz206; (case Fz206 => k_asm); (case az206 => rfl); (case bz206 => rfl); (case vz206 => rfl); k_whole) | (refine' nameX_C ?Nz206 ?cz206 ?mz206 ?dz206 ?_ ?az206 ?bz206; (case az206 => rfl); (case bz206 => rfl); (case Nz206 => k_asm); (case cz206 => rfl); (case mz206 => walk_at "my mem"); (case dz206 => assumption); k_whole) | (refine' nameX_K ?Fz206 ?Xz206 ?Tz206 ?ez206 ?_ ?az206 ?bz206; (case Fz206 => k_asm); (case Xz206 => k_asm); (case Tz206 => k_asm); (case az206 => rfl); (case bz206 => rfl); (case ez206 => k_is); k_whole) | (refine' nameX_B ?Fz206 ?Xz206 ?Tz206 ?ez206 ?vz206 ?nz206 ?_ ?az206 ?bz206; (case Fz206 => k_asm); (case Xz206 => k_asm); (case Tz206 => k_asm); (case az206 => rfl); (case bz206 => rfl); (case ez206 => k_is); (case vz206 => boot_fast); (case nz206 => decide); k_whole))))); (try dsimp only)) | (dsimp only; (with_reducible ((k_here; (with_reducible show wpAny _ _ (eval _ (envX _ _ _ _ _ _)) _ _ _); k_dflt (first | (refine' nameX_L ?Fz206 ?vz206 ?_ ?az206 ?bz206; (case Fz206 => k_asm); (case az206 => rfl); (case bz206 => rfl); (case vz206 => rfl); k_whole) | (refine' nameX_C ?Nz206 ?cz206 ?mz206 ?dz206 ?_ ?az206 ?bz206; (case az206 => rfl); (case bz206 => rfl); (case Nz206 => k_asm); (case cz206 => rfl); (case mz206 => walk_at "my mem"); (case dz206 => assumption); k_whole) | (refine' nameX_K ?Fz206 ?Xz206 ?Tz206 ?ez206 ?_ ?az206 ?bz206; (case Fz206 => k_asm); (case Xz206 => k_asm); (case Tz206 => k_asm); (case az206 => rfl); (case bz206 => rfl); (case ez206 => k_is); k_whole) | (refine' nameX_B ?Fz206 ?Xz206 ?Tz206 ?ez206 ?vz206 ?nz206 ?_ ?az206 ?bz206; (case Fz206 => k_asm); (case Xz206 => k_asm); (case Tz206 => k_asm); (case az206 => rfl); (case bz206 => rfl); (case ez206 => k_is); (case vz206 => boot_fast); (case nz206 => decide); k_whole))))); (try dsimp only)))
    iterate 5 (first | (k_unfold; (try dsimp only)) | (k_end; wrow_close) | (walk1; (try dsimp only)) | (dsimp only; walk1; (try dsimp only)) | (leave1; walk_say "STEP leave1"; try dsimp only))
    rename Fr _ _ _ _ => F1
    rename News _ _ _ _ => N1
    rename IsRange _ _ _ _ _ _ _ _ => hR
    refine DSrc.range (n := 3) (fun i kvs nw => nw = news ∧ kvs.map (·.1) = (List.range i).map (fun (u : Nat) => 2 * (0 + (u : Int))) ∧ OvL (fullL os i) (kvs.map (·.2))) rfl F1 N1 hR (by decide) (by rfl) (by decide) ⟨rfl, rfl, .nil⟩ ?turn ?fin
    case turn =>
      clear F1 N1
      rintro g i v I oI C oC D oD m₂ kvs h tk nw E' hi ⟨t, hv⟩ ⟨hnw, hkeys, hvals⟩ hdo hC hx F9 N9 off ne
      subst hv hnw
      show wpAny _ _ (pure true) _ _ _
      refine wpAny_pure ?_
      rw [if_pos rfl]
      obtain ⟨tl, hlv9⟩ := ovGet (k := i) hl (by omega)
      have hi9 : lv[(0 + (i : Int)).toNat]? = some (ov (os.getD i none) tl) := by rw [tn0 i]; exact hlv9
      have hnew := keys_new hkeys
      have hfs := fullL_succ os i
      cases ho : os.getD i none with
      | none =>
        rw [ho] at hi9 hfs
        dsimp only [ov] at hi9
        (try dsimp only)
        iterate 2 (first | (k_unfold; (try dsimp only)) | (k_end; wrow_close) | (walk1; (try dsimp only)) | (dsimp only; walk1; (try dsimp only)) | (leave1; walk_say "STEP leave1"; try dsimp only))
        (first | ((with_reducible ((k_here; (with_reducible show wpAny _ _ (eval _ (compEnvC _ _ _ _)) _ _ _); k_dflt (first | refine LCgL.ld_own (by k_asm) (by walk_at "my mem") (by assumption) (by assumption) ?_ | refine kcf_cell (by k_asm) (by rfl) (by walk_at "my mem") (by assumption) ?_)))); (try dsimp only)) | (dsimp only; (with_reducible ((k_here; (with_reducible show wpAny _ _ (eval _ (compEnvC _ _ _ _)) _ _ _); k_dflt (first | refine LCgL.ld_own (by k_asm) (by walk_at "my mem") (by assumption) (by assumption) ?_ | refine kcf_cell (by k_asm) (by rfl) (by walk_at "my mem") (by assumption) ?_)))); (try dsimp only)))
        iterate 4 (first | (k_unfold; (try dsimp only)) | (k_end; wrow_close) | (walk1; (try dsimp only)) | (dsimp only; walk1; (try dsimp only)) | (leave1; walk_say "STEP leave1"; try dsimp only))
        (first | ((with_reducible ((k_here; (with_reducible show wpAny _ _ (eval _ (compEnvC _ _ _ _)) _ _ _); k_dflt (first | refine LCgL.ld_own (by k_asm) (by walk_at "my mem") (by assumption) (by assumption) ?_ | refine kcf_cell (by k_asm) (by rfl) (by walk_at "my mem") (by assumption) ?_)))); (try dsimp only)) | (dsimp only; (with_reducible ((k_here; (with_reducible show wpAny _ _ (eval _ (compEnvC _ _ _ _)) _ _ _); k_dflt (first | refine LCgL.ld_own (by k_asm) (by walk_at "my mem") (by assumption) (by assumption) ?_ | refine kcf_cell (by k_asm) (by rfl) (by walk_at "my mem") (by assumption) ?_)))); (try dsimp only)))
        (first | ((with_reducible ((k_here; (with_reducible show wpAny _ _ (eval _ (compEnvC _ _ _ _)) _ _ _); k_dflt (first | refine LCgL.ld_own (by k_asm) (by walk_at "my mem") (by assumption) (by assumption) ?_ | refine kcf_cell (by k_asm) (by rfl) (by walk_at "my mem") (by assumption) ?_)))); (try dsimp only)) | (dsimp only; (with_reducible ((k_here; (with_reducible show wpAny _ _ (eval _ (compEnvC _ _ _ _)) _ _ _); k_dflt (first | refine LCgL.ld_own (by k_asm) (by walk_at "my mem") (by assumption) (by assumption) ?_ | refine kcf_cell (by k_asm) (by rfl) (by walk_at "my mem") (by assumption) ?_)))); (try dsimp only)))
        (first | ((with_reducible (((k_here; (with_reducible show wpAny _ _ (subscriptTail _ _ (Value.ref _) (Value.int _ _)) _ _ _); k_dflt (first | refine my_item (by k_asm) (by walk_at "my mem") (by omega) (by omega) (by assumption) ?_ | refine my_last (by k_asm) (by walk_at "my mem") (by omega) (by omega) (by assumption) ?_))))); (try dsimp only)) | (dsimp only; (with_reducible (((k_here; (with_reducible show wpAny _ _ (subscriptTail _ _ (Value.ref _) (Value.int _ _)) _ _ _); k_dflt (first | refine my_item (by k_asm) (by walk_at "my mem") (by omega) (by omega) (by assumption) ?_ | refine my_last (by k_asm) (by walk_at "my mem") (by omega) (by omega) (by assumption) ?_))))); (try dsimp only)))
        iterate 5 (first | (k_unfold; (try dsimp only)) | (k_end; wrow_close) | (walk1; (try dsimp only)) | (dsimp only; walk1; (try dsimp only)) | (leave1; walk_say "STEP leave1"; try dsimp only))
        refine ⟨2 * (0 + (i : Int)), ?is, LCg.CompEnd.intro F9 N9 _ (fun p hp => hp) off trivial ⟨rfl, ?keys, ?vals⟩⟩
        case is => exact intKind_is _ _ _ _
        case keys => rw [stored_new hnew, List.map_append, hkeys, List.range_succ, List.map_append]; rfl
        case vals => rw [stored_new hnew, List.map_append, hfs]; exact ovApp hvals (.cons (o := none) (t := 0) .nil)
      | some o =>
        rw [ho] at hi9 hfs
        dsimp only [ov] at hi9
        (try dsimp only)
        iterate 2 (first | (k_unfold; (try dsimp only)) | (k_end; wrow_close) | (walk1; (try dsimp only)) | (dsimp only; walk1; (try dsimp only)) | (leave1; walk_say "STEP leave1"; try dsimp only))
        (first | ((with_reducible ((k_here; (with_reducible show wpAny _ _ (eval _ (compEnvC _ _ _ _)) _ _ _); k_dflt (first | refine LCgL.ld_own (by k_asm) (by walk_at "my mem") (by assumption) (by assumption) ?_ | refine kcf_cell (by k_asm) (by rfl) (by walk_at "my mem") (by assumption) ?_)))); (try dsimp only)) | (dsimp only; (with_reducible ((k_here; (with_reducible show wpAny _ _ (eval _ (compEnvC _ _ _ _)) _ _ _); k_dflt (first | refine LCgL.ld_own (by k_asm) (by walk_at "my mem") (by assumption) (by assumption) ?_ | refine kcf_cell (by k_asm) (by rfl) (by walk_at "my mem") (by assumption) ?_)))); (try dsimp only)))
        iterate 4 (first | (k_unfold; (try dsimp only)) | (k_end; wrow_close) | (walk1; (try dsimp only)) | (dsimp only; walk1; (try dsimp only)) | (leave1; walk_say "STEP leave1"; try dsimp only))
        (first | ((with_reducible ((k_here; (with_reducible show wpAny _ _ (eval _ (compEnvC _ _ _ _)) _ _ _); k_dflt (first | refine LCgL.ld_own (by k_asm) (by walk_at "my mem") (by assumption) (by assumption) ?_ | refine kcf_cell (by k_asm) (by rfl) (by walk_at "my mem") (by assumption) ?_)))); (try dsimp only)) | (dsimp only; (with_reducible ((k_here; (with_reducible show wpAny _ _ (eval _ (compEnvC _ _ _ _)) _ _ _); k_dflt (first | refine LCgL.ld_own (by k_asm) (by walk_at "my mem") (by assumption) (by assumption) ?_ | refine kcf_cell (by k_asm) (by rfl) (by walk_at "my mem") (by assumption) ?_)))); (try dsimp only)))
        (first | ((with_reducible ((k_here; (with_reducible show wpAny _ _ (eval _ (compEnvC _ _ _ _)) _ _ _); k_dflt (first | refine LCgL.ld_own (by k_asm) (by walk_at "my mem") (by assumption) (by assumption) ?_ | refine kcf_cell (by k_asm) (by rfl) (by walk_at "my mem") (by assumption) ?_)))); (try dsimp only)) | (dsimp only; (with_reducible ((k_here; (with_reducible show wpAny _ _ (eval _ (compEnvC _ _ _ _)) _ _ _); k_dflt (first | refine LCgL.ld_own (by k_asm) (by walk_at "my mem") (by assumption) (by assumption) ?_ | refine kcf_cell (by k_asm) (by rfl) (by walk_at "my mem") (by assumption) ?_)))); (try dsimp only)))
        (first | ((with_reducible (((k_here; (with_reducible show wpAny _ _ (subscriptTail _ _ (Value.ref _) (Value.int _ _)) _ _ _); k_dflt (first | refine my_item (by k_asm) (by walk_at "my mem") (by omega) (by omega) (by assumption) ?_ | refine my_last (by k_asm) (by walk_at "my mem") (by omega) (by omega) (by assumption) ?_))))); (try dsimp only)) | (dsimp only; (with_reducible (((k_here; (with_reducible show wpAny _ _ (subscriptTail _ _ (Value.ref _) (Value.int _ _)) _ _ _); k_dflt (first | refine my_item (by k_asm) (by walk_at "my mem") (by omega) (by omega) (by assumption) ?_ | refine my_last (by k_asm) (by walk_at "my mem") (by omega) (by omega) (by assumption) ?_))))); (try dsimp only)))
        iterate 7 (first | (k_unfold; (try dsimp only)) | (k_end; wrow_close) | (walk1; (try dsimp only)) | (dsimp only; walk1; (try dsimp only)) | (leave1; walk_say "STEP leave1"; try dsimp only))
        (first | ((with_reducible ((k_here; (with_reducible show wpAny _ _ (eval _ (compEnvC _ _ _ _)) _ _ _); k_dflt (first | refine LCgL.ld_own (by k_asm) (by walk_at "my mem") (by assumption) (by assumption) ?_ | refine kcf_cell (by k_asm) (by rfl) (by walk_at "my mem") (by assumption) ?_)))); (try dsimp only)) | (dsimp only; (with_reducible ((k_here; (with_reducible show wpAny _ _ (eval _ (compEnvC _ _ _ _)) _ _ _); k_dflt (first | refine LCgL.ld_own (by k_asm) (by walk_at "my mem") (by assumption) (by assumption) ?_ | refine kcf_cell (by k_asm) (by rfl) (by walk_at "my mem") (by assumption) ?_)))); (try dsimp only)))
        (first | ((with_reducible ((k_here; (with_reducible show wpAny _ _ (eval _ (compEnvC _ _ _ _)) _ _ _); k_dflt (first | refine LCgL.ld_own (by k_asm) (by walk_at "my mem") (by assumption) (by assumption) ?_ | refine kcf_cell (by k_asm) (by rfl) (by walk_at "my mem") (by assumption) ?_)))); (try dsimp only)) | (dsimp only; (with_reducible ((k_here; (with_reducible show wpAny _ _ (eval _ (compEnvC _ _ _ _)) _ _ _); k_dflt (first | refine LCgL.ld_own (by k_asm) (by walk_at "my mem") (by assumption) (by assumption) ?_ | refine kcf_cell (by k_asm) (by rfl) (by walk_at "my mem") (by assumption) ?_)))); (try dsimp only)))
        (first | ((with_reducible (((k_here; (with_reducible show wpAny _ _ (subscriptTail _ _ (Value.ref _) (Value.int _ _)) _ _ _); k_dflt (first | refine my_item (by k_asm) (by walk_at "my mem") (by omega) (by omega) (by assumption) ?_ | refine my_last (by k_asm) (by walk_at "my mem") (by omega) (by omega) (by assumption) ?_))))); (try dsimp only)) | (dsimp only; (with_reducible (((k_here; (with_reducible show wpAny _ _ (subscriptTail _ _ (Value.ref _) (Value.int _ _)) _ _ _); k_dflt (first | refine my_item (by k_asm) (by walk_at "my mem") (by omega) (by omega) (by assumption) ?_ | refine my_last (by k_asm) (by walk_at "my mem") (by omega) (by omega) (by assumption) ?_))))); (try dsimp only)))
        iterate 1 (first | (k_unfold; (try dsimp only)) | (k_end; wrow_close) | (walk1; (try dsimp only)) | (dsimp only; walk1; (try dsimp only)) | (leave1; walk_say "STEP leave1"; try dsimp only))
        refine ⟨2 * (0 + (i : Int)), ?is, LCg.CompEnd.intro F9 N9 _ (fun p hp => hp) off trivial ⟨rfl, ?keys, ?vals⟩⟩
        case is => exact intKind_is _ _ _ _
        case keys => rw [stored_new hnew, List.map_append, hkeys, List.range_succ, List.map_append]; rfl
        case vals => rw [stored_new hnew, List.map_append, hfs]; exact ovApp hvals (.cons (o := some _) .nil)
    case fin =>
      clear F1 N1
      rintro D h8 tk8 kvs oD nw F8 N8 hdo o8 ⟨hnw, hkeys, hvals⟩ hsm
      subst hnw
      (try dsimp only)
      iterate 1 (first | (k_unfold; (try dsimp only)) | (k_end; wrow_close) | (walk1; (try dsimp only)) | (dsimp only; walk1; (try dsimp only)) | (leave1; walk_say "STEP leave1"; try dsimp only))
      rename Fr _ _ _ _ => F9
      rename News _ _ _ _ => N9
      refine hK (.ref D) _ _ _ _ (.inr ⟨D, oD, kvs, rfl, rfl, hdo, hvals, hsm (modules_low T.nolimit)⟩) ?hn F9 N9
      case hn => kst_all
theorem t_v7b (j : Nat) (tv : Tok) (os : List (Option Int)) (fv : Value) (nw : Led) (wk rwA lA : Addr) (lv : List Value) (ln : Nat) (o2 : Obj) (dp un : Nat) (gd : Option (List Code)) (fa : Addr) (ccd : Value) (outer : List Env) (A₀ : Around) (base h₀ : Heap) (L : Addr) (m : Str → Option Value) (s : Shared) (Q : Flow → Shared → Prop) (E : Value → Shared → Prop) (restS : List Stmt)
    (B : Below A₀ base outer h₀) (F : Fr h₀ L s.heap m) (X : (Mine.hd.heap_39 w.params).In h₀) (T : Top p loose mean mg mb h₀)
    (N : News h₀ L s.heap nw) (hd : dp + 300 < recursionLimit) (hu : un + 3000 < cLine)
    (m1 : (lA, listOf lv.toArray ln) ∈ nw) (m2 : (L + 1 + 1, o2) ∈ nw) (d2 : o2.data = .cell (some (.ref lA)))
    (hl : OvL os lv)
    (hk : ∀ p ∈ [(Str.ofString "walks", Value.ref wk), (Str.ofString "row", Value.ref rwA), (Str.ofString "v", Value.int (0 + (j : Int)) tv), (Str.ofString "full", fv)], m p.1 = some p.2)
    (hK : ∀ t m' h' tk', (∀ p ∈ [(Str.ofString "walks", Value.ref wk), (Str.ofString "row", Value.ref rwA), (Str.ofString "full", fv), (Str.ofString "column", Value.int (colI os) t)], m' p.1 = some p.2) →
      Fr h₀ L h' m' → News h₀ L h' nw →
      wpAny (model PySem.Challenge.rw_wo0033_01.row.prog w) (lawA dp un gd L fa ccd outer) (execs restS (lawEnv L fa ccd)) Q E { s with heap := h', toks := tk' }) :
    wpAny (model PySem.Challenge.rw_wo0033_01.row.prog w) (lawA dp un gd L fa ccd outer) (execs (vS 14 :: restS) (lawEnv L fa ccd)) Q E s := by
  revert X; k_fill; intro X
  change wpAny _ (ktrTop dp un gd _ ⟨_, _, _, _, _⟩ L fa ccd _ outer) (execs (.Assign _ _ _ :: restS) (envX _ ⟨_, _, _, _, _⟩ _ _ _ _)) _ _ _
  replace F := fr_kst hk F
  dsimp only [kstB] at F
  iterate 5 (first | (k_unfold; (try dsimp only)) | (k_end; wrow_close) | (walk1; (try dsimp only)) | (dsimp only; walk1; (try dsimp only)) | (leave1; walk_say "STEP leave1"; try dsimp only))
  (first | ((with_reducible ((k_here; (with_reducible show wpAny _ _ (eval _ (envX _ _ _ _ _ _)) _ _ _); k_dflt (first | (refine' nameX_L ?Fz218 ?vz218 ?_ ?az218 ?bz218; (case Fz218 => k_asm); (case az218 => rfl); (case bz218 => rfl); (case vz218 => rfl); k_whole) | (refine' nameX_C ?Nz218 ?cz218 ?mz218 ?dz218 ?_ ?az218 ?bz218; (case az218 => rfl); (case bz218 => rfl); (case Nz218 => k_asm); (case cz218 => rfl); (case mz218 => walk_at "my mem"); (case dz218 => assumption); k_whole) | (refine' nameX_K ?Fz218 ?Xz218 ?Tz218 ?ez218 ?_ ?az218 ?bz218; (case Fz218 => k_asm); (case Xz218 => k_asm); (case Tz218 => k_asm); (case az218 => rfl); (case bz218 => rfl); (case ez218 => k_is); k_whole) | (refine' nameX_B ?Fz218 ?Xz218 ?Tz218 ?ez218 ?vz218 ?nz218 ?_ ?az218 ?bz218; (case Fz218 => k_asm); (case Xz218 => k_asm); (case Tz218 => k_asm); (case az218 => rfl); (case bz218 => rfl); (case ez218 => k_is); (case vz218 => boot_fast); (case nz218 => decide); k_whole))))); (try dsimp only)) | (dsimp only; (with_reducible ((k_here; (with_reducible show wpAny _ _ (eval _ (envX _ _ _ _ _ _)) _ _ _); k_dflt (first | (refine' nameX_L ?Fz218 ?vz218 ?_ ?az218 ?bz218; (case Fz218 => k_asm); (case az218 => rfl); (case bz218 => rfl); (case vz218 => rfl); k_whole) | (refine' nameX_C ?Nz218 ?cz218 ?mz218 ?dz218 ?_ ?az218 ?bz218; (case az218 => rfl); (case bz218 => rfl); (case Nz218 => k_asm); (case cz218 => rfl); (case mz218 => walk_at "my mem"); (case dz218 => assumption); k_whole) | (refine' nameX_K ?Fz218 ?Xz218 ?Tz218 ?ez218 ?_ ?az218 ?bz218; (case Fz218 => k_asm); (case Xz218 => k_asm); (case Tz218 => k_asm); (case az218 => rfl); (case bz218 => rfl); (case ez218 => k_is); k_whole) | (refine' nameX_B ?Fz218 ?Xz218 ?Tz218 ?ez218 ?vz218 ?nz218 ?_ ?az218 ?bz218; (case Fz218 => k_asm); (case Xz218 => k_asm); (case Tz218 => k_asm); (case az218 => rfl); (case bz218 => rfl); (case ez218 => k_is); (case vz218 => boot_fast); (case nz218 => decide); k_whole))))); (try dsimp only)))
  rename Fr _ _ _ _ => F1
  rename News _ _ _ _ => N1
  refine in_none (N1.isList m1) hl ?_
  cases hn : hasNone os with
  | true =>
    have hc : colI os = 4 := by unfold colI; rw [hn]; rfl
    rw [hc] at hK
    iterate 4 (first | (k_unfold; (try dsimp only)) | (k_end; wrow_close) | (walk1; (try dsimp only)) | (dsimp only; walk1; (try dsimp only)) | (leave1; walk_say "STEP leave1"; try dsimp only))
    rename Fr _ _ _ _ => F8
    rename News _ _ _ _ => N8
    refine' hK _ _ _ _ ?hn F8 N8
    case hn => kst_all
  | false =>
    have hc : colI os = 3 := by unfold colI; rw [hn]; rfl
    rw [hc] at hK
    iterate 4 (first | (k_unfold; (try dsimp only)) | (k_end; wrow_close) | (walk1; (try dsimp only)) | (dsimp only; walk1; (try dsimp only)) | (leave1; walk_say "STEP leave1"; try dsimp only))
    rename Fr _ _ _ _ => F8
    rename News _ _ _ _ => N8
    refine' hK _ _ _ _ ?hn F8 N8
    case hn => kst_all
theorem c_full (os : List (Option Int)) (fv : Value) (nw news : Led) (hF : FullIs w os news fv nw) (hol : os.length = 3) (hb : Bd os) (dp un : Nat) (gd : Option (List Code)) (cn : Str) (cs : Scope) (fa : Addr) (ccd : Value) (cl : List (Str × Addr)) (outer : List Env) (A₀ : Around) (base h₀ : Heap) (L : Addr) (m : Str → Option Value) (s : Shared) (Q E : Value → Shared → Prop)
    (B : Below A₀ base outer h₀) (F : Fr h₀ L s.heap m) (X : (Mine.hd.heap_39 w.params).In h₀) (N : News h₀ L s.heap nw) (T : Top p loose mean mg mb h₀) (hcs : cs.kind = .function) (hd : dp + 100 < recursionLimit) (hu : un + 1000 < cLine)
    (hQ : ∀ t h' tk', Fr h₀ L h' m → News h₀ L h' news → Q (.int (if truO (bestO os) = true then colI os else 0) t) { s with heap := h', toks := tk' }) :
    wpAny (model PySem.Challenge.rw_wo0033_01.row.prog w) (ktrTop dp un gd cn cs L fa ccd cl outer) (call (.ref 51) [fv]) Q E s := by
  rcases hF with ⟨hks, rfl, rfl⟩ | ⟨D, oD, kvs, rfl, rfl, hdo, hvals, hsm⟩
  · refine c_widthN _ _ _ _ _ _ _ _ _ _ _ _ _ _ _ _ _ _ B F X N T hcs trivial (rm2 hd (by decide)) (rm2 hu (by decide)) ?_
    intro t9 h9 tk9 F9 N9
    rw [known_nil hol hks] at hQ
    exact hQ t9 h9 tk9 F9 N9
  · refine c_width _ D oD kvs (fullL os 3) hsm (.head _) hdo hvals (log_full hol hb) (len_full hol hb) _ _ _ _ _ _ _ _ _ _ _ _ _ _ _ _ _ B F X N T hcs trivial (rm2 hd (by decide)) (rm2 hu (by decide)) ?_
    intro t9 h9 tk9 F9 N9
    rw [glw_full hol hb]
    exact hQ t9 h9 tk9 F9 (cb_drop N9 (fun p hp => .tail _ hp))
theorem t_v7c (tb tc : Tok) (os : List (Option Int)) (fv : Value) (nw : Led) (wk rwA : Addr) (rwv : List Value) (rn : Nat) (news : Led) (dp un : Nat) (gd : Option (List Code)) (fa : Addr) (ccd : Value) (outer : List Env) (A₀ : Around) (base h₀ : Heap) (L : Addr) (m : Str → Option Value) (s : Shared) (Q : Flow → Shared → Prop) (E : Value → Shared → Prop) (restS : List Stmt)
    (B : Below A₀ base outer h₀) (F : Fr h₀ L s.heap m) (X : (Mine.hd.heap_39 w.params).In h₀) (T : Top p loose mean mg mb h₀)
    (N : News h₀ L s.heap nw) (hF : FullIs w os news fv nw) (hd : dp + 300 < recursionLimit) (hu : un + 3000 < cLine)
    (m3 : (rwA, listOf rwv.toArray rn) ∈ news)
    (hol : os.length = 3) (hb : Bd os) (hrw : rwv.length ≤ 100) (hrw1 : 1 ≤ rwv.length) (hrw2 : rwv[rwv.length - 1]? = some (ov (bestO os) tb))
    (hk : ∀ p ∈ [(Str.ofString "walks", Value.ref wk), (Str.ofString "row", Value.ref rwA), (Str.ofString "full", fv), (Str.ofString "column", Value.int (colI os) tc)], m p.1 = some p.2)
    (hK : ∀ m' h' tk', (∀ p ∈ [(Str.ofString "walks", Value.ref wk), (Str.ofString "row", Value.ref rwA)], m' p.1 = some p.2) →
      Fr h₀ L h' m' → News h₀ L h' news →
      wpAny (model PySem.Challenge.rw_wo0033_01.row.prog w) (lawA dp un gd L fa ccd outer) (execs restS (lawEnv L fa ccd)) Q E { s with heap := h', toks := tk' }) :
    wpAny (model PySem.Challenge.rw_wo0033_01.row.prog w) (lawA dp un gd L fa ccd outer) (execs (vS 15 :: restS) (lawEnv L fa ccd)) Q E s := by
  revert X; k_fill; intro X
  change wpAny _ (ktrTop dp un gd _ ⟨_, _, _, _, _⟩ L fa ccd _ outer) (execs (.If _ _ _ _ :: restS) (envX _ ⟨_, _, _, _, _⟩ _ _ _ _)) _ _ _
  replace F := fr_kst hk F
  dsimp only [kstB] at F
  iterate 4 (first | (k_unfold; (try dsimp only)) | (k_end; wrow_close) | (walk1; (try dsimp only)) | (dsimp only; walk1; (try dsimp only)) | (leave1; walk_say "STEP leave1"; try dsimp only))
  (first | ((with_reducible ((k_here; (with_reducible show wpAny _ _ (eval _ (envX _ _ _ _ _ _)) _ _ _); k_dflt (first | (refine' nameX_L ?Fz219 ?vz219 ?_ ?az219 ?bz219; (case Fz219 => k_asm); (case az219 => rfl); (case bz219 => rfl); (case vz219 => rfl); k_whole) | (refine' nameX_C ?Nz219 ?cz219 ?mz219 ?dz219 ?_ ?az219 ?bz219; (case az219 => rfl); (case bz219 => rfl); (case Nz219 => k_asm); (case cz219 => rfl); (case mz219 => walk_at "my mem"); (case dz219 => assumption); k_whole) | (refine' nameX_K ?Fz219 ?Xz219 ?Tz219 ?ez219 ?_ ?az219 ?bz219; (case Fz219 => k_asm); (case Xz219 => k_asm); (case Tz219 => k_asm); (case az219 => rfl); (case bz219 => rfl); (case ez219 => k_is); k_whole) | (refine' nameX_B ?Fz219 ?Xz219 ?Tz219 ?ez219 ?vz219 ?nz219 ?_ ?az219 ?bz219; (case Fz219 => k_asm); (case Xz219 => k_asm); (case Tz219 => k_asm); (case az219 => rfl); (case bz219 => rfl); (case ez219 => k_is); (case vz219 => boot_fast); (case nz219 => decide); k_whole))))); (try dsimp only)) | (dsimp only; (with_reducible ((k_here; (with_reducible show wpAny _ _ (eval _ (envX _ _ _ _ _ _)) _ _ _); k_dflt (first | (refine' nameX_L ?Fz219 ?vz219 ?_ ?az219 ?bz219; (case Fz219 => k_asm); (case az219 => rfl); (case bz219 => rfl); (case vz219 => rfl); k_whole) | (refine' nameX_C ?Nz219 ?cz219 ?mz219 ?dz219 ?_ ?az219 ?bz219; (case az219 => rfl); (case bz219 => rfl); (case Nz219 => k_asm); (case cz219 => rfl); (case mz219 => walk_at "my mem"); (case dz219 => assumption); k_whole) | (refine' nameX_K ?Fz219 ?Xz219 ?Tz219 ?ez219 ?_ ?az219 ?bz219; (case Fz219 => k_asm); (case Xz219 => k_asm); (case Tz219 => k_asm); (case az219 => rfl); (case bz219 => rfl); (case ez219 => k_is); k_whole) | (refine' nameX_B ?Fz219 ?Xz219 ?Tz219 ?ez219 ?vz219 ?nz219 ?_ ?az219 ?bz219; (case Fz219 => k_asm); (case Xz219 => k_asm); (case Tz219 => k_asm); (case az219 => rfl); (case bz219 => rfl); (case ez219 => k_is); (case vz219 => boot_fast); (case nz219 => decide); k_whole))))); (try dsimp only)))
  (first | ((with_reducible ((k_here; k_dflt (first | refine' callWith_K ?k1z220 ?k2z220 ?_; (case k1z220 => k_asm); (case k2z220 => k_is); k_whole | refine' callWith_KW ?k1z220 ?k2z220 ?k3z220 ?_; (case k1z220 => k_asm); (case k2z220 => k_is); (case k3z220 => exact rfl); k_whole)))); (try dsimp only)) | (dsimp only; (with_reducible ((k_here; k_dflt (first | refine' callWith_K ?k1z220 ?k2z220 ?_; (case k1z220 => k_asm); (case k2z220 => k_is); k_whole | refine' callWith_KW ?k1z220 ?k2z220 ?k3z220 ?_; (case k1z220 => k_asm); (case k2z220 => k_is); (case k3z220 => exact rfl); k_whole)))); (try dsimp only)))
  iterate 1 (first | (k_unfold; (try dsimp only)) | (k_end; wrow_close) | (walk1; (try dsimp only)) | (dsimp only; walk1; (try dsimp only)) | (leave1; walk_say "STEP leave1"; try dsimp only))
  (first | ((with_reducible ((k_here; (with_reducible show wpAny _ _ (eval _ (envX _ _ _ _ _ _)) _ _ _); k_dflt (first | (refine' nameX_L ?Fz221 ?vz221 ?_ ?az221 ?bz221; (case Fz221 => k_asm); (case az221 => rfl); (case bz221 => rfl); (case vz221 => rfl); k_whole) | (refine' nameX_C ?Nz221 ?cz221 ?mz221 ?dz221 ?_ ?az221 ?bz221; (case az221 => rfl); (case bz221 => rfl); (case Nz221 => k_asm); (case cz221 => rfl); (case mz221 => walk_at "my mem"); (case dz221 => assumption); k_whole) | (refine' nameX_K ?Fz221 ?Xz221 ?Tz221 ?ez221 ?_ ?az221 ?bz221; (case Fz221 => k_asm); (case Xz221 => k_asm); (case Tz221 => k_asm); (case az221 => rfl); (case bz221 => rfl); (case ez221 => k_is); k_whole) | (refine' nameX_B ?Fz221 ?Xz221 ?Tz221 ?ez221 ?vz221 ?nz221 ?_ ?az221 ?bz221; (case Fz221 => k_asm); (case Xz221 => k_asm); (case Tz221 => k_asm); (case az221 => rfl); (case bz221 => rfl); (case ez221 => k_is); (case vz221 => boot_fast); (case nz221 => decide); k_whole))))); (try dsimp only)) | (dsimp only; (with_reducible ((k_here; (with_reducible show wpAny _ _ (eval _ (envX _ _ _ _ _ _)) _ _ _); k_dflt (first | (refine' nameX_L ?Fz221 ?vz221 ?_ ?az221 ?bz221; (case Fz221 => k_asm); (case az221 => rfl); (case bz221 => rfl); (case vz221 => rfl); k_whole) | (refine' nameX_C ?Nz221 ?cz221 ?mz221 ?dz221 ?_ ?az221 ?bz221; (case az221 => rfl); (case bz221 => rfl); (case Nz221 => k_asm); (case cz221 => rfl); (case mz221 => walk_at "my mem"); (case dz221 => assumption); k_whole) | (refine' nameX_K ?Fz221 ?Xz221 ?Tz221 ?ez221 ?_ ?az221 ?bz221; (case Fz221 => k_asm); (case Xz221 => k_asm); (case Tz221 => k_asm); (case az221 => rfl); (case bz221 => rfl); (case ez221 => k_is); k_whole) | (refine' nameX_B ?Fz221 ?Xz221 ?Tz221 ?ez221 ?vz221 ?nz221 ?_ ?az221 ?bz221; (case Fz221 => k_asm); (case Xz221 => k_asm); (case Tz221 => k_asm); (case az221 => rfl); (case bz221 => rfl); (case ez221 => k_is); (case vz221 => boot_fast); (case nz221 => decide); k_whole))))); (try dsimp only)))
  iterate 2 (first | (k_unfold; (try dsimp only)) | (k_end; wrow_close) | (walk1; (try dsimp only)) | (dsimp only; walk1; (try dsimp only)) | (leave1; walk_say "STEP leave1"; try dsimp only))
  rename Fr _ _ _ _ => F8
  rename News _ _ _ _ => N8
  refine c_full os fv nw news hF hol hb _ _ _ _ _ _ _ _ _ _ _ _ _ _ _ _ _ B F8 X N8 T rfl (rm2 hd (by decide)) (rm2 hu (by decide)) ?_
  intro t9 h9 tk9 F9 N9
  clear F8 N8 hF
  generalize bestO os = bo at *
  cases bo with
  | none =>
    rw [show truO none = false from rfl, if_neg (by decide)]
    dsimp only [ov] at hrw2
    (try dsimp only)
    iterate 3 (first | (k_unfold; (try dsimp only)) | (k_end; wrow_close) | (walk1; (try dsimp only)) | (dsimp only; walk1; (try dsimp only)) | (leave1; walk_say "STEP leave1"; try dsimp only))
    (first | ((with_reducible ((k_here; (with_reducible show wpAny _ _ (eval _ (envX _ _ _ _ _ _)) _ _ _); k_dflt (first | (refine' nameX_L ?Fz222 ?vz222 ?_ ?az222 ?bz222; (case Fz222 => k_asm); (case az222 => rfl); (case bz222 => rfl); (case vz222 => rfl); k_whole) | (refine' nameX_C ?Nz222 ?cz222 ?mz222 ?dz222 ?_ ?az222 ?bz222; (case az222 => rfl); (case bz222 => rfl); (case Nz222 => k_asm); (case cz222 => rfl); (case mz222 => walk_at "my mem"); (case dz222 => assumption); k_whole) | (refine' nameX_K ?Fz222 ?Xz222 ?Tz222 ?ez222 ?_ ?az222 ?bz222; (case Fz222 => k_asm); (case Xz222 => k_asm); (case Tz222 => k_asm); (case az222 => rfl); (case bz222 => rfl); (case ez222 => k_is); k_whole) | (refine' nameX_B ?Fz222 ?Xz222 ?Tz222 ?ez222 ?vz222 ?nz222 ?_ ?az222 ?bz222; (case Fz222 => k_asm); (case Xz222 => k_asm); (case Tz222 => k_asm); (case az222 => rfl); (case bz222 => rfl); (case ez222 => k_is); (case vz222 => boot_fast); (case nz222 => decide); k_whole))))); (try dsimp only)) | (dsimp only; (with_reducible ((k_here; (with_reducible show wpAny _ _ (eval _ (envX _ _ _ _ _ _)) _ _ _); k_dflt (first | (refine' nameX_L ?Fz222 ?vz222 ?_ ?az222 ?bz222; (case Fz222 => k_asm); (case az222 => rfl); (case bz222 => rfl); (case vz222 => rfl); k_whole) | (refine' nameX_C ?Nz222 ?cz222 ?mz222 ?dz222 ?_ ?az222 ?bz222; (case az222 => rfl); (case bz222 => rfl); (case Nz222 => k_asm); (case cz222 => rfl); (case mz222 => walk_at "my mem"); (case dz222 => assumption); k_whole) | (refine' nameX_K ?Fz222 ?Xz222 ?Tz222 ?ez222 ?_ ?az222 ?bz222; (case Fz222 => k_asm); (case Xz222 => k_asm); (case Tz222 => k_asm); (case az222 => rfl); (case bz222 => rfl); (case ez222 => k_is); k_whole) | (refine' nameX_B ?Fz222 ?Xz222 ?Tz222 ?ez222 ?vz222 ?nz222 ?_ ?az222 ?bz222; (case Fz222 => k_asm); (case Xz222 => k_asm); (case Tz222 => k_asm); (case az222 => rfl); (case bz222 => rfl); (case ez222 => k_is); (case vz222 => boot_fast); (case nz222 => decide); k_whole))))); (try dsimp only)))
    iterate 3 (first | (k_unfold; (try dsimp only)) | (k_end; wrow_close) | (walk1; (try dsimp only)) | (dsimp only; walk1; (try dsimp only)) | (leave1; walk_say "STEP leave1"; try dsimp only))
    (first | ((with_reducible (((k_here; (with_reducible show wpAny _ _ (subscriptTail _ _ (Value.ref _) (Value.int _ _)) _ _ _); k_dflt (first | refine my_item (by k_asm) (by walk_at "my mem") (by omega) (by omega) (by assumption) ?_ | refine my_last (by k_asm) (by walk_at "my mem") (by omega) (by omega) (by assumption) ?_))))); (try dsimp only)) | (dsimp only; (with_reducible (((k_here; (with_reducible show wpAny _ _ (subscriptTail _ _ (Value.ref _) (Value.int _ _)) _ _ _); k_dflt (first | refine my_item (by k_asm) (by walk_at "my mem") (by omega) (by omega) (by assumption) ?_ | refine my_last (by k_asm) (by walk_at "my mem") (by omega) (by omega) (by assumption) ?_))))); (try dsimp only)))
    iterate 8 (first | (k_unfold; (try dsimp only)) | (k_end; wrow_close) | (walk1; (try dsimp only)) | (dsimp only; walk1; (try dsimp only)) | (leave1; walk_say "STEP leave1"; try dsimp only))
    refine hK _ _ _ ?hn F9 N9
    case hn => kst_all
  | some M =>
    dsimp only [ov] at hrw2
    by_cases hM : M = 0
    · subst hM
      rw [show truO (some 0) = false from rfl, if_neg (by decide)]
      (try dsimp only)
      iterate 3 (first | (k_unfold; (try dsimp only)) | (k_end; wrow_close) | (walk1; (try dsimp only)) | (dsimp only; walk1; (try dsimp only)) | (leave1; walk_say "STEP leave1"; try dsimp only))
      (first | ((with_reducible ((k_here; (with_reducible show wpAny _ _ (eval _ (envX _ _ _ _ _ _)) _ _ _); k_dflt (first | (refine' nameX_L ?Fz224 ?vz224 ?_ ?az224 ?bz224; (case Fz224 => k_asm); (case az224 => rfl); (case bz224 => rfl); (case vz224 => rfl); k_whole) | (refine' nameX_C ?Nz224 ?cz224 ?mz224 ?dz224 ?_ ?az224 ?bz224; (case az224 => rfl); (case bz224 => rfl); (case Nz224 => k_asm); (case cz224 => rfl); (case mz224 => walk_at "my mem"); (case dz224 => assumption); k_whole) | (refine' nameX_K ?Fz224 ?Xz224 ?Tz224 ?ez224 ?_ ?az224 ?bz224; (case Fz224 => k_asm); (case Xz224 => k_asm); (case Tz224 => k_asm); (case az224 => rfl); (case bz224 => rfl); (case ez224 => k_is); k_whole) | (refine' nameX_B ?Fz224 ?Xz224 ?Tz224 ?ez224 ?vz224 ?nz224 ?_ ?az224 ?bz224; (case Fz224 => k_asm); (case Xz224 => k_asm); (case Tz224 => k_asm); (case az224 => rfl); (case bz224 => rfl); (case ez224 => k_is); (case vz224 => boot_fast); (case nz224 => decide); k_whole))))); (try dsimp only)) | (dsimp only; (with_reducible ((k_here; (with_reducible show wpAny _ _ (eval _ (envX _ _ _ _ _ _)) _ _ _); k_dflt (first | (refine' nameX_L ?Fz224 ?vz224 ?_ ?az224 ?bz224; (case Fz224 => k_asm); (case az224 => rfl); (case bz224 => rfl); (case vz224 => rfl); k_whole) | (refine' nameX_C ?Nz224 ?cz224 ?mz224 ?dz224 ?_ ?az224 ?bz224; (case az224 => rfl); (case bz224 => rfl); (case Nz224 => k_asm); (case cz224 => rfl); (case mz224 => walk_at "my mem"); (case dz224 => assumption); k_whole) | (refine' nameX_K ?Fz224 ?Xz224 ?Tz224 ?ez224 ?_ ?az224 ?bz224; (case Fz224 => k_asm); (case Xz224 => k_asm); (case Tz224 => k_asm); (case az224 => rfl); (case bz224 => rfl); (case ez224 => k_is); k_whole) | (refine' nameX_B ?Fz224 ?Xz224 ?Tz224 ?ez224 ?vz224 ?nz224 ?_ ?az224 ?bz224; (case Fz224 => k_asm); (case Xz224 => k_asm); (case Tz224 => k_asm); (case az224 => rfl); (case bz224 => rfl); (case ez224 => k_is); (case vz224 => boot_fast); (case nz224 => decide); k_whole))))); (try dsimp only)))
      iterate 3 (first | (k_unfold; (try dsimp only)) | (k_end; wrow_close) | (walk1; (try dsimp only)) | (dsimp only; walk1; (try dsimp only)) | (leave1; walk_say "STEP leave1"; try dsimp only))
      (first | ((with_reducible (((k_here; (with_reducible show wpAny _ _ (subscriptTail _ _ (Value.ref _) (Value.int _ _)) _ _ _); k_dflt (first | refine my_item (by k_asm) (by walk_at "my mem") (by omega) (by omega) (by assumption) ?_ | refine my_last (by k_asm) (by walk_at "my mem") (by omega) (by omega) (by assumption) ?_))))); (try dsimp only)) | (dsimp only; (with_reducible (((k_here; (with_reducible show wpAny _ _ (subscriptTail _ _ (Value.ref _) (Value.int _ _)) _ _ _); k_dflt (first | refine my_item (by k_asm) (by walk_at "my mem") (by omega) (by omega) (by assumption) ?_ | refine my_last (by k_asm) (by walk_at "my mem") (by omega) (by omega) (by assumption) ?_))))); (try dsimp only)))
      iterate 8 (first | (k_unfold; (try dsimp only)) | (k_end; wrow_close) | (walk1; (try dsimp only)) | (dsimp only; walk1; (try dsimp only)) | (leave1; walk_say "STEP leave1"; try dsimp only))
      refine hK _ _ _ ?hn F9 N9
      case hn => kst_all
    · have hm0 : (M != 0) = true := bne_iff_ne.mpr hM
      rw [show truO (some M) = true from hm0, if_pos rfl]
      (try dsimp only)
      iterate 3 (first | (k_unfold; (try dsimp only)) | (k_end; wrow_close) | (walk1; (try dsimp only)) | (dsimp only; walk1; (try dsimp only)) | (leave1; walk_say "STEP leave1"; try dsimp only))
      (first | ((with_reducible ((k_here; (with_reducible show wpAny _ _ (eval _ (envX _ _ _ _ _ _)) _ _ _); k_dflt (first | (refine' nameX_L ?Fz226 ?vz226 ?_ ?az226 ?bz226; (case Fz226 => k_asm); (case az226 => rfl); (case bz226 => rfl); (case vz226 => rfl); k_whole) | (refine' nameX_C ?Nz226 ?cz226 ?mz226 ?dz226 ?_ ?az226 ?bz226; (case az226 => rfl); (case bz226 => rfl); (case Nz226 => k_asm); (case cz226 => rfl); (case mz226 => walk_at "my mem"); (case dz226 => assumption); k_whole) | (refine' nameX_K ?Fz226 ?Xz226 ?Tz226 ?ez226 ?_ ?az226 ?bz226; (case Fz226 => k_asm); (case Xz226 => k_asm); (case Tz226 => k_asm); (case az226 => rfl); (case bz226 => rfl); (case ez226 => k_is); k_whole) | (refine' nameX_B ?Fz226 ?Xz226 ?Tz226 ?ez226 ?vz226 ?nz226 ?_ ?az226 ?bz226; (case Fz226 => k_asm); (case Xz226 => k_asm); (case Tz226 => k_asm); (case az226 => rfl); (case bz226 => rfl); (case ez226 => k_is); (case vz226 => boot_fast); (case nz226 => decide); k_whole))))); (try dsimp only)) | (dsimp only; (with_reducible ((k_here; (with_reducible show wpAny _ _ (eval _ (envX _ _ _ _ _ _)) _ _ _); k_dflt (first | (refine' nameX_L ?Fz226 ?vz226 ?_ ?az226 ?bz226; (case Fz226 => k_asm); (case az226 => rfl); (case bz226 => rfl); (case vz226 => rfl); k_whole) | (refine' nameX_C ?Nz226 ?cz226 ?mz226 ?dz226 ?_ ?az226 ?bz226; (case az226 => rfl); (case bz226 => rfl); (case Nz226 => k_asm); (case cz226 => rfl); (case mz226 => walk_at "my mem"); (case dz226 => assumption); k_whole) | (refine' nameX_K ?Fz226 ?Xz226 ?Tz226 ?ez226 ?_ ?az226 ?bz226; (case Fz226 => k_asm); (case Xz226 => k_asm); (case Tz226 => k_asm); (case az226 => rfl); (case bz226 => rfl); (case ez226 => k_is); k_whole) | (refine' nameX_B ?Fz226 ?Xz226 ?Tz226 ?ez226 ?vz226 ?nz226 ?_ ?az226 ?bz226; (case Fz226 => k_asm); (case Xz226 => k_asm); (case Tz226 => k_asm); (case az226 => rfl); (case bz226 => rfl); (case ez226 => k_is); (case vz226 => boot_fast); (case nz226 => decide); k_whole))))); (try dsimp only)))
      iterate 3 (first | (k_unfold; (try dsimp only)) | (k_end; wrow_close) | (walk1; (try dsimp only)) | (dsimp only; walk1; (try dsimp only)) | (leave1; walk_say "STEP leave1"; try dsimp only))
      (first | ((with_reducible (((k_here; (with_reducible show wpAny _ _ (subscriptTail _ _ (Value.ref _) (Value.int _ _)) _ _ _); k_dflt (first | refine my_item (by k_asm) (by walk_at "my mem") (by omega) (by omega) (by assumption) ?_ | refine my_last (by k_asm) (by walk_at "my mem") (by omega) (by omega) (by assumption) ?_))))); (try dsimp only)) | (dsimp only; (with_reducible (((k_here; (with_reducible show wpAny _ _ (subscriptTail _ _ (Value.ref _) (Value.int _ _)) _ _ _); k_dflt (first | refine my_item (by k_asm) (by walk_at "my mem") (by omega) (by omega) (by assumption) ?_ | refine my_last (by k_asm) (by walk_at "my mem") (by omega) (by omega) (by assumption) ?_))))); (try dsimp only)))
      iterate 1 (first | (k_unfold; (try dsimp only)) | (k_end; wrow_close) | (walk1; (try dsimp only)) | (dsimp only; walk1; (try dsimp only)) | (leave1; walk_say "STEP leave1"; try dsimp only))
      rw [hm0]
      iterate 1 (first | (k_unfold; (try dsimp only)) | (k_end; wrow_close) | (walk1; (try dsimp only)) | (dsimp only; walk1; (try dsimp only)) | (leave1; walk_say "STEP leave1"; try dsimp only))
      (first | ((with_reducible ((k_here; (with_reducible show wpAny _ _ (eval _ (envX _ _ _ _ _ _)) _ _ _); k_dflt (first | (refine' nameX_L ?Fz228 ?vz228 ?_ ?az228 ?bz228; (case Fz228 => k_asm); (case az228 => rfl); (case bz228 => rfl); (case vz228 => rfl); k_whole) | (refine' nameX_C ?Nz228 ?cz228 ?mz228 ?dz228 ?_ ?az228 ?bz228; (case az228 => rfl); (case bz228 => rfl); (case Nz228 => k_asm); (case cz228 => rfl); (case mz228 => walk_at "my mem"); (case dz228 => assumption); k_whole) | (refine' nameX_K ?Fz228 ?Xz228 ?Tz228 ?ez228 ?_ ?az228 ?bz228; (case Fz228 => k_asm); (case Xz228 => k_asm); (case Tz228 => k_asm); (case az228 => rfl); (case bz228 => rfl); (case ez228 => k_is); k_whole) | (refine' nameX_B ?Fz228 ?Xz228 ?Tz228 ?ez228 ?vz228 ?nz228 ?_ ?az228 ?bz228; (case Fz228 => k_asm); (case Xz228 => k_asm); (case Tz228 => k_asm); (case az228 => rfl); (case bz228 => rfl); (case ez228 => k_is); (case vz228 => boot_fast); (case nz228 => decide); k_whole))))); (try dsimp only)) | (dsimp only; (with_reducible ((k_here; (with_reducible show wpAny _ _ (eval _ (envX _ _ _ _ _ _)) _ _ _); k_dflt (first | (refine' nameX_L ?Fz228 ?vz228 ?_ ?az228 ?bz228; (case Fz228 => k_asm); (case az228 => rfl); (case bz228 => rfl); (case vz228 => rfl); k_whole) | (refine' nameX_C ?Nz228 ?cz228 ?mz228 ?dz228 ?_ ?az228 ?bz228; (case az228 => rfl); (case bz228 => rfl); (case Nz228 => k_asm); (case cz228 => rfl); (case mz228 => walk_at "my mem"); (case dz228 => assumption); k_whole) | (refine' nameX_K ?Fz228 ?Xz228 ?Tz228 ?ez228 ?_ ?az228 ?bz228; (case Fz228 => k_asm); (case Xz228 => k_asm); (case Tz228 => k_asm); (case az228 => rfl); (case bz228 => rfl); (case ez228 => k_is); k_whole) | (refine' nameX_B ?Fz228 ?Xz228 ?Tz228 ?ez228 ?vz228 ?nz228 ?_ ?az228 ?bz228; (case Fz228 => k_asm); (case Xz228 => k_asm); (case Tz228 => k_asm); (case az228 => rfl); (case bz228 => rfl); (case ez228 => k_is); (case vz228 => boot_fast); (case nz228 => decide); k_whole))))); (try dsimp only)))
      iterate 1 (first | (k_unfold; (try dsimp only)) | (k_end; wrow_close) | (walk1; (try dsimp only)) | (dsimp only; walk1; (try dsimp only)) | (leave1; walk_say "STEP leave1"; try dsimp only))
      rw [show (colI os != colI os) = false from bne_self_eq_false _]
      iterate 4 (first | (k_unfold; (try dsimp only)) | (k_end; wrow_close) | (walk1; (try dsimp only)) | (dsimp only; walk1; (try dsimp only)) | (leave1; walk_say "STEP leave1"; try dsimp only))
      refine hK _ _ _ ?hn F9 N9
      case hn => kst_all
end

end
-- L9
section
theorem leadsL_len (ws rs : List (Option Int)) (j : Nat) : (leadsL ws rs j 3).length = 3 := by simp [leadsL]
theorem asked_eq (ws rs : List (Option Int)) (j : Nat) : askedL ws rs j 3 = askedOf (leadsL ws rs j 3) := by
  unfold askedL askedOf
  congr 1
noncomputable def nextO (ws rs : List (Option Int)) (j : Nat) : Option Int := bestO (leadsL ws rs j 3)
theorem permG {α : Type} {k l a t c r : α} {cs rs : List α} : (k :: l :: a :: t :: (cs ++ c :: r :: rs)).Perm (r :: k :: l :: a :: t :: (cs ++ c :: rs)) := by
  have h := List.perm_middle (l₁ := k :: l :: a :: t :: (cs ++ [c])) (l₂ := rs) (a := r)
  simpa using h
theorem permH {α : Type} {l a t c r : α} {cs rs : List α} : (l :: a :: t :: (cs ++ c :: r :: rs)).Perm (l :: a :: c :: t :: (cs ++ r :: rs)) := by
  refine .cons l (.cons a ?_)
  have h := List.perm_middle (l₁ := t :: cs) (l₂ := r :: rs) (a := c)
  simpa using h
theorem full_sub {w : World} {os : List (Option Int)} {news nw : Led} {fv : Value} (hF : FullIs w os news fv nw) : ∀ p ∈ news, p ∈ nw := by
  rcases hF with ⟨_, _, e⟩ | ⟨D, oD, kvs, _, e, _⟩
  · rw [e]; exact fun _ h => h
  · rw [e]; exact fun _ h => .tail _ h
section
variable {w : World} {p : Program} {loose : List Str} {mean : ExcName → Option Value} {mg mb : Str → Option Value}
theorem t_v (j : Nat) (tv : Tok) (ws rs : List (Option Int)) (wD wk rA rwA : Addr) (wv wkv rv rwv : List Value) (wn wkn rn rwn : Nat) (o1 o2 : Obj) (c2 : Option Value) (ps : Array Value) (codes rest : Led) (dp un : Nat) (gd : Option (List Code)) (fa : Addr) (ccd : Value) (outer : List Env) (A₀ : Around) (base h₀ : Heap) (L : Addr) (m : Str → Option Value) (s : Shared) (Q : Flow → Shared → Prop) (E : Value → Shared → Prop)
    (B : Below A₀ base outer h₀) (F : Fr h₀ L s.heap m) (X : (Mine.hd.heap_39 w.params).In h₀) (T : Top p loose mean mg mb h₀) (C : CodeHd base 111 107) (S : TabSt leadDef qLead ps codes)
    (N : News h₀ L s.heap ((L + 1 + 1, o2) :: (107, tabObj ps) :: (codes ++ (rwA, listOf rwv.toArray rwn) :: rest))) (nd : Nd ((L + 1 + 1, o2) :: (107, tabObj ps) :: (codes ++ (rwA, listOf rwv.toArray rwn) :: rest)))
    (hd : dp + 300 < recursionLimit) (hu : un + 3000 < cLine) (hE : PassesOwn (model PySem.Challenge.rw_wo0033_01.row.prog w) (lawA dp un gd L fa ccd outer) (lawEnv L fa ccd) E)
    (m1 : (L + 1, o1) ∈ rest) (d1 : o1.data = .cell (some (.ref wD))) (d2 : o2.data = .cell c2) (m3 : (wD, listOf wv.toArray wn) ∈ rest) (m4 : (wk, listOf wkv.toArray wkn) ∈ rest) (m5 : (rA, listOf rv.toArray rn) ∈ rest)
    (hj : j < 3) (hw : OvL ws wv) (hwl : ws.length = 9) (hr : OvL rs rv) (hrl : rs.length = 3) (hwk : wkv[wkv.length - 1]? = some (.ref rA)) (hwk1 : 1 ≤ wkv.length) (hwk2 : wkv.length ≤ 100) (hrw : rwv.length ≤ 99)
    (hb : Bd (leadsL ws rs j 3))
    (hk : ∀ p ∈ [(Str.ofString "walks", Value.ref wk), (Str.ofString "row", Value.ref rwA), (Str.ofString "v", Value.int (0 + (j : Int)) tv)], m p.1 = some p.2)
    (hQ : ∀ t o2' c2' ps' codes' m' h' tk', o2'.data = .cell c2' → TabSt leadDef qLead ps' codes' → (∀ p ∈ [(Str.ofString "walks", Value.ref wk), (Str.ofString "row", Value.ref rwA)], m' p.1 = some p.2) → Fr h₀ L h' m' →
      News h₀ L h' ((L + 1 + 1, o2') :: (107, tabObj ps') :: (codes' ++ (rwA, listOf (rwv ++ [ov (nextO ws rs j) t]).toArray (rwn + 1)) :: rest)) → Nd ((L + 1 + 1, o2') :: (107, tabObj ps') :: (codes' ++ (rwA, listOf (rwv ++ [ov (nextO ws rs j) t]).toArray (rwn + 1)) :: rest)) → Q .next { s with heap := h', toks := tk' }) :
    wpAny (model PySem.Challenge.rw_wo0033_01.row.prog w) (lawA dp un gd L fa ccd outer) (execs vBody (lawEnv L fa ccd)) Q E s := by
  have hol := leadsL_len ws rs j
  change wpAny _ _ (execs (vS 0 :: vS 1 :: vS 2 :: vS 3 :: vS 4 :: vS 5 :: vS 6 :: vS 7 :: vS 8 :: vS 9 :: vS 10 :: vS 11 :: vS 12 :: vS 13 :: vS 14 :: vS 15 :: []) _) _ _ _
  refine t_v1 j tv ws rs wD wk rA rwA wv wkv rv wn wkn rn o1 o2 c2 ps codes ((rwA, listOf rwv.toArray rwn) :: rest) dp un gd fa ccd outer A₀ base h₀ L m s Q E _ B F X T C S N nd hd hu hE (.tail _ m1) d1 d2 (.tail _ m3) (.tail _ m4) (.tail _ m5) hj hw hwl hr hrl hwk hwk1 hwk2 hk ?_
  intro lA aA lv av ln an o2' ps' codes' m1' h1 tk1 hlv hav S' d2' hk1 F1 N1 nd1
  clear N F
  have a1 : (lA, listOf lv.toArray ln) ∈ ((lA, listOf lv.toArray ln) :: (aA, listOf av.toArray an) :: (107, tabObj ps') :: (codes' ++ (L + 1 + 1, o2') :: (rwA, listOf rwv.toArray rwn) :: rest)) := .head _
  have a2 : (L + 1 + 1, o2') ∈ ((lA, listOf lv.toArray ln) :: (aA, listOf av.toArray an) :: (107, tabObj ps') :: (codes' ++ (L + 1 + 1, o2') :: (rwA, listOf rwv.toArray rwn) :: rest)) := .tail _ (.tail _ (.tail _ (List.mem_append_right _ (.head _))))
  refine t_v2 j tv _ wk rwA lA aA lv av ln an o2' _ dp un gd fa ccd outer A₀ base h₀ L _ _ Q E _ B F1 X T N1 hd hu a1 a2 d2' (.tail _ (.head _)) hlv hol (asked_eq ws rs j ▸ hav) hk1 ?_
  intro kA kv m2' h2 tk2 hi hk2 F2 N2 off2
  clear F1 N1
  refine t_v3 j tv _ wk rwA kA kv kv.length _ dp un gd fa ccd outer A₀ base h₀ L _ _ Q E _ B F2 X T N2 hd hu hE (.head _) hi (known_bd hb) hk2 ?_
  intro tb m3' h3 tk3 hk3 F3 N3
  clear F2 N2
  refine t_v4 j tv tb _ wk rwA kA lA lv ln o2' _ dp un gd fa ccd outer A₀ base h₀ L _ _ Q E _ B F3 X T N3 hd hu (.tail _ a1) (.tail _ a2) d2' hlv hol hb hk3 ?_
  intro tw m4' h4 tk4 hk4 F4 N4
  clear F3 N3
  refine t_v5 j tv tb tw _ _ wk rwA kA kv kv.length _ dp un gd fa ccd outer A₀ base h₀ L _ _ Q E _ B F4 X T N4 hd hu (.head _) hi (known_bd hb) hk4 ?_
  intro m5' h5 tk5 hk5 F5 N5
  clear F4 N4
  have N5' := news_perm N5 permG
  have nd5 := (Nd.cons (a := (kA, LCg.lst kv)) off2 nd1).perm permG
  refine t_v6a j tv tw (bestO (leadsL ws rs j 3)) wk rwA kA rwv rwn _ dp un gd fa ccd outer A₀ base h₀ L _ _ Q E _ B F5 X T N5' nd5.off hd hu (best_bd hol hb) (by omega) hk5 ?_
  intro tr m6 h6 tk6 hk6 F6 N6
  clear F5 N5 N5'
  have hlast : (rwv ++ [ov (bestO (leadsL ws rs j 3)) tr])[(rwv ++ [ov (bestO (leadsL ws rs j 3)) tr]).length - 1]? = some (ov (bestO (leadsL ws rs j 3)) tr) := by simp
  have hlen : (rwv ++ [ov (bestO (leadsL ws rs j 3)) tr]).length ≤ 100 := by simp; omega
  have hlen1 : 1 ≤ (rwv ++ [ov (bestO (leadsL ws rs j 3)) tr]).length := by simp
  have b1 : (lA, listOf lv.toArray ln) ∈ ((rwA, listOf (rwv ++ [ov (bestO (leadsL ws rs j 3)) tr]).toArray (rwn + 1)) :: (kA, LCg.lst kv) :: (lA, listOf lv.toArray ln) :: (aA, listOf av.toArray an) :: (107, tabObj ps') :: (codes' ++ (L + 1 + 1, o2') :: rest)) := .tail _ (.tail _ (.head _))
  have b2 : (L + 1 + 1, o2') ∈ ((rwA, listOf (rwv ++ [ov (bestO (leadsL ws rs j 3)) tr]).toArray (rwn + 1)) :: (kA, LCg.lst kv) :: (lA, listOf lv.toArray ln) :: (aA, listOf av.toArray an) :: (107, tabObj ps') :: (codes' ++ (L + 1 + 1, o2') :: rest)) := .tail _ (.tail _ (.tail _ (.tail _ (.tail _ (List.mem_append_right _ (.head _))))))
  refine t_v6b j tv tr _ wk rwA kA lA lv _ ln _ o2' _ dp un gd fa ccd outer A₀ base h₀ L _ _ Q E _ B F6 X T N6 hd hu b1 b2 d2' (.head _) hlv hol hb hlen hlen1 hlast hk6 ?_
  intro m7 h7 tk7 hk7 F7 N7
  clear F6 N6
  refine t_v7a j tv _ wk rwA kA lA lv kv ln kv.length o2' _ dp un gd fa ccd outer A₀ base h₀ L _ _ Q E _ B F7 X T N7 hd hu b1 b2 d2' (.tail _ (.head _)) hi hlv hol hk7 ?_
  intro fv nw m8 h8 tk8 hF hk8 F8 N8
  clear F7 N7
  have hsub := full_sub hF
  refine t_v7b j tv _ fv nw wk rwA lA lv ln o2' dp un gd fa ccd outer A₀ base h₀ L _ _ Q E _ B F8 X T N8 hd hu (hsub _ b1) (hsub _ b2) d2' hlv hk8 ?_
  intro tc m9 h9 tk9 hk9 F9 N9
  clear F8 N8
  refine t_v7c tr tc _ fv nw wk rwA _ _ _ dp un gd fa ccd outer A₀ base h₀ L _ _ Q E _ B F9 X T N9 hF hd hu (.head _) hol hb hlen hlen1 hlast hk9 ?_
  intro ma ha tka hka Fa Na
  clear F9 N9
  refine wpAny_pure ?_
  have Nb := news_perm Na permG.symm
  have ndb : Nd ((rwA, listOf (rwv ++ [ov (bestO (leadsL ws rs j 3)) tr]).toArray (rwn + 1)) :: (kA, LCg.lst kv) :: (lA, listOf lv.toArray ln) :: (aA, listOf av.toArray an) :: (107, tabObj ps') :: (codes' ++ (L + 1 + 1, o2') :: rest)) := nd5
  have ndc := ndb.perm permG.symm
  exact hQ tr o2' _ ps' codes' ma ha tka d2' S' hka Fa (cb_drop (news_perm (cb_drop Nb fun p hp => .tail _ hp) permH) fun p hp => .tail _ (.tail _ hp)) ((ndc.tail.perm permH).tail.tail)
end

end
-- L10
section
example : True := by w_top off; exact trivial
noncomputable def rowL (ws rs : List (Option Int)) (n : Nat) : List (Option Int) := (List.range n).map (nextO ws rs)
theorem rowL_succ (ws rs : List (Option Int)) (i : Nat) : rowL ws rs (i + 1) = rowL ws rs i ++ [nextO ws rs i] := by
  simp only [rowL, List.range_succ, List.map_append, List.map_cons, List.map_nil]
inductive JV (ws rs : List (Option Int)) (L wk rwA : Addr) (R : Led) (i : Nat) (m₁ : Names) (nw : Led) : Prop
  | mk : ∀ o2 c2 ps codes rwv rwn, (o2.data = .cell c2) → (TabSt leadDef qLead ps codes) → (OvL (rowL ws rs i) rwv) → ((∀ p ∈ [(Str.ofString "walks", Value.ref wk), (Str.ofString "row", Value.ref rwA)], m₁ p.1 = some p.2)) → (nw = (L + 1 + 1, o2) :: (107, tabObj ps) :: (codes ++ (rwA, listOf rwv.toArray rwn) :: R)) → (Nd nw) → JV ws rs L wk rwA R i m₁ nw

theorem permI {α : Type} {r c t : α} {cs rs : List α} : (r :: c :: t :: (cs ++ rs)).Perm (c :: t :: (cs ++ r :: rs)) := by
  have h := (List.perm_middle (l₁ := c :: t :: cs) (l₂ := rs) (a := r)).symm
  simpa using h
theorem permJ {α : Type} {I c t r k : α} {cs rs : List α} : (I :: c :: t :: (cs ++ r :: k :: rs)).Perm (c :: t :: (cs ++ r :: k :: I :: rs)) := by
  have h := (List.perm_middle (l₁ := c :: t :: (cs ++ [r, k])) (l₂ := rs) (a := I)).symm
  simpa using h
theorem permK {α : Type} {c t r k : α} {cs rs : List α} : (c :: t :: (cs ++ r :: k :: rs)).Perm (k :: c :: t :: (cs ++ r :: rs)) := by
  have h := (List.perm_middle (l₁ := c :: t :: (cs ++ [r])) (l₂ := rs) (a := k))
  simpa using h
section
variable {w : World} {p : Program} {loose : List Str} {mean : ExcName → Option Value} {mg mb : Str → Option Value}
theorem t_step (ws rs : List (Option Int)) (wD wk rA : Addr) (wv wkv rv : List Value) (wn wkn rn : Nat) (o1 o2 : Obj) (c2 : Option Value) (ps : Array Value) (codes rest : Led) (dp un : Nat) (gd : Option (List Code)) (fa : Addr) (ccd : Value) (outer : List Env) (A₀ : Around) (base h₀ : Heap) (L : Addr) (m : Str → Option Value) (s : Shared) (Q : Flow → Shared → Prop) (E : Value → Shared → Prop)
    (B : Below A₀ base outer h₀) (F : Fr h₀ L s.heap m) (X : (Mine.hd.heap_39 w.params).In h₀) (T : Top p loose mean mg mb h₀) (C : CodeHd base 111 107) (S : TabSt leadDef qLead ps codes)
    (N : News h₀ L s.heap ((L + 1 + 1, o2) :: (107, tabObj ps) :: (codes ++ (wk, listOf wkv.toArray wkn) :: rest))) (nd : Nd ((L + 1 + 1, o2) :: (107, tabObj ps) :: (codes ++ (wk, listOf wkv.toArray wkn) :: rest)))
    (hd : dp + 300 < recursionLimit) (hu : un + 3000 < cLine) (hE : PassesOwn (model PySem.Challenge.rw_wo0033_01.row.prog w) (lawA dp un gd L fa ccd outer) (lawEnv L fa ccd) E)
    (m1 : (L + 1, o1) ∈ rest) (d1 : o1.data = .cell (some (.ref wD))) (d2 : o2.data = .cell c2) (m3 : (wD, listOf wv.toArray wn) ∈ rest) (m5 : (rA, listOf rv.toArray rn) ∈ rest)
    (hw : OvL ws wv) (hwl : ws.length = 9) (hr : OvL rs rv) (hrl : rs.length = 3) (hwk : wkv[wkv.length - 1]? = some (.ref rA)) (hwk1 : 1 ≤ wkv.length) (hwk2 : wkv.length ≤ 100)
    (hb : ∀ j, j < 3 → Bd (leadsL ws rs j 3))
    (hk : ∀ p ∈ [(Str.ofString "walks", Value.ref wk)], m p.1 = some p.2)
    (hQ : ∀ rwA rwv rwn o2' c2' ps' codes' m' h' tk', OvL (rowL ws rs 3) rwv → o2'.data = .cell c2' → TabSt leadDef qLead ps' codes' → (∀ p ∈ [(Str.ofString "walks", Value.ref wk)], m' p.1 = some p.2) → Fr h₀ L h' m' →
      News h₀ L h' ((L + 1 + 1, o2') :: (107, tabObj ps') :: (codes' ++ (wk, listOf (wkv ++ [Value.ref rwA]).toArray (wkn + 1)) :: (rwA, listOf rwv.toArray rwn) :: rest)) → Nd ((L + 1 + 1, o2') :: (107, tabObj ps') :: (codes' ++ (wk, listOf (wkv ++ [Value.ref rwA]).toArray (wkn + 1)) :: (rwA, listOf rwv.toArray rwn) :: rest)) → Q .next { s with heap := h', toks := tk' }) :
    wpAny (model PySem.Challenge.rw_wo0033_01.row.prog w) (lawA dp un gd L fa ccd outer) (execs stepBody (lawEnv L fa ccd)) Q E s := by
  revert X; k_fill; intro X
  have hE0 := hE
  change wpAny _ (ktrTop dp un gd _ ⟨_, _, _, _, _⟩ L fa ccd _ outer) (execs (.Assign _ _ _ :: .For _ _ vBody _ _ :: .Expr _ _ :: []) (envX _ ⟨_, _, _, _, _⟩ _ _ _ _)) _ _ _
  change PassesOwn _ (ktrTop dp un gd _ ⟨_, _, _, _, _⟩ L fa ccd _ outer) (envX _ ⟨_, _, _, _, _⟩ _ _ _ _) _ at hE
  replace F := fr_kst hk F
  dsimp only [kstB] at F
  iterate 5 (first | (k_unfold; (try dsimp only)) | (k_end; wrow_close) | (walk1; (try dsimp only)) | (dsimp only; walk1; (try dsimp only)) | (leave1; walk_say "STEP leave1"; try dsimp only))
  rename Addr => rwA
  rename _ < _ ∧ _ < _ ∧ AllLt _ _ => l9
  rename Fr _ _ _ _ => F1
  rename News _ _ _ _ => N1
  have nd1 := (Nd.new (a := (rwA, listOf #[] 0)) nd (List.forall_mem_cons.mpr ⟨l9.1, List.forall_mem_cons.mpr ⟨l9.2.1, ktn_ltOf l9.2.2⟩⟩)).perm permI
  iterate 3 (first | (k_unfold; (try dsimp only)) | (k_end; wrow_close) | (walk1; (try dsimp only)) | (dsimp only; walk1; (try dsimp only)) | (leave1; walk_say "STEP leave1"; try dsimp only))
  k_dflt (refine For_invV h₀ (by rfl) (by rfl) ?_ (by intro _; rfl) hE)
  iterate 1 (first | (k_unfold; (try dsimp only)) | (k_end; wrow_close) | (walk1; (try dsimp only)) | (dsimp only; walk1; (try dsimp only)) | (leave1; walk_say "STEP leave1"; try dsimp only))
  (first | ((with_reducible ((k_here; (with_reducible show wpAny _ _ (eval _ (envX _ _ _ _ _ _)) _ _ _); k_dflt (first | (refine' nameX_L ?Fz229 ?vz229 ?_ ?az229 ?bz229; (case Fz229 => k_asm); (case az229 => rfl); (case bz229 => rfl); (case vz229 => rfl); k_whole) | (refine' nameX_C ?Nz229 ?cz229 ?mz229 ?dz229 ?_ ?az229 ?bz229; (case az229 => rfl); (case bz229 => rfl); (case Nz229 => k_asm); (case cz229 => rfl); (case mz229 => walk_at "my mem"); (case dz229 => assumption); k_whole) | (refine' nameX_K ?Fz229 ?Xz229 ?Tz229 ?ez229 ?_ ?az229 ?bz229; (case Fz229 => k_asm); (case Xz229 => k_asm); (case Tz229 => k_asm); (case az229 => rfl); (case bz229 => rfl); (case ez229 => k_is); k_whole) | (refine' nameX_B ?Fz229 ?Xz229 ?Tz229 ?ez229 ?vz229 ?nz229 ?_ ?az229 ?bz229; (case Fz229 => k_asm); (case Xz229 => k_asm); (case Tz229 => k_asm); (case az229 => rfl); (case bz229 => rfl); (case ez229 => k_is); (case vz229 => boot_fast); (case nz229 => decide); k_whole))))); (try dsimp only)) | (dsimp only; (with_reducible ((k_here; (with_reducible show wpAny _ _ (eval _ (envX _ _ _ _ _ _)) _ _ _); k_dflt (first | (refine' nameX_L ?Fz229 ?vz229 ?_ ?az229 ?bz229; (case Fz229 => k_asm); (case az229 => rfl); (case bz229 => rfl); (case vz229 => rfl); k_whole) | (refine' nameX_C ?Nz229 ?cz229 ?mz229 ?dz229 ?_ ?az229 ?bz229; (case az229 => rfl); (case bz229 => rfl); (case Nz229 => k_asm); (case cz229 => rfl); (case mz229 => walk_at "my mem"); (case dz229 => assumption); k_whole) | (refine' nameX_K ?Fz229 ?Xz229 ?Tz229 ?ez229 ?_ ?az229 ?bz229; (case Fz229 => k_asm); (case Xz229 => k_asm); (case Tz229 => k_asm); (case az229 => rfl); (case bz229 => rfl); (case ez229 => k_is); k_whole) | (refine' nameX_B ?Fz229 ?Xz229 ?Tz229 ?ez229 ?vz229 ?nz229 ?_ ?az229 ?bz229; (case Fz229 => k_asm); (case Xz229 => k_asm); (case Tz229 => k_asm); (case az229 => rfl); (case bz229 => rfl); (case ez229 => k_is); (case vz229 => boot_fast); (case nz229 => decide); k_whole))))); (try dsimp only)))
  iterate 5 (first | (k_unfold; (try dsimp only)) | (k_end; wrow_close) | (walk1; (try dsimp only)) | (dsimp only; walk1; (try dsimp only)) | (leave1; walk_say "STEP leave1"; try dsimp only))
  rename Fr _ _ _ _ => F3
  rename News _ _ _ _ => N3
  rename IsRange _ _ _ _ _ _ _ _ => hR
  have N4 := news_perm N3 permI
  refine loopRange (n := 3) (JV ws rs L wk rwA ((wk, listOf wkv.toArray wkn) :: rest)) rfl hR (by decide) (by rfl) F3 N4 ?h0 ?turn ?done
  case h0 =>
    refine ⟨o2, c2, ps, codes, [], 0, d2, S, .nil, ?hn, rfl, nd1⟩
    case hn => kst_all
  case turn =>
    rintro i m₁ nw t h tk I oI hi ⟨o2, c2, ps, codes, rwv, rwn, d2, S, hrow, hk, hnw, nd⟩ hoff F9 N9
    subst hnw
    have N8 := news_perm N9 permJ
    have nd8 := (Nd.cons (a := (I, oI)) hoff nd).perm permJ
    have hrl9 := hrow.length
    simp only [rowL, List.length_map, List.length_range] at hrl9
    refine t_v i t ws rs wD wk rA rwA wv wkv rv rwv wn wkn rn rwn o1 o2 c2 ps codes ((wk, listOf wkv.toArray wkn) :: (I, oI) :: rest) dp un gd fa ccd outer A₀ base h₀ L _ _ _ E B F9 X T C S N8 nd8 hd hu hE0 (.tail _ (.tail _ m1)) d1 d2 (.tail _ (.tail _ m3)) (.head _) (.tail _ (.tail _ m5)) hi hw hwl hr hrl hwk hwk1 hwk2 (by omega) (hb i hi) ?hk ?hQ
    case hk => exact List.forall_mem_cons.mpr ⟨hk _ (by simp), List.forall_mem_cons.mpr ⟨hk _ (by simp), List.forall_mem_cons.mpr ⟨rfl, List.forall_mem_nil _⟩⟩⟩
    case hQ =>
      intro t' o2' c2' ps' codes' m' h' tk' d2' S' hk' F' N' nd'
      have N7 := news_perm N' permJ.symm
      have nd7 := nd'.perm permJ.symm
      refine ⟨h', tk', m', _, rfl, F', N7, fun p hp e => nd7.off p hp (List.mem_singleton.mp e), o2', c2', ps', codes', _, _, d2', S', ?hr9, hk', rfl, nd7.tail⟩
      case hr9 => rw [rowL_succ]; exact ovApp hrow (.cons .nil)
  case done =>
    clear F3 N3 N4
    rintro m' nw' h' tk' ⟨o2, c2, ps, codes, rwv, rwn, d2, S, hrow, hk, hnw, nd⟩ F' N'
    subst hnw
    have F2 := fr_kst hk F'
    dsimp only [kstB] at F2
    have N2 := news_perm N' permK
    have nd2 := nd.perm permK
    clear F' N'
    iterate 3 (first | (k_unfold; (try dsimp only)) | (k_end; wrow_close) | (walk1; (try dsimp only)) | (dsimp only; walk1; (try dsimp only)) | (leave1; walk_say "STEP leave1"; try dsimp only))
    (first | ((with_reducible ((k_here; (with_reducible show wpAny _ _ (eval _ (envX _ _ _ _ _ _)) _ _ _); k_dflt (first | (refine' nameX_L ?Fz230 ?vz230 ?_ ?az230 ?bz230; (case Fz230 => k_asm); (case az230 => rfl); (case bz230 => rfl); (case vz230 => rfl); k_whole) | (refine' nameX_C ?Nz230 ?cz230 ?mz230 ?dz230 ?_ ?az230 ?bz230; (case az230 => rfl); (case bz230 => rfl); (case Nz230 => k_asm); (case cz230 => rfl); (case mz230 => walk_at "my mem"); (case dz230 => assumption); k_whole) | (refine' nameX_K ?Fz230 ?Xz230 ?Tz230 ?ez230 ?_ ?az230 ?bz230; (case Fz230 => k_asm); (case Xz230 => k_asm); (case Tz230 => k_asm); (case az230 => rfl); (case bz230 => rfl); (case ez230 => k_is); k_whole) | (refine' nameX_B ?Fz230 ?Xz230 ?Tz230 ?ez230 ?vz230 ?nz230 ?_ ?az230 ?bz230; (case Fz230 => k_asm); (case Xz230 => k_asm); (case Tz230 => k_asm); (case az230 => rfl); (case bz230 => rfl); (case ez230 => k_is); (case vz230 => boot_fast); (case nz230 => decide); k_whole))))); (try dsimp only)) | (dsimp only; (with_reducible ((k_here; (with_reducible show wpAny _ _ (eval _ (envX _ _ _ _ _ _)) _ _ _); k_dflt (first | (refine' nameX_L ?Fz230 ?vz230 ?_ ?az230 ?bz230; (case Fz230 => k_asm); (case az230 => rfl); (case bz230 => rfl); (case vz230 => rfl); k_whole) | (refine' nameX_C ?Nz230 ?cz230 ?mz230 ?dz230 ?_ ?az230 ?bz230; (case az230 => rfl); (case bz230 => rfl); (case Nz230 => k_asm); (case cz230 => rfl); (case mz230 => walk_at "my mem"); (case dz230 => assumption); k_whole) | (refine' nameX_K ?Fz230 ?Xz230 ?Tz230 ?ez230 ?_ ?az230 ?bz230; (case Fz230 => k_asm); (case Xz230 => k_asm); (case Tz230 => k_asm); (case az230 => rfl); (case bz230 => rfl); (case ez230 => k_is); k_whole) | (refine' nameX_B ?Fz230 ?Xz230 ?Tz230 ?ez230 ?vz230 ?nz230 ?_ ?az230 ?bz230; (case Fz230 => k_asm); (case Xz230 => k_asm); (case Tz230 => k_asm); (case az230 => rfl); (case bz230 => rfl); (case ez230 => k_is); (case vz230 => boot_fast); (case nz230 => decide); k_whole))))); (try dsimp only)))
    iterate 3 (first | (k_unfold; (try dsimp only)) | (k_end; wrow_close) | (walk1; (try dsimp only)) | (dsimp only; walk1; (try dsimp only)) | (leave1; walk_say "STEP leave1"; try dsimp only))
    (first | ((with_reducible ((k_here; (with_reducible show wpAny _ _ (eval _ (envX _ _ _ _ _ _)) _ _ _); k_dflt (first | (refine' nameX_L ?Fz231 ?vz231 ?_ ?az231 ?bz231; (case Fz231 => k_asm); (case az231 => rfl); (case bz231 => rfl); (case vz231 => rfl); k_whole) | (refine' nameX_C ?Nz231 ?cz231 ?mz231 ?dz231 ?_ ?az231 ?bz231; (case az231 => rfl); (case bz231 => rfl); (case Nz231 => k_asm); (case cz231 => rfl); (case mz231 => walk_at "my mem"); (case dz231 => assumption); k_whole) | (refine' nameX_K ?Fz231 ?Xz231 ?Tz231 ?ez231 ?_ ?az231 ?bz231; (case Fz231 => k_asm); (case Xz231 => k_asm); (case Tz231 => k_asm); (case az231 => rfl); (case bz231 => rfl); (case ez231 => k_is); k_whole) | (refine' nameX_B ?Fz231 ?Xz231 ?Tz231 ?ez231 ?vz231 ?nz231 ?_ ?az231 ?bz231; (case Fz231 => k_asm); (case Xz231 => k_asm); (case Tz231 => k_asm); (case az231 => rfl); (case bz231 => rfl); (case ez231 => k_is); (case vz231 => boot_fast); (case nz231 => decide); k_whole))))); (try dsimp only)) | (dsimp only; (with_reducible ((k_here; (with_reducible show wpAny _ _ (eval _ (envX _ _ _ _ _ _)) _ _ _); k_dflt (first | (refine' nameX_L ?Fz231 ?vz231 ?_ ?az231 ?bz231; (case Fz231 => k_asm); (case az231 => rfl); (case bz231 => rfl); (case vz231 => rfl); k_whole) | (refine' nameX_C ?Nz231 ?cz231 ?mz231 ?dz231 ?_ ?az231 ?bz231; (case az231 => rfl); (case bz231 => rfl); (case Nz231 => k_asm); (case cz231 => rfl); (case mz231 => walk_at "my mem"); (case dz231 => assumption); k_whole) | (refine' nameX_K ?Fz231 ?Xz231 ?Tz231 ?ez231 ?_ ?az231 ?bz231; (case Fz231 => k_asm); (case Xz231 => k_asm); (case Tz231 => k_asm); (case az231 => rfl); (case bz231 => rfl); (case ez231 => k_is); k_whole) | (refine' nameX_B ?Fz231 ?Xz231 ?Tz231 ?ez231 ?vz231 ?nz231 ?_ ?az231 ?bz231; (case Fz231 => k_asm); (case Xz231 => k_asm); (case Tz231 => k_asm); (case az231 => rfl); (case bz231 => rfl); (case ez231 => k_is); (case vz231 => boot_fast); (case nz231 => decide); k_whole))))); (try dsimp only)))
    iterate 1 (first | (k_unfold; (try dsimp only)) | (k_end; wrow_close) | (walk1; (try dsimp only)) | (dsimp only; walk1; (try dsimp only)) | (leave1; walk_say "STEP leave1"; try dsimp only))
    rename Fr _ _ _ _ => F8
    rename News _ _ _ _ => N8
    refine my_append (vs := wkv) [] F8 N8 (List.forall_mem_nil _) nd2.off (by omega) ?_
    intro h8 F9 N9
    clear F8 N8
    have nd3 : Nd ((wk, listOf (wkv ++ [Value.ref rwA]).toArray (wkn + 1)) :: (L + 1 + 1, o2) :: (107, tabObj ps) :: (codes ++ (rwA, listOf rwv.toArray rwn) :: rest)) := nd2
    (try dsimp only)
    iterate 1 (first | (k_unfold; (try dsimp only)) | (k_end; wrow_close) | (walk1; (try dsimp only)) | (dsimp only; walk1; (try dsimp only)) | (leave1; walk_say "STEP leave1"; try dsimp only))
    refine hQ rwA rwv rwn o2 c2 ps codes _ _ _ hrow d2 S ?hn F9 (news_perm N9 permI) (nd3.perm permI)
    case hn => kst_all
end

end
-- L11
section
example : True := by w_top off; exact trivial
noncomputable def rowD (ws : List (Option Int)) : Nat → List (Option Int)
  | 0 => [some 0, some 0, some 0]
  | k + 1 => rowL ws (rowD ws k) 3
theorem rowD_len (ws : List (Option Int)) : ∀ k, (rowD ws k).length = 3
  | 0 => rfl
  | k + 1 => by simp [rowD, rowL]
theorem rowD_bd {ws : List (Option Int)} (hw : ∀ v, some v ∈ ws → 0 ≤ v ∧ v ≤ 19) : ∀ k v, some v ∈ rowD ws k → 0 ≤ v ∧ v ≤ 19 * k
  | 0, v, h => by
    simp only [rowD, List.mem_cons, Option.some.injEq, List.not_mem_nil, or_false] at h
    omega
  | k + 1, v, h => by
    obtain ⟨j, _, e⟩ := List.mem_map.mp h
    have lead : ∀ u, leadO ws (rowD ws k) j u = some v → 0 ≤ v ∧ v ≤ 19 * ((k + 1 : Nat) : Int) := by
      intro u hu
      obtain ⟨x, w, h1, h2, rfl⟩ := addO_some hu
      have b1 := rowD_bd hw k x (getD_mem h1)
      have b2 := hw w (getD_mem h2)
      omega
    unfold nextO at e
    rcases maxO_some e with e | e
    · rcases maxO_some e with e | e
      · exact lead 0 e
      · exact lead 1 e
    · exact lead 2 e
theorem leads_bd {ws : List (Option Int)} (hw : ∀ v, some v ∈ ws → 0 ≤ v ∧ v ≤ 19) {k : Nat} (hk : k < 3) (j : Nat) : Bd (leadsL ws (rowD ws k) j 3) := by
  intro v h
  obtain ⟨u, _, hu⟩ := List.mem_map.mp h
  obtain ⟨x, w, h1, h2, rfl⟩ := addO_some hu
  have b1 := rowD_bd hw k x (getD_mem h1)
  have b2 := hw w (getD_mem h2)
  omega
noncomputable abbrev Rw := Addr × List Value × Nat
inductive RowsAre (ws : List (Option Int)) : Nat → List Rw → Prop
  | zero {a v n} : OvL (rowD ws 0) v → RowsAre ws 0 [(a, v, n)]
  | succ {k a v n r} : RowsAre ws k r → OvL (rowD ws (k + 1)) v → RowsAre ws (k + 1) ((a, v, n) :: r)
theorem RowsAre.len {ws : List (Option Int)} : ∀ {k r}, RowsAre ws k r → r.length = k + 1
  | _, _, .zero _ => rfl
  | _, _, .succ h _ => congrArg (· + 1) h.len
theorem RowsAre.head {ws : List (Option Int)} {k : Nat} {r : List Rw} (h : RowsAre ws k r) : ∃ a v n r', r = (a, v, n) :: r' ∧ OvL (rowD ws k) v := by
  cases h with
  | zero h => exact ⟨_, _, _, _, rfl, h⟩
  | succ _ h => exact ⟨_, _, _, _, rfl, h⟩
noncomputable def rwLed (r : List Rw) : Led := r.map fun x => (x.1, listOf x.2.1.toArray x.2.2)
noncomputable def rwVals (r : List Rw) : List Value := (r.map fun x => Value.ref x.1).reverse
inductive JS (ws : List (Option Int)) (L wk : Addr) (R : Led) (i : Nat) (m₁ : Names) (nw : Led) : Prop
  | mk : ∀ o2 c2 ps codes rws wkn, (o2.data = .cell c2) → (TabSt leadDef qLead ps codes) → (RowsAre ws i rws) → ((∀ p ∈ [(Str.ofString "walks", Value.ref wk)], m₁ p.1 = some p.2)) → (nw = (L + 1 + 1, o2) :: (107, tabObj ps) :: (codes ++ (wk, listOf (rwVals rws).toArray wkn) :: (rwLed rws ++ R))) → (Nd nw) → JS ws L wk R i m₁ nw

theorem permL {α : Type} {I c t k : α} {cs rs : List α} : (I :: c :: t :: (cs ++ k :: rs)).Perm (c :: t :: (cs ++ k :: I :: rs)) := by
  have h := (List.perm_middle (l₁ := c :: t :: (cs ++ [k])) (l₂ := rs) (a := I)).symm
  simpa using h
section
variable {w : World} {p : Program} {loose : List Str} {mean : ExcName → Option Value} {mg mb : Str → Option Value}
theorem t_steps (ws : List (Option Int)) (wD wk : Addr) (wv : List Value) (wn wkn : Nat) (o1 o2 : Obj) (c2 : Option Value) (ps : Array Value) (codes R : Led) (rws : List Rw) (dp un : Nat) (gd : Option (List Code)) (fa : Addr) (ccd : Value) (outer : List Env) (A₀ : Around) (base h₀ : Heap) (L : Addr) (m : Str → Option Value) (s : Shared) (Q : Flow → Shared → Prop) (E : Value → Shared → Prop) (restS : List Stmt)
    (B : Below A₀ base outer h₀) (F : Fr h₀ L s.heap m) (X : (Mine.hd.heap_39 w.params).In h₀) (T : Top p loose mean mg mb h₀) (C : CodeHd base 111 107) (S : TabSt leadDef qLead ps codes)
    (N : News h₀ L s.heap ((L + 1 + 1, o2) :: (107, tabObj ps) :: (codes ++ (wk, listOf (rwVals rws).toArray wkn) :: (rwLed rws ++ R)))) (nd : Nd ((L + 1 + 1, o2) :: (107, tabObj ps) :: (codes ++ (wk, listOf (rwVals rws).toArray wkn) :: (rwLed rws ++ R))))
    (hd : dp + 300 < recursionLimit) (hu : un + 3000 < cLine) (hE : PassesOwn (model PySem.Challenge.rw_wo0033_01.row.prog w) (lawA dp un gd L fa ccd outer) (lawEnv L fa ccd) E)
    (m1 : (L + 1, o1) ∈ R) (d1 : o1.data = .cell (some (.ref wD))) (d2 : o2.data = .cell c2) (m3 : (wD, listOf wv.toArray wn) ∈ R)
    (hw : OvL ws wv) (hwl : ws.length = 9) (hwb : ∀ v, some v ∈ ws → 0 ≤ v ∧ v ≤ 19) (hrw : RowsAre ws 0 rws)
    (hk : ∀ p ∈ [(Str.ofString "walks", Value.ref wk)], m p.1 = some p.2)
    (hK : ∀ o2' c2' ps' codes' rws' wkn' m' h' tk', o2'.data = .cell c2' → TabSt leadDef qLead ps' codes' → RowsAre ws 3 rws' → (∀ p ∈ [(Str.ofString "walks", Value.ref wk)], m' p.1 = some p.2) → Fr h₀ L h' m' →
      News h₀ L h' ((L + 1 + 1, o2') :: (107, tabObj ps') :: (codes' ++ (wk, listOf (rwVals rws').toArray wkn') :: (rwLed rws' ++ R))) → Nd ((L + 1 + 1, o2') :: (107, tabObj ps') :: (codes' ++ (wk, listOf (rwVals rws').toArray wkn') :: (rwLed rws' ++ R))) →
      wpAny (model PySem.Challenge.rw_wo0033_01.row.prog w) (lawA dp un gd L fa ccd outer) (execs restS (lawEnv L fa ccd)) Q E { s with heap := h', toks := tk' }) :
    wpAny (model PySem.Challenge.rw_wo0033_01.row.prog w) (lawA dp un gd L fa ccd outer) (execs (lawS 2 :: restS) (lawEnv L fa ccd)) Q E s := by
  revert X; k_fill; intro X
  have hE0 := hE
  change wpAny _ (ktrTop dp un gd _ ⟨_, _, _, _, _⟩ L fa ccd _ outer) (execs (.For _ _ stepBody _ _ :: restS) (envX _ ⟨_, _, _, _, _⟩ _ _ _ _)) _ _ _
  change PassesOwn _ (ktrTop dp un gd _ ⟨_, _, _, _, _⟩ L fa ccd _ outer) (envX _ ⟨_, _, _, _, _⟩ _ _ _ _) _ at hE
  replace F := fr_kst hk F
  dsimp only [kstB] at F
  iterate 1 (first | (k_unfold; (try dsimp only)) | (k_end; wrow_close) | (walk1; (try dsimp only)) | (dsimp only; walk1; (try dsimp only)) | (leave1; walk_say "STEP leave1"; try dsimp only))
  k_dflt (refine For_invV h₀ (by rfl) (by rfl) ?_ (by intro _; rfl) hE)
  iterate 1 (first | (k_unfold; (try dsimp only)) | (k_end; wrow_close) | (walk1; (try dsimp only)) | (dsimp only; walk1; (try dsimp only)) | (leave1; walk_say "STEP leave1"; try dsimp only))
  (first | ((with_reducible ((k_here; (with_reducible show wpAny _ _ (eval _ (envX _ _ _ _ _ _)) _ _ _); k_dflt (first | (refine' nameX_L ?Fz232 ?vz232 ?_ ?az232 ?bz232; (case Fz232 => k_asm); (case az232 => rfl); (case bz232 => rfl); (case vz232 => rfl); k_whole) | (refine' nameX_C ?Nz232 ?cz232 ?mz232 ?dz232 ?_ ?az232 ?bz232; (case az232 => rfl); (case bz232 => rfl); (case Nz232 => k_asm); (case cz232 => rfl); (case mz232 => walk_at "my mem"); (case dz232 => assumption); k_whole) | (refine' nameX_K ?Fz232 ?Xz232 ?Tz232 ?ez232 ?_ ?az232 ?bz232; (case Fz232 => k_asm); (case Xz232 => k_asm); (case Tz232 => k_asm); (case az232 => rfl); (case bz232 => rfl); (case ez232 => k_is); k_whole) | (refine' nameX_B ?Fz232 ?Xz232 ?Tz232 ?ez232 ?vz232 ?nz232 ?_ ?az232 ?bz232; (case Fz232 => k_asm); (case Xz232 => k_asm); (case Tz232 => k_asm); (case az232 => rfl); (case bz232 => rfl); (case ez232 => k_is); (case vz232 => boot_fast); (case nz232 => decide); k_whole))))); (try dsimp only)) | (dsimp only; (with_reducible ((k_here; (with_reducible show wpAny _ _ (eval _ (envX _ _ _ _ _ _)) _ _ _); k_dflt (first | (refine' nameX_L ?Fz232 ?vz232 ?_ ?az232 ?bz232; (case Fz232 => k_asm); (case az232 => rfl); (case bz232 => rfl); (case vz232 => rfl); k_whole) | (refine' nameX_C ?Nz232 ?cz232 ?mz232 ?dz232 ?_ ?az232 ?bz232; (case az232 => rfl); (case bz232 => rfl); (case Nz232 => k_asm); (case cz232 => rfl); (case mz232 => walk_at "my mem"); (case dz232 => assumption); k_whole) | (refine' nameX_K ?Fz232 ?Xz232 ?Tz232 ?ez232 ?_ ?az232 ?bz232; (case Fz232 => k_asm); (case Xz232 => k_asm); (case Tz232 => k_asm); (case az232 => rfl); (case bz232 => rfl); (case ez232 => k_is); k_whole) | (refine' nameX_B ?Fz232 ?Xz232 ?Tz232 ?ez232 ?vz232 ?nz232 ?_ ?az232 ?bz232; (case Fz232 => k_asm); (case Xz232 => k_asm); (case Tz232 => k_asm); (case az232 => rfl); (case bz232 => rfl); (case ez232 => k_is); (case vz232 => boot_fast); (case nz232 => decide); k_whole))))); (try dsimp only)))
  iterate 5 (first | (k_unfold; (try dsimp only)) | (k_end; wrow_close) | (walk1; (try dsimp only)) | (dsimp only; walk1; (try dsimp only)) | (leave1; walk_say "STEP leave1"; try dsimp only))
  rename Fr _ _ _ _ => F3
  rename News _ _ _ _ => N3
  rename IsRange _ _ _ _ _ _ _ _ => hR
  refine loopRange (n := 3) (JS ws L wk R) rfl hR (by decide) (by rfl) F3 N3 ?h0 ?turn ?done
  case h0 =>
    refine ⟨o2, c2, ps, codes, rws, wkn, d2, S, hrw, ?hn, rfl, nd⟩
    case hn => kst_all
  case turn =>
    rintro i m₁ nw t h tk I oI hi ⟨o2, c2, ps, codes, rws, wkn, d2, S, hrow, hk, hnw, nd⟩ hoff F9 N9
    subst hnw
    have N8 := news_perm N9 permL
    have nd8 := (Nd.cons (a := (I, oI)) hoff nd).perm permL
    have hlen := hrow.len
    obtain ⟨rA, rv, rn, r', hr0, hrv⟩ := hrow.head
    have hvl : (rwVals rws).length = i + 1 := by simp [rwVals, hlen]
    have hlast : (rwVals rws)[(rwVals rws).length - 1]? = some (.ref rA) := by rw [hr0]; simp [rwVals]
    have m5 : (rA, listOf rv.toArray rn) ∈ rwLed rws := by rw [hr0]; exact .head _
    refine t_step ws (rowD ws i) wD wk rA wv (rwVals rws) rv wn wkn rn o1 o2 c2 ps codes ((I, oI) :: (rwLed rws ++ R)) dp un gd fa ccd outer A₀ base h₀ L _ _ _ E B F9 X T C S N8 nd8 hd hu hE0 (.tail _ (List.mem_append_right _ m1)) d1 d2 (.tail _ (List.mem_append_right _ m3)) (.tail _ (List.mem_append_left _ m5)) hw hwl hrv (rowD_len ws i) hlast (by omega) (by omega) (fun j hj => leads_bd hwb hi j) ?hk ?hQ
    case hk => exact List.forall_mem_cons.mpr ⟨hk _ (by simp), List.forall_mem_nil _⟩
    case hQ =>
      intro rwA rwv rwn o2' c2' ps' codes' m' h' tk' hrw' d2' S' hk' F' N' nd'
      have N7 := news_perm N' permJ.symm
      have nd7 := nd'.perm permJ.symm
      have e9 : rwVals rws ++ [Value.ref rwA] = rwVals ((rwA, rwv, rwn) :: rws) := by simp [rwVals]
      rw [e9] at N7 nd7
      exact ⟨h', tk', m', _, rfl, F', N7, fun p hp e => nd7.off p hp (List.mem_singleton.mp e), o2', c2', ps', codes', (rwA, rwv, rwn) :: rws, _, d2', S', .succ hrow hrw', hk', rfl, nd7.tail⟩
  case done =>
    rintro m' nw' h' tk' ⟨o2, c2, ps, codes, rws, wkn, d2, S, hrow, hk, hnw, nd⟩ F' N'
    subst hnw
    exact hK o2 c2 ps codes rws wkn m' h' tk' d2 S hrow hk F' N' nd
end

end
section
-- L12
section
example : True := by w_top off; exact trivial
noncomputable def mvBody : List Stmt := bodyOf (lawS 4)
noncomputable def mkBody : List Stmt := bodyOf (nth mvBody 1)
noncomputable def shareV (o3 ok kI q : Int) : Int := 6 * q + (6 : Int).fdiv (3 - kI) * (o3 - ok + 60 * (3 - kI) - (3 - kI) * q) - 360
noncomputable def bothO : Option Int → Option Int → Int → Option Int
  | some o3, some ok, kI => some (shareV o3 ok kI ((o3 - ok + 60 * (3 - kI)) / (3 - kI)))
  | _, _, _ => none
theorem bits3 {b : Int} (h1 : 1 ≤ b) (h2 : b ≤ 3) : 1 ≤ Builtin.Int.intBits b ∧ Builtin.Int.intBits b ≤ 2 := by
  obtain rfl | rfl | rfl := oneThreeI h1 h2
  all_goals decide
theorem div6 {b : Int} (h1 : 1 ≤ b) (h2 : b ≤ 3) : 2 ≤ (6 : Int).fdiv b ∧ (6 : Int).fdiv b ≤ 6 := by
  obtain rfl | rfl | rfl := oneThreeI h1 h2
  all_goals decide
theorem dn_ok {a : Int} {n : Nat} (ha : 0 < a) (ha' : a < 1000000) (h1 : 1 ≤ n) (h2 : n ≤ 2) : ∃ Dn : Nat, ((Builtin.Int.intBits a : Int) + (n : Int) - 1).fdiv (n : Int) = Dn ∧ 1 ≤ Dn ∧ Dn ≤ 64 := by
  have u : Builtin.Int.intBits a ≤ 20 := by rw [intBits_le_iff]; have : a.natAbs < 2 ^ 20 := nabK (Int.le_of_lt ha) ha' (by decide)
                                            exact this
  have l : ¬ Builtin.Int.intBits a ≤ 0 := by rw [intBits_le_iff]; omega
  rw [Int.fdiv_eq_ediv_of_nonneg _ (Int.natCast_nonneg n)]
  obtain rfl | rfl := oneTwo h1 h2
  · exact ⟨Builtin.Int.intBits a, dn1 _, Nat.lt_of_not_le l, Nat.le_trans u (by decide)⟩
  · exact ⟨(Builtin.Int.intBits a + 1) / 2, dn2 _, Nat.div_pos (Nat.succ_le_succ (Nat.lt_of_not_le l)) (by decide), Nat.le_trans (Nat.div_le_self _ _) (Nat.le_trans (Nat.succ_le_succ u) (by decide))⟩
theorem offApp {a b : Led} {P : List Addr} (ha : OwnOff a P) (hb : OwnOff b P) : OwnOff (a ++ b) P := fun p hp => (List.mem_append.mp hp).elim (ha p) (hb p)
theorem offCons {a : Addr × Obj} {b : Led} {P : Addr} (ha : a.1 ≠ P) (hb : OwnOff b [P]) : OwnOff (a :: b) [P] := fun p hp => by
  rcases List.mem_cons.mp hp with rfl | hp
  · intro x hx; rw [List.mem_singleton.mp hx]; exact ha
  · exact hb p hp
theorem permM {α : Type} {s t u : α} {c d r : List α} : (s :: t :: (c ++ u :: (d ++ r))).Perm (t :: (c ++ u :: (d ++ s :: r))) := by
  have h := (List.perm_middle (l₁ := t :: (c ++ u :: d)) (l₂ := r) (a := s)).symm
  simpa using h
section
variable {w : World} {p : Program} {loose : List Str} {mean : ExcName → Option Value} {mg mb : Str → Option Value}
theorem t_k (kI v : Int) (tk tv : Tok) (o3 ok : Option Int) (t3 t4 : Tok) (wk mA shA a3 ak : Addr) (wkv v3 vk sv : List Value) (wkn n3 nk sn : Nat) (ps1 ps2 : Array Value) (codes1 codes2 rest : Led) (dp un : Nat) (gd : Option (List Code)) (fa : Addr) (ccd : Value) (outer : List Env) (A₀ : Around) (base h₀ : Heap) (L : Addr) (m : Str → Option Value) (s : Shared) (Q : Flow → Shared → Prop) (E : Value → Shared → Prop)
    (B : Below A₀ base outer h₀) (F : Fr h₀ L s.heap m) (X : (Mine.hd.heap_39 w.params).In h₀) (T : Top p loose mean mg mb h₀) (C1 : CodeHd base 71 67) (C2 : CodeHd base 78 74) (S1 : TabSt i2dInner qI2d ps1 codes1) (S2 : TabSt d2iInner qD2i ps2 codes2)
    (N : News h₀ L s.heap ((shA, listOf sv.toArray sn) :: (67, tabObj ps1) :: (codes1 ++ (74, tabObj ps2) :: (codes2 ++ rest))))
    (O1 : OwnOff codes1 [67]) (O2 : OwnOff codes2 [67]) (O3 : OwnOff codes2 [74]) (O4 : OwnOff rest [67]) (O5 : OwnOff rest [74]) (O6 : (67 : Nat) ≠ shA) (O7 : (74 : Nat) ≠ shA) (O8 : ∀ p ∈ rest, p.1 ≠ shA)
    (hd : dp + 300 < recursionLimit) (hu : un + 3000 < cLine)
    (m1 : (wk, listOf wkv.toArray wkn) ∈ rest) (m2 : (a3, listOf v3.toArray n3) ∈ rest) (m3 : (ak, listOf vk.toArray nk) ∈ rest)
    (hk0 : 0 ≤ kI) (hk3 : kI < 3) (hv0 : 0 ≤ v) (hv3 : v < 3) (hwl : wkv.length = 4) (hw3 : wkv[3]? = some (.ref a3)) (hwk : wkv[kI.toNat]? = some (.ref ak)) (h3l : v3.length = 3) (hkl : vk.length = 3) (h3 : v3[v.toNat]? = some (ov o3 t3)) (h4 : vk[v.toNat]? = some (ov ok t4)) (hsl : sv.length ≤ 100)
    (b3 : ∀ x, o3 = some x → 0 ≤ x ∧ x ≤ 57) (bk : ∀ x, ok = some x → 0 ≤ x ∧ x ≤ 57)
    (hk : ∀ p ∈ [(Str.ofString "k", Value.int kI tk), (Str.ofString "walks", Value.ref wk), (Str.ofString "means", Value.ref mA), (Str.ofString "v", Value.int v tv), (Str.ofString "shares", Value.ref shA)], m p.1 = some p.2)
    (hQ : ∀ sv' sn' ps1' ps2' codes1' codes2' m' h' tk', (match bothO o3 ok kI with | none => sv' = sv | some x => ∃ t, sv' = sv ++ [Value.int x t]) → TabSt i2dInner qI2d ps1' codes1' → TabSt d2iInner qD2i ps2' codes2' → OwnOff codes1' [67] → OwnOff codes2' [67] → OwnOff codes2' [74] →
      (∀ p ∈ [(Str.ofString "walks", Value.ref wk), (Str.ofString "means", Value.ref mA), (Str.ofString "v", Value.int v tv), (Str.ofString "shares", Value.ref shA)], m' p.1 = some p.2) → Fr h₀ L h' m' → News h₀ L h' ((shA, listOf sv'.toArray sn') :: (67, tabObj ps1') :: (codes1' ++ (74, tabObj ps2') :: (codes2' ++ rest))) → Q .next { s with heap := h', toks := tk' }) :
    wpAny (model PySem.Challenge.rw_wo0033_01.row.prog w) (lawA dp un gd L fa ccd outer) (execs mkBody (lawEnv L fa ccd)) Q E s := by
  revert X; k_fill; intro X
  change wpAny _ (ktrTop dp un gd _ ⟨_, _, _, _, _⟩ L fa ccd _ outer) (execs (.If _ _ _ _ :: []) (envX _ ⟨_, _, _, _, _⟩ _ _ _ _)) _ _ _
  replace F := fr_kst hk F
  dsimp only [kstB] at F
  have hw3' : wkv[(3 : Int).toNat]? = some (Value.ref a3) := hw3
  iterate 6 (first | (k_unfold; (try dsimp only)) | (k_end; wrow_close) | (walk1; (try dsimp only)) | (dsimp only; walk1; (try dsimp only)) | (leave1; walk_say "STEP leave1"; try dsimp only))
  (first | ((with_reducible ((k_here; (with_reducible show wpAny _ _ (eval _ (envX _ _ _ _ _ _)) _ _ _); k_dflt (first | (refine' nameX_L ?Fz233 ?vz233 ?_ ?az233 ?bz233; (case Fz233 => k_asm); (case az233 => rfl); (case bz233 => rfl); (case vz233 => rfl); k_whole) | (refine' nameX_C ?Nz233 ?cz233 ?mz233 ?dz233 ?_ ?az233 ?bz233; (case az233 => rfl); (case bz233 => rfl); (case Nz233 => k_asm); (case cz233 => rfl); (case mz233 => walk_at "my mem"); (case dz233 => assumption); k_whole) | (refine' nameX_K ?Fz233 ?Xz233 ?Tz233 ?ez233 ?_ ?az233 ?bz233; (case Fz233 => k_asm); (case Xz233 => k_asm); (case Tz233 => k_asm); (case az233 => rfl); (case bz233 => rfl); (case ez233 => k_is); k_whole) | (refine' nameX_B ?Fz233 ?Xz233 ?Tz233 ?ez233 ?vz233 ?nz233 ?_ ?az233 ?bz233; (case Fz233 => k_asm); (case Xz233 => k_asm); (case Tz233 => k_asm); (case az233 => rfl); (case bz233 => rfl); (case ez233 => k_is); (case vz233 => boot_fast); (case nz233 => decide); k_whole))))); (try dsimp only)) | (dsimp only; (with_reducible ((k_here; (with_reducible show wpAny _ _ (eval _ (envX _ _ _ _ _ _)) _ _ _); k_dflt (first | (refine' nameX_L ?Fz233 ?vz233 ?_ ?az233 ?bz233; (case Fz233 => k_asm); (case az233 => rfl); (case bz233 => rfl); (case vz233 => rfl); k_whole) | (refine' nameX_C ?Nz233 ?cz233 ?mz233 ?dz233 ?_ ?az233 ?bz233; (case az233 => rfl); (case bz233 => rfl); (case Nz233 => k_asm); (case cz233 => rfl); (case mz233 => walk_at "my mem"); (case dz233 => assumption); k_whole) | (refine' nameX_K ?Fz233 ?Xz233 ?Tz233 ?ez233 ?_ ?az233 ?bz233; (case Fz233 => k_asm); (case Xz233 => k_asm); (case Tz233 => k_asm); (case az233 => rfl); (case bz233 => rfl); (case ez233 => k_is); k_whole) | (refine' nameX_B ?Fz233 ?Xz233 ?Tz233 ?ez233 ?vz233 ?nz233 ?_ ?az233 ?bz233; (case Fz233 => k_asm); (case Xz233 => k_asm); (case Tz233 => k_asm); (case az233 => rfl); (case bz233 => rfl); (case ez233 => k_is); (case vz233 => boot_fast); (case nz233 => decide); k_whole))))); (try dsimp only)))
  iterate 1 (first | (k_unfold; (try dsimp only)) | (k_end; wrow_close) | (walk1; (try dsimp only)) | (dsimp only; walk1; (try dsimp only)) | (leave1; walk_say "STEP leave1"; try dsimp only))
  (first | ((with_reducible (((k_here; (with_reducible show wpAny _ _ (subscriptTail _ _ (Value.ref _) (Value.int _ _)) _ _ _); k_dflt (first | refine my_item (by k_asm) (by walk_at "my mem") (by omega) (by omega) (by assumption) ?_ | refine my_last (by k_asm) (by walk_at "my mem") (by omega) (by omega) (by assumption) ?_))))); (try dsimp only)) | (dsimp only; (with_reducible (((k_here; (with_reducible show wpAny _ _ (subscriptTail _ _ (Value.ref _) (Value.int _ _)) _ _ _); k_dflt (first | refine my_item (by k_asm) (by walk_at "my mem") (by omega) (by omega) (by assumption) ?_ | refine my_last (by k_asm) (by walk_at "my mem") (by omega) (by omega) (by assumption) ?_))))); (try dsimp only)))
  (first | ((with_reducible ((k_here; (with_reducible show wpAny _ _ (eval _ (envX _ _ _ _ _ _)) _ _ _); k_dflt (first | (refine' nameX_L ?Fz235 ?vz235 ?_ ?az235 ?bz235; (case Fz235 => k_asm); (case az235 => rfl); (case bz235 => rfl); (case vz235 => rfl); k_whole) | (refine' nameX_C ?Nz235 ?cz235 ?mz235 ?dz235 ?_ ?az235 ?bz235; (case az235 => rfl); (case bz235 => rfl); (case Nz235 => k_asm); (case cz235 => rfl); (case mz235 => walk_at "my mem"); (case dz235 => assumption); k_whole) | (refine' nameX_K ?Fz235 ?Xz235 ?Tz235 ?ez235 ?_ ?az235 ?bz235; (case Fz235 => k_asm); (case Xz235 => k_asm); (case Tz235 => k_asm); (case az235 => rfl); (case bz235 => rfl); (case ez235 => k_is); k_whole) | (refine' nameX_B ?Fz235 ?Xz235 ?Tz235 ?ez235 ?vz235 ?nz235 ?_ ?az235 ?bz235; (case Fz235 => k_asm); (case Xz235 => k_asm); (case Tz235 => k_asm); (case az235 => rfl); (case bz235 => rfl); (case ez235 => k_is); (case vz235 => boot_fast); (case nz235 => decide); k_whole))))); (try dsimp only)) | (dsimp only; (with_reducible ((k_here; (with_reducible show wpAny _ _ (eval _ (envX _ _ _ _ _ _)) _ _ _); k_dflt (first | (refine' nameX_L ?Fz235 ?vz235 ?_ ?az235 ?bz235; (case Fz235 => k_asm); (case az235 => rfl); (case bz235 => rfl); (case vz235 => rfl); k_whole) | (refine' nameX_C ?Nz235 ?cz235 ?mz235 ?dz235 ?_ ?az235 ?bz235; (case az235 => rfl); (case bz235 => rfl); (case Nz235 => k_asm); (case cz235 => rfl); (case mz235 => walk_at "my mem"); (case dz235 => assumption); k_whole) | (refine' nameX_K ?Fz235 ?Xz235 ?Tz235 ?ez235 ?_ ?az235 ?bz235; (case Fz235 => k_asm); (case Xz235 => k_asm); (case Tz235 => k_asm); (case az235 => rfl); (case bz235 => rfl); (case ez235 => k_is); k_whole) | (refine' nameX_B ?Fz235 ?Xz235 ?Tz235 ?ez235 ?vz235 ?nz235 ?_ ?az235 ?bz235; (case Fz235 => k_asm); (case Xz235 => k_asm); (case Tz235 => k_asm); (case az235 => rfl); (case bz235 => rfl); (case ez235 => k_is); (case vz235 => boot_fast); (case nz235 => decide); k_whole))))); (try dsimp only)))
  iterate 1 (first | (k_unfold; (try dsimp only)) | (k_end; wrow_close) | (walk1; (try dsimp only)) | (dsimp only; walk1; (try dsimp only)) | (leave1; walk_say "STEP leave1"; try dsimp only))
  (first | ((with_reducible (((k_here; (with_reducible show wpAny _ _ (subscriptTail _ _ (Value.ref _) (Value.int _ _)) _ _ _); k_dflt (first | refine my_item (by k_asm) (by walk_at "my mem") (by omega) (by omega) (by assumption) ?_ | refine my_last (by k_asm) (by walk_at "my mem") (by omega) (by omega) (by assumption) ?_))))); (try dsimp only)) | (dsimp only; (with_reducible (((k_here; (with_reducible show wpAny _ _ (subscriptTail _ _ (Value.ref _) (Value.int _ _)) _ _ _); k_dflt (first | refine my_item (by k_asm) (by walk_at "my mem") (by omega) (by omega) (by assumption) ?_ | refine my_last (by k_asm) (by walk_at "my mem") (by omega) (by omega) (by assumption) ?_))))); (try dsimp only)))
  iterate 1 (first | (k_unfold; (try dsimp only)) | (k_end; wrow_close) | (walk1; (try dsimp only)) | (dsimp only; walk1; (try dsimp only)) | (leave1; walk_say "STEP leave1"; try dsimp only))
  cases o3 with
  | none =>
    dsimp only [ov] at h3 ⊢
    iterate 7 (first | (k_unfold; (try dsimp only)) | (k_end; wrow_close) | (walk1; (try dsimp only)) | (dsimp only; walk1; (try dsimp only)) | (leave1; walk_say "STEP leave1"; try dsimp only))
    rename Fr _ _ _ _ => F8
    rename News _ _ _ _ => N8
    refine hQ sv sn ps1 ps2 codes1 codes2 _ _ _ rfl S1 S2 O1 O2 O3 ?hn F8 N8
    case hn => kst_all
  | some o3 =>
    obtain ⟨b31, b32⟩ := b3 o3 rfl
    dsimp only [ov] at h3 ⊢
    iterate 7 (first | (k_unfold; (try dsimp only)) | (k_end; wrow_close) | (walk1; (try dsimp only)) | (dsimp only; walk1; (try dsimp only)) | (leave1; walk_say "STEP leave1"; try dsimp only))
    (first | ((with_reducible ((k_here; (with_reducible show wpAny _ _ (eval _ (envX _ _ _ _ _ _)) _ _ _); k_dflt (first | (refine' nameX_L ?Fz237 ?vz237 ?_ ?az237 ?bz237; (case Fz237 => k_asm); (case az237 => rfl); (case bz237 => rfl); (case vz237 => rfl); k_whole) | (refine' nameX_C ?Nz237 ?cz237 ?mz237 ?dz237 ?_ ?az237 ?bz237; (case az237 => rfl); (case bz237 => rfl); (case Nz237 => k_asm); (case cz237 => rfl); (case mz237 => walk_at "my mem"); (case dz237 => assumption); k_whole) | (refine' nameX_K ?Fz237 ?Xz237 ?Tz237 ?ez237 ?_ ?az237 ?bz237; (case Fz237 => k_asm); (case Xz237 => k_asm); (case Tz237 => k_asm); (case az237 => rfl); (case bz237 => rfl); (case ez237 => k_is); k_whole) | (refine' nameX_B ?Fz237 ?Xz237 ?Tz237 ?ez237 ?vz237 ?nz237 ?_ ?az237 ?bz237; (case Fz237 => k_asm); (case Xz237 => k_asm); (case Tz237 => k_asm); (case az237 => rfl); (case bz237 => rfl); (case ez237 => k_is); (case vz237 => boot_fast); (case nz237 => decide); k_whole))))); (try dsimp only)) | (dsimp only; (with_reducible ((k_here; (with_reducible show wpAny _ _ (eval _ (envX _ _ _ _ _ _)) _ _ _); k_dflt (first | (refine' nameX_L ?Fz237 ?vz237 ?_ ?az237 ?bz237; (case Fz237 => k_asm); (case az237 => rfl); (case bz237 => rfl); (case vz237 => rfl); k_whole) | (refine' nameX_C ?Nz237 ?cz237 ?mz237 ?dz237 ?_ ?az237 ?bz237; (case az237 => rfl); (case bz237 => rfl); (case Nz237 => k_asm); (case cz237 => rfl); (case mz237 => walk_at "my mem"); (case dz237 => assumption); k_whole) | (refine' nameX_K ?Fz237 ?Xz237 ?Tz237 ?ez237 ?_ ?az237 ?bz237; (case Fz237 => k_asm); (case Xz237 => k_asm); (case Tz237 => k_asm); (case az237 => rfl); (case bz237 => rfl); (case ez237 => k_is); k_whole) | (refine' nameX_B ?Fz237 ?Xz237 ?Tz237 ?ez237 ?vz237 ?nz237 ?_ ?az237 ?bz237; (case Fz237 => k_asm); (case Xz237 => k_asm); (case Tz237 => k_asm); (case az237 => rfl); (case bz237 => rfl); (case ez237 => k_is); (case vz237 => boot_fast); (case nz237 => decide); k_whole))))); (try dsimp only)))
    (first | ((with_reducible ((k_here; (with_reducible show wpAny _ _ (eval _ (envX _ _ _ _ _ _)) _ _ _); k_dflt (first | (refine' nameX_L ?Fz238 ?vz238 ?_ ?az238 ?bz238; (case Fz238 => k_asm); (case az238 => rfl); (case bz238 => rfl); (case vz238 => rfl); k_whole) | (refine' nameX_C ?Nz238 ?cz238 ?mz238 ?dz238 ?_ ?az238 ?bz238; (case az238 => rfl); (case bz238 => rfl); (case Nz238 => k_asm); (case cz238 => rfl); (case mz238 => walk_at "my mem"); (case dz238 => assumption); k_whole) | (refine' nameX_K ?Fz238 ?Xz238 ?Tz238 ?ez238 ?_ ?az238 ?bz238; (case Fz238 => k_asm); (case Xz238 => k_asm); (case Tz238 => k_asm); (case az238 => rfl); (case bz238 => rfl); (case ez238 => k_is); k_whole) | (refine' nameX_B ?Fz238 ?Xz238 ?Tz238 ?ez238 ?vz238 ?nz238 ?_ ?az238 ?bz238; (case Fz238 => k_asm); (case Xz238 => k_asm); (case Tz238 => k_asm); (case az238 => rfl); (case bz238 => rfl); (case ez238 => k_is); (case vz238 => boot_fast); (case nz238 => decide); k_whole))))); (try dsimp only)) | (dsimp only; (with_reducible ((k_here; (with_reducible show wpAny _ _ (eval _ (envX _ _ _ _ _ _)) _ _ _); k_dflt (first | (refine' nameX_L ?Fz238 ?vz238 ?_ ?az238 ?bz238; (case Fz238 => k_asm); (case az238 => rfl); (case bz238 => rfl); (case vz238 => rfl); k_whole) | (refine' nameX_C ?Nz238 ?cz238 ?mz238 ?dz238 ?_ ?az238 ?bz238; (case az238 => rfl); (case bz238 => rfl); (case Nz238 => k_asm); (case cz238 => rfl); (case mz238 => walk_at "my mem"); (case dz238 => assumption); k_whole) | (refine' nameX_K ?Fz238 ?Xz238 ?Tz238 ?ez238 ?_ ?az238 ?bz238; (case Fz238 => k_asm); (case Xz238 => k_asm); (case Tz238 => k_asm); (case az238 => rfl); (case bz238 => rfl); (case ez238 => k_is); k_whole) | (refine' nameX_B ?Fz238 ?Xz238 ?Tz238 ?ez238 ?vz238 ?nz238 ?_ ?az238 ?bz238; (case Fz238 => k_asm); (case Xz238 => k_asm); (case Tz238 => k_asm); (case az238 => rfl); (case bz238 => rfl); (case ez238 => k_is); (case vz238 => boot_fast); (case nz238 => decide); k_whole))))); (try dsimp only)))
    (first | ((with_reducible (((k_here; (with_reducible show wpAny _ _ (subscriptTail _ _ (Value.ref _) (Value.int _ _)) _ _ _); k_dflt (first | refine my_item (by k_asm) (by walk_at "my mem") (by omega) (by omega) (by assumption) ?_ | refine my_last (by k_asm) (by walk_at "my mem") (by omega) (by omega) (by assumption) ?_))))); (try dsimp only)) | (dsimp only; (with_reducible (((k_here; (with_reducible show wpAny _ _ (subscriptTail _ _ (Value.ref _) (Value.int _ _)) _ _ _); k_dflt (first | refine my_item (by k_asm) (by walk_at "my mem") (by omega) (by omega) (by assumption) ?_ | refine my_last (by k_asm) (by walk_at "my mem") (by omega) (by omega) (by assumption) ?_))))); (try dsimp only)))
    (first | ((with_reducible ((k_here; (with_reducible show wpAny _ _ (eval _ (envX _ _ _ _ _ _)) _ _ _); k_dflt (first | (refine' nameX_L ?Fz240 ?vz240 ?_ ?az240 ?bz240; (case Fz240 => k_asm); (case az240 => rfl); (case bz240 => rfl); (case vz240 => rfl); k_whole) | (refine' nameX_C ?Nz240 ?cz240 ?mz240 ?dz240 ?_ ?az240 ?bz240; (case az240 => rfl); (case bz240 => rfl); (case Nz240 => k_asm); (case cz240 => rfl); (case mz240 => walk_at "my mem"); (case dz240 => assumption); k_whole) | (refine' nameX_K ?Fz240 ?Xz240 ?Tz240 ?ez240 ?_ ?az240 ?bz240; (case Fz240 => k_asm); (case Xz240 => k_asm); (case Tz240 => k_asm); (case az240 => rfl); (case bz240 => rfl); (case ez240 => k_is); k_whole) | (refine' nameX_B ?Fz240 ?Xz240 ?Tz240 ?ez240 ?vz240 ?nz240 ?_ ?az240 ?bz240; (case Fz240 => k_asm); (case Xz240 => k_asm); (case Tz240 => k_asm); (case az240 => rfl); (case bz240 => rfl); (case ez240 => k_is); (case vz240 => boot_fast); (case nz240 => decide); k_whole))))); (try dsimp only)) | (dsimp only; (with_reducible ((k_here; (with_reducible show wpAny _ _ (eval _ (envX _ _ _ _ _ _)) _ _ _); k_dflt (first | (refine' nameX_L ?Fz240 ?vz240 ?_ ?az240 ?bz240; (case Fz240 => k_asm); (case az240 => rfl); (case bz240 => rfl); (case vz240 => rfl); k_whole) | (refine' nameX_C ?Nz240 ?cz240 ?mz240 ?dz240 ?_ ?az240 ?bz240; (case az240 => rfl); (case bz240 => rfl); (case Nz240 => k_asm); (case cz240 => rfl); (case mz240 => walk_at "my mem"); (case dz240 => assumption); k_whole) | (refine' nameX_K ?Fz240 ?Xz240 ?Tz240 ?ez240 ?_ ?az240 ?bz240; (case Fz240 => k_asm); (case Xz240 => k_asm); (case Tz240 => k_asm); (case az240 => rfl); (case bz240 => rfl); (case ez240 => k_is); k_whole) | (refine' nameX_B ?Fz240 ?Xz240 ?Tz240 ?ez240 ?vz240 ?nz240 ?_ ?az240 ?bz240; (case Fz240 => k_asm); (case Xz240 => k_asm); (case Tz240 => k_asm); (case az240 => rfl); (case bz240 => rfl); (case ez240 => k_is); (case vz240 => boot_fast); (case nz240 => decide); k_whole))))); (try dsimp only)))
    iterate 1 (first | (k_unfold; (try dsimp only)) | (k_end; wrow_close) | (walk1; (try dsimp only)) | (dsimp only; walk1; (try dsimp only)) | (leave1; walk_say "STEP leave1"; try dsimp only))
    cases ok with
    | none =>
      dsimp only [ov] at h4 ⊢
      (first | ((with_reducible (((k_here; (with_reducible show wpAny _ _ (subscriptTail _ _ (Value.ref _) (Value.int _ _)) _ _ _); k_dflt (first | refine my_item (by k_asm) (by walk_at "my mem") (by omega) (by omega) (by assumption) ?_ | refine my_last (by k_asm) (by walk_at "my mem") (by omega) (by omega) (by assumption) ?_))))); (try dsimp only)) | (dsimp only; (with_reducible (((k_here; (with_reducible show wpAny _ _ (subscriptTail _ _ (Value.ref _) (Value.int _ _)) _ _ _); k_dflt (first | refine my_item (by k_asm) (by walk_at "my mem") (by omega) (by omega) (by assumption) ?_ | refine my_last (by k_asm) (by walk_at "my mem") (by omega) (by omega) (by assumption) ?_))))); (try dsimp only)))
      iterate 8 (first | (k_unfold; (try dsimp only)) | (k_end; wrow_close) | (walk1; (try dsimp only)) | (dsimp only; walk1; (try dsimp only)) | (leave1; walk_say "STEP leave1"; try dsimp only))
      rename Fr _ _ _ _ => F8
      rename News _ _ _ _ => N8
      refine hQ sv sn ps1 ps2 codes1 codes2 _ _ _ rfl S1 S2 O1 O2 O3 ?hn F8 N8
      case hn => kst_all
    | some ok =>
      obtain ⟨bk1, bk2⟩ := bk ok rfl
      dsimp only [ov] at h4 ⊢
      (first | ((with_reducible (((k_here; (with_reducible show wpAny _ _ (subscriptTail _ _ (Value.ref _) (Value.int _ _)) _ _ _); k_dflt (first | refine my_item (by k_asm) (by walk_at "my mem") (by omega) (by omega) (by assumption) ?_ | refine my_last (by k_asm) (by walk_at "my mem") (by omega) (by omega) (by assumption) ?_))))); (try dsimp only)) | (dsimp only; (with_reducible (((k_here; (with_reducible show wpAny _ _ (subscriptTail _ _ (Value.ref _) (Value.int _ _)) _ _ _); k_dflt (first | refine my_item (by k_asm) (by walk_at "my mem") (by omega) (by omega) (by assumption) ?_ | refine my_last (by k_asm) (by walk_at "my mem") (by omega) (by omega) (by assumption) ?_))))); (try dsimp only)))
      iterate 13 (first | (k_unfold; (try dsimp only)) | (k_end; wrow_close) | (walk1; (try dsimp only)) | (dsimp only; walk1; (try dsimp only)) | (leave1; walk_say "STEP leave1"; try dsimp only))
      (first | ((with_reducible ((k_here; (with_reducible show wpAny _ _ (eval _ (envX _ _ _ _ _ _)) _ _ _); k_dflt (first | (refine' nameX_L ?Fz243 ?vz243 ?_ ?az243 ?bz243; (case Fz243 => k_asm); (case az243 => rfl); (case bz243 => rfl); (case vz243 => rfl); k_whole) | (refine' nameX_C ?Nz243 ?cz243 ?mz243 ?dz243 ?_ ?az243 ?bz243; (case az243 => rfl); (case bz243 => rfl); (case Nz243 => k_asm); (case cz243 => rfl); (case mz243 => walk_at "my mem"); (case dz243 => assumption); k_whole) | (refine' nameX_K ?Fz243 ?Xz243 ?Tz243 ?ez243 ?_ ?az243 ?bz243; (case Fz243 => k_asm); (case Xz243 => k_asm); (case Tz243 => k_asm); (case az243 => rfl); (case bz243 => rfl); (case ez243 => k_is); k_whole) | (refine' nameX_B ?Fz243 ?Xz243 ?Tz243 ?ez243 ?vz243 ?nz243 ?_ ?az243 ?bz243; (case Fz243 => k_asm); (case Xz243 => k_asm); (case Tz243 => k_asm); (case az243 => rfl); (case bz243 => rfl); (case ez243 => k_is); (case vz243 => boot_fast); (case nz243 => decide); k_whole))))); (try dsimp only)) | (dsimp only; (with_reducible ((k_here; (with_reducible show wpAny _ _ (eval _ (envX _ _ _ _ _ _)) _ _ _); k_dflt (first | (refine' nameX_L ?Fz243 ?vz243 ?_ ?az243 ?bz243; (case Fz243 => k_asm); (case az243 => rfl); (case bz243 => rfl); (case vz243 => rfl); k_whole) | (refine' nameX_C ?Nz243 ?cz243 ?mz243 ?dz243 ?_ ?az243 ?bz243; (case az243 => rfl); (case bz243 => rfl); (case Nz243 => k_asm); (case cz243 => rfl); (case mz243 => walk_at "my mem"); (case dz243 => assumption); k_whole) | (refine' nameX_K ?Fz243 ?Xz243 ?Tz243 ?ez243 ?_ ?az243 ?bz243; (case Fz243 => k_asm); (case Xz243 => k_asm); (case Tz243 => k_asm); (case az243 => rfl); (case bz243 => rfl); (case ez243 => k_is); k_whole) | (refine' nameX_B ?Fz243 ?Xz243 ?Tz243 ?ez243 ?vz243 ?nz243 ?_ ?az243 ?bz243; (case Fz243 => k_asm); (case Xz243 => k_asm); (case Tz243 => k_asm); (case az243 => rfl); (case bz243 => rfl); (case ez243 => k_is); (case vz243 => boot_fast); (case nz243 => decide); k_whole))))); (try dsimp only)))
      iterate 1 (first | (k_unfold; (try dsimp only)) | (k_end; wrow_close) | (walk1; (try dsimp only)) | (dsimp only; walk1; (try dsimp only)) | (leave1; walk_say "STEP leave1"; try dsimp only))
      (first | ((with_reducible (((k_here; (with_reducible show wpAny _ _ (subscriptTail _ _ (Value.ref _) (Value.int _ _)) _ _ _); k_dflt (first | refine my_item (by k_asm) (by walk_at "my mem") (by omega) (by omega) (by assumption) ?_ | refine my_last (by k_asm) (by walk_at "my mem") (by omega) (by omega) (by assumption) ?_))))); (try dsimp only)) | (dsimp only; (with_reducible (((k_here; (with_reducible show wpAny _ _ (subscriptTail _ _ (Value.ref _) (Value.int _ _)) _ _ _); k_dflt (first | refine my_item (by k_asm) (by walk_at "my mem") (by omega) (by omega) (by assumption) ?_ | refine my_last (by k_asm) (by walk_at "my mem") (by omega) (by omega) (by assumption) ?_))))); (try dsimp only)))
      (first | ((with_reducible ((k_here; (with_reducible show wpAny _ _ (eval _ (envX _ _ _ _ _ _)) _ _ _); k_dflt (first | (refine' nameX_L ?Fz245 ?vz245 ?_ ?az245 ?bz245; (case Fz245 => k_asm); (case az245 => rfl); (case bz245 => rfl); (case vz245 => rfl); k_whole) | (refine' nameX_C ?Nz245 ?cz245 ?mz245 ?dz245 ?_ ?az245 ?bz245; (case az245 => rfl); (case bz245 => rfl); (case Nz245 => k_asm); (case cz245 => rfl); (case mz245 => walk_at "my mem"); (case dz245 => assumption); k_whole) | (refine' nameX_K ?Fz245 ?Xz245 ?Tz245 ?ez245 ?_ ?az245 ?bz245; (case Fz245 => k_asm); (case Xz245 => k_asm); (case Tz245 => k_asm); (case az245 => rfl); (case bz245 => rfl); (case ez245 => k_is); k_whole) | (refine' nameX_B ?Fz245 ?Xz245 ?Tz245 ?ez245 ?vz245 ?nz245 ?_ ?az245 ?bz245; (case Fz245 => k_asm); (case Xz245 => k_asm); (case Tz245 => k_asm); (case az245 => rfl); (case bz245 => rfl); (case ez245 => k_is); (case vz245 => boot_fast); (case nz245 => decide); k_whole))))); (try dsimp only)) | (dsimp only; (with_reducible ((k_here; (with_reducible show wpAny _ _ (eval _ (envX _ _ _ _ _ _)) _ _ _); k_dflt (first | (refine' nameX_L ?Fz245 ?vz245 ?_ ?az245 ?bz245; (case Fz245 => k_asm); (case az245 => rfl); (case bz245 => rfl); (case vz245 => rfl); k_whole) | (refine' nameX_C ?Nz245 ?cz245 ?mz245 ?dz245 ?_ ?az245 ?bz245; (case az245 => rfl); (case bz245 => rfl); (case Nz245 => k_asm); (case cz245 => rfl); (case mz245 => walk_at "my mem"); (case dz245 => assumption); k_whole) | (refine' nameX_K ?Fz245 ?Xz245 ?Tz245 ?ez245 ?_ ?az245 ?bz245; (case Fz245 => k_asm); (case Xz245 => k_asm); (case Tz245 => k_asm); (case az245 => rfl); (case bz245 => rfl); (case ez245 => k_is); k_whole) | (refine' nameX_B ?Fz245 ?Xz245 ?Tz245 ?ez245 ?vz245 ?nz245 ?_ ?az245 ?bz245; (case Fz245 => k_asm); (case Xz245 => k_asm); (case Tz245 => k_asm); (case az245 => rfl); (case bz245 => rfl); (case ez245 => k_is); (case vz245 => boot_fast); (case nz245 => decide); k_whole))))); (try dsimp only)))
      iterate 1 (first | (k_unfold; (try dsimp only)) | (k_end; wrow_close) | (walk1; (try dsimp only)) | (dsimp only; walk1; (try dsimp only)) | (leave1; walk_say "STEP leave1"; try dsimp only))
      (first | ((with_reducible (((k_here; (with_reducible show wpAny _ _ (subscriptTail _ _ (Value.ref _) (Value.int _ _)) _ _ _); k_dflt (first | refine my_item (by k_asm) (by walk_at "my mem") (by omega) (by omega) (by assumption) ?_ | refine my_last (by k_asm) (by walk_at "my mem") (by omega) (by omega) (by assumption) ?_))))); (try dsimp only)) | (dsimp only; (with_reducible (((k_here; (with_reducible show wpAny _ _ (subscriptTail _ _ (Value.ref _) (Value.int _ _)) _ _ _); k_dflt (first | refine my_item (by k_asm) (by walk_at "my mem") (by omega) (by omega) (by assumption) ?_ | refine my_last (by k_asm) (by walk_at "my mem") (by omega) (by omega) (by assumption) ?_))))); (try dsimp only)))
      iterate 2 (first | (k_unfold; (try dsimp only)) | (k_end; wrow_close) | (walk1; (try dsimp only)) | (dsimp only; walk1; (try dsimp only)) | (leave1; walk_say "STEP leave1"; try dsimp only))
      (first | ((with_reducible ((k_here; (with_reducible show wpAny _ _ (eval _ (envX _ _ _ _ _ _)) _ _ _); k_dflt (first | (refine' nameX_L ?Fz247 ?vz247 ?_ ?az247 ?bz247; (case Fz247 => k_asm); (case az247 => rfl); (case bz247 => rfl); (case vz247 => rfl); k_whole) | (refine' nameX_C ?Nz247 ?cz247 ?mz247 ?dz247 ?_ ?az247 ?bz247; (case az247 => rfl); (case bz247 => rfl); (case Nz247 => k_asm); (case cz247 => rfl); (case mz247 => walk_at "my mem"); (case dz247 => assumption); k_whole) | (refine' nameX_K ?Fz247 ?Xz247 ?Tz247 ?ez247 ?_ ?az247 ?bz247; (case Fz247 => k_asm); (case Xz247 => k_asm); (case Tz247 => k_asm); (case az247 => rfl); (case bz247 => rfl); (case ez247 => k_is); k_whole) | (refine' nameX_B ?Fz247 ?Xz247 ?Tz247 ?ez247 ?vz247 ?nz247 ?_ ?az247 ?bz247; (case Fz247 => k_asm); (case Xz247 => k_asm); (case Tz247 => k_asm); (case az247 => rfl); (case bz247 => rfl); (case ez247 => k_is); (case vz247 => boot_fast); (case nz247 => decide); k_whole))))); (try dsimp only)) | (dsimp only; (with_reducible ((k_here; (with_reducible show wpAny _ _ (eval _ (envX _ _ _ _ _ _)) _ _ _); k_dflt (first | (refine' nameX_L ?Fz247 ?vz247 ?_ ?az247 ?bz247; (case Fz247 => k_asm); (case az247 => rfl); (case bz247 => rfl); (case vz247 => rfl); k_whole) | (refine' nameX_C ?Nz247 ?cz247 ?mz247 ?dz247 ?_ ?az247 ?bz247; (case az247 => rfl); (case bz247 => rfl); (case Nz247 => k_asm); (case cz247 => rfl); (case mz247 => walk_at "my mem"); (case dz247 => assumption); k_whole) | (refine' nameX_K ?Fz247 ?Xz247 ?Tz247 ?ez247 ?_ ?az247 ?bz247; (case Fz247 => k_asm); (case Xz247 => k_asm); (case Tz247 => k_asm); (case az247 => rfl); (case bz247 => rfl); (case ez247 => k_is); k_whole) | (refine' nameX_B ?Fz247 ?Xz247 ?Tz247 ?ez247 ?vz247 ?nz247 ?_ ?az247 ?bz247; (case Fz247 => k_asm); (case Xz247 => k_asm); (case Tz247 => k_asm); (case az247 => rfl); (case bz247 => rfl); (case ez247 => k_is); (case vz247 => boot_fast); (case nz247 => decide); k_whole))))); (try dsimp only)))
      (first | ((with_reducible ((k_here; (with_reducible show wpAny _ _ (eval _ (envX _ _ _ _ _ _)) _ _ _); k_dflt (first | (refine' nameX_L ?Fz248 ?vz248 ?_ ?az248 ?bz248; (case Fz248 => k_asm); (case az248 => rfl); (case bz248 => rfl); (case vz248 => rfl); k_whole) | (refine' nameX_C ?Nz248 ?cz248 ?mz248 ?dz248 ?_ ?az248 ?bz248; (case az248 => rfl); (case bz248 => rfl); (case Nz248 => k_asm); (case cz248 => rfl); (case mz248 => walk_at "my mem"); (case dz248 => assumption); k_whole) | (refine' nameX_K ?Fz248 ?Xz248 ?Tz248 ?ez248 ?_ ?az248 ?bz248; (case Fz248 => k_asm); (case Xz248 => k_asm); (case Tz248 => k_asm); (case az248 => rfl); (case bz248 => rfl); (case ez248 => k_is); k_whole) | (refine' nameX_B ?Fz248 ?Xz248 ?Tz248 ?ez248 ?vz248 ?nz248 ?_ ?az248 ?bz248; (case Fz248 => k_asm); (case Xz248 => k_asm); (case Tz248 => k_asm); (case az248 => rfl); (case bz248 => rfl); (case ez248 => k_is); (case vz248 => boot_fast); (case nz248 => decide); k_whole))))); (try dsimp only)) | (dsimp only; (with_reducible ((k_here; (with_reducible show wpAny _ _ (eval _ (envX _ _ _ _ _ _)) _ _ _); k_dflt (first | (refine' nameX_L ?Fz248 ?vz248 ?_ ?az248 ?bz248; (case Fz248 => k_asm); (case az248 => rfl); (case bz248 => rfl); (case vz248 => rfl); k_whole) | (refine' nameX_C ?Nz248 ?cz248 ?mz248 ?dz248 ?_ ?az248 ?bz248; (case az248 => rfl); (case bz248 => rfl); (case Nz248 => k_asm); (case cz248 => rfl); (case mz248 => walk_at "my mem"); (case dz248 => assumption); k_whole) | (refine' nameX_K ?Fz248 ?Xz248 ?Tz248 ?ez248 ?_ ?az248 ?bz248; (case Fz248 => k_asm); (case Xz248 => k_asm); (case Tz248 => k_asm); (case az248 => rfl); (case bz248 => rfl); (case ez248 => k_is); k_whole) | (refine' nameX_B ?Fz248 ?Xz248 ?Tz248 ?ez248 ?vz248 ?nz248 ?_ ?az248 ?bz248; (case Fz248 => k_asm); (case Xz248 => k_asm); (case Tz248 => k_asm); (case az248 => rfl); (case bz248 => rfl); (case ez248 => k_is); (case vz248 => boot_fast); (case nz248 => decide); k_whole))))); (try dsimp only)))
      (first | ((with_reducible (((k_here; (with_reducible show wpAny _ _ (subscriptTail _ _ (Value.ref _) (Value.int _ _)) _ _ _); k_dflt (first | refine my_item (by k_asm) (by walk_at "my mem") (by omega) (by omega) (by assumption) ?_ | refine my_last (by k_asm) (by walk_at "my mem") (by omega) (by omega) (by assumption) ?_))))); (try dsimp only)) | (dsimp only; (with_reducible (((k_here; (with_reducible show wpAny _ _ (subscriptTail _ _ (Value.ref _) (Value.int _ _)) _ _ _); k_dflt (first | refine my_item (by k_asm) (by walk_at "my mem") (by omega) (by omega) (by assumption) ?_ | refine my_last (by k_asm) (by walk_at "my mem") (by omega) (by omega) (by assumption) ?_))))); (try dsimp only)))
      (first | ((with_reducible ((k_here; (with_reducible show wpAny _ _ (eval _ (envX _ _ _ _ _ _)) _ _ _); k_dflt (first | (refine' nameX_L ?Fz250 ?vz250 ?_ ?az250 ?bz250; (case Fz250 => k_asm); (case az250 => rfl); (case bz250 => rfl); (case vz250 => rfl); k_whole) | (refine' nameX_C ?Nz250 ?cz250 ?mz250 ?dz250 ?_ ?az250 ?bz250; (case az250 => rfl); (case bz250 => rfl); (case Nz250 => k_asm); (case cz250 => rfl); (case mz250 => walk_at "my mem"); (case dz250 => assumption); k_whole) | (refine' nameX_K ?Fz250 ?Xz250 ?Tz250 ?ez250 ?_ ?az250 ?bz250; (case Fz250 => k_asm); (case Xz250 => k_asm); (case Tz250 => k_asm); (case az250 => rfl); (case bz250 => rfl); (case ez250 => k_is); k_whole) | (refine' nameX_B ?Fz250 ?Xz250 ?Tz250 ?ez250 ?vz250 ?nz250 ?_ ?az250 ?bz250; (case Fz250 => k_asm); (case Xz250 => k_asm); (case Tz250 => k_asm); (case az250 => rfl); (case bz250 => rfl); (case ez250 => k_is); (case vz250 => boot_fast); (case nz250 => decide); k_whole))))); (try dsimp only)) | (dsimp only; (with_reducible ((k_here; (with_reducible show wpAny _ _ (eval _ (envX _ _ _ _ _ _)) _ _ _); k_dflt (first | (refine' nameX_L ?Fz250 ?vz250 ?_ ?az250 ?bz250; (case Fz250 => k_asm); (case az250 => rfl); (case bz250 => rfl); (case vz250 => rfl); k_whole) | (refine' nameX_C ?Nz250 ?cz250 ?mz250 ?dz250 ?_ ?az250 ?bz250; (case az250 => rfl); (case bz250 => rfl); (case Nz250 => k_asm); (case cz250 => rfl); (case mz250 => walk_at "my mem"); (case dz250 => assumption); k_whole) | (refine' nameX_K ?Fz250 ?Xz250 ?Tz250 ?ez250 ?_ ?az250 ?bz250; (case Fz250 => k_asm); (case Xz250 => k_asm); (case Tz250 => k_asm); (case az250 => rfl); (case bz250 => rfl); (case ez250 => k_is); k_whole) | (refine' nameX_B ?Fz250 ?Xz250 ?Tz250 ?ez250 ?vz250 ?nz250 ?_ ?az250 ?bz250; (case Fz250 => k_asm); (case Xz250 => k_asm); (case Tz250 => k_asm); (case az250 => rfl); (case bz250 => rfl); (case ez250 => k_is); (case vz250 => boot_fast); (case nz250 => decide); k_whole))))); (try dsimp only)))
      iterate 1 (first | (k_unfold; (try dsimp only)) | (k_end; wrow_close) | (walk1; (try dsimp only)) | (dsimp only; walk1; (try dsimp only)) | (leave1; walk_say "STEP leave1"; try dsimp only))
      (first | ((with_reducible (((k_here; (with_reducible show wpAny _ _ (subscriptTail _ _ (Value.ref _) (Value.int _ _)) _ _ _); k_dflt (first | refine my_item (by k_asm) (by walk_at "my mem") (by omega) (by omega) (by assumption) ?_ | refine my_last (by k_asm) (by walk_at "my mem") (by omega) (by omega) (by assumption) ?_))))); (try dsimp only)) | (dsimp only; (with_reducible (((k_here; (with_reducible show wpAny _ _ (subscriptTail _ _ (Value.ref _) (Value.int _ _)) _ _ _); k_dflt (first | refine my_item (by k_asm) (by walk_at "my mem") (by omega) (by omega) (by assumption) ?_ | refine my_last (by k_asm) (by walk_at "my mem") (by omega) (by omega) (by assumption) ?_))))); (try dsimp only)))
      iterate 5 (first | (k_unfold; (try dsimp only)) | (k_end; wrow_close) | (walk1; (try dsimp only)) | (dsimp only; walk1; (try dsimp only)) | (leave1; walk_say "STEP leave1"; try dsimp only))
      (first | ((with_reducible ((k_here; (with_reducible show wpAny _ _ (eval _ (envX _ _ _ _ _ _)) _ _ _); k_dflt (first | (refine' nameX_L ?Fz252 ?vz252 ?_ ?az252 ?bz252; (case Fz252 => k_asm); (case az252 => rfl); (case bz252 => rfl); (case vz252 => rfl); k_whole) | (refine' nameX_C ?Nz252 ?cz252 ?mz252 ?dz252 ?_ ?az252 ?bz252; (case az252 => rfl); (case bz252 => rfl); (case Nz252 => k_asm); (case cz252 => rfl); (case mz252 => walk_at "my mem"); (case dz252 => assumption); k_whole) | (refine' nameX_K ?Fz252 ?Xz252 ?Tz252 ?ez252 ?_ ?az252 ?bz252; (case Fz252 => k_asm); (case Xz252 => k_asm); (case Tz252 => k_asm); (case az252 => rfl); (case bz252 => rfl); (case ez252 => k_is); k_whole) | (refine' nameX_B ?Fz252 ?Xz252 ?Tz252 ?ez252 ?vz252 ?nz252 ?_ ?az252 ?bz252; (case Fz252 => k_asm); (case Xz252 => k_asm); (case Tz252 => k_asm); (case az252 => rfl); (case bz252 => rfl); (case ez252 => k_is); (case vz252 => boot_fast); (case nz252 => decide); k_whole))))); (try dsimp only)) | (dsimp only; (with_reducible ((k_here; (with_reducible show wpAny _ _ (eval _ (envX _ _ _ _ _ _)) _ _ _); k_dflt (first | (refine' nameX_L ?Fz252 ?vz252 ?_ ?az252 ?bz252; (case Fz252 => k_asm); (case az252 => rfl); (case bz252 => rfl); (case vz252 => rfl); k_whole) | (refine' nameX_C ?Nz252 ?cz252 ?mz252 ?dz252 ?_ ?az252 ?bz252; (case az252 => rfl); (case bz252 => rfl); (case Nz252 => k_asm); (case cz252 => rfl); (case mz252 => walk_at "my mem"); (case dz252 => assumption); k_whole) | (refine' nameX_K ?Fz252 ?Xz252 ?Tz252 ?ez252 ?_ ?az252 ?bz252; (case Fz252 => k_asm); (case Xz252 => k_asm); (case Tz252 => k_asm); (case az252 => rfl); (case bz252 => rfl); (case ez252 => k_is); k_whole) | (refine' nameX_B ?Fz252 ?Xz252 ?Tz252 ?ez252 ?vz252 ?nz252 ?_ ?az252 ?bz252; (case Fz252 => k_asm); (case Xz252 => k_asm); (case Tz252 => k_asm); (case az252 => rfl); (case bz252 => rfl); (case ez252 => k_is); (case vz252 => boot_fast); (case nz252 => decide); k_whole))))); (try dsimp only)))
      iterate 8 (first | (k_unfold; (try dsimp only)) | (k_end; wrow_close) | (walk1; (try dsimp only)) | (dsimp only; walk1; (try dsimp only)) | (leave1; walk_say "STEP leave1"; try dsimp only))
      (first | ((with_reducible ((k_here; (with_reducible show wpAny _ _ (eval _ (envX _ _ _ _ _ _)) _ _ _); k_dflt (first | (refine' nameX_L ?Fz253 ?vz253 ?_ ?az253 ?bz253; (case Fz253 => k_asm); (case az253 => rfl); (case bz253 => rfl); (case vz253 => rfl); k_whole) | (refine' nameX_C ?Nz253 ?cz253 ?mz253 ?dz253 ?_ ?az253 ?bz253; (case az253 => rfl); (case bz253 => rfl); (case Nz253 => k_asm); (case cz253 => rfl); (case mz253 => walk_at "my mem"); (case dz253 => assumption); k_whole) | (refine' nameX_K ?Fz253 ?Xz253 ?Tz253 ?ez253 ?_ ?az253 ?bz253; (case Fz253 => k_asm); (case Xz253 => k_asm); (case Tz253 => k_asm); (case az253 => rfl); (case bz253 => rfl); (case ez253 => k_is); k_whole) | (refine' nameX_B ?Fz253 ?Xz253 ?Tz253 ?ez253 ?vz253 ?nz253 ?_ ?az253 ?bz253; (case Fz253 => k_asm); (case Xz253 => k_asm); (case Tz253 => k_asm); (case az253 => rfl); (case bz253 => rfl); (case ez253 => k_is); (case vz253 => boot_fast); (case nz253 => decide); k_whole))))); (try dsimp only)) | (dsimp only; (with_reducible ((k_here; (with_reducible show wpAny _ _ (eval _ (envX _ _ _ _ _ _)) _ _ _); k_dflt (first | (refine' nameX_L ?Fz253 ?vz253 ?_ ?az253 ?bz253; (case Fz253 => k_asm); (case az253 => rfl); (case bz253 => rfl); (case vz253 => rfl); k_whole) | (refine' nameX_C ?Nz253 ?cz253 ?mz253 ?dz253 ?_ ?az253 ?bz253; (case az253 => rfl); (case bz253 => rfl); (case Nz253 => k_asm); (case cz253 => rfl); (case mz253 => walk_at "my mem"); (case dz253 => assumption); k_whole) | (refine' nameX_K ?Fz253 ?Xz253 ?Tz253 ?ez253 ?_ ?az253 ?bz253; (case Fz253 => k_asm); (case Xz253 => k_asm); (case Tz253 => k_asm); (case az253 => rfl); (case bz253 => rfl); (case ez253 => k_is); k_whole) | (refine' nameX_B ?Fz253 ?Xz253 ?Tz253 ?ez253 ?vz253 ?nz253 ?_ ?az253 ?bz253; (case Fz253 => k_asm); (case Xz253 => k_asm); (case Tz253 => k_asm); (case az253 => rfl); (case bz253 => rfl); (case ez253 => k_is); (case vz253 => boot_fast); (case nz253 => decide); k_whole))))); (try dsimp only)))
      (first | ((with_reducible ((k_here; k_dflt (first | refine' callWith_K ?k1z254 ?k2z254 ?_; (case k1z254 => k_asm); (case k2z254 => k_is); k_whole | refine' callWith_KW ?k1z254 ?k2z254 ?k3z254 ?_; (case k1z254 => k_asm); (case k2z254 => k_is); (case k3z254 => exact rfl); k_whole)))); (try dsimp only)) | (dsimp only; (with_reducible ((k_here; k_dflt (first | refine' callWith_K ?k1z254 ?k2z254 ?_; (case k1z254 => k_asm); (case k2z254 => k_is); k_whole | refine' callWith_KW ?k1z254 ?k2z254 ?k3z254 ?_; (case k1z254 => k_asm); (case k2z254 => k_is); (case k3z254 => exact rfl); k_whole)))); (try dsimp only)))
      iterate 1 (first | (k_unfold; (try dsimp only)) | (k_end; wrow_close) | (walk1; (try dsimp only)) | (dsimp only; walk1; (try dsimp only)) | (leave1; walk_say "STEP leave1"; try dsimp only))
      (first | ((with_reducible ((k_here; (with_reducible show wpAny _ _ (eval _ (envX _ _ _ _ _ _)) _ _ _); k_dflt (first | (refine' nameX_L ?Fz255 ?vz255 ?_ ?az255 ?bz255; (case Fz255 => k_asm); (case az255 => rfl); (case bz255 => rfl); (case vz255 => rfl); k_whole) | (refine' nameX_C ?Nz255 ?cz255 ?mz255 ?dz255 ?_ ?az255 ?bz255; (case az255 => rfl); (case bz255 => rfl); (case Nz255 => k_asm); (case cz255 => rfl); (case mz255 => walk_at "my mem"); (case dz255 => assumption); k_whole) | (refine' nameX_K ?Fz255 ?Xz255 ?Tz255 ?ez255 ?_ ?az255 ?bz255; (case Fz255 => k_asm); (case Xz255 => k_asm); (case Tz255 => k_asm); (case az255 => rfl); (case bz255 => rfl); (case ez255 => k_is); k_whole) | (refine' nameX_B ?Fz255 ?Xz255 ?Tz255 ?ez255 ?vz255 ?nz255 ?_ ?az255 ?bz255; (case Fz255 => k_asm); (case Xz255 => k_asm); (case Tz255 => k_asm); (case az255 => rfl); (case bz255 => rfl); (case ez255 => k_is); (case vz255 => boot_fast); (case nz255 => decide); k_whole))))); (try dsimp only)) | (dsimp only; (with_reducible ((k_here; (with_reducible show wpAny _ _ (eval _ (envX _ _ _ _ _ _)) _ _ _); k_dflt (first | (refine' nameX_L ?Fz255 ?vz255 ?_ ?az255 ?bz255; (case Fz255 => k_asm); (case az255 => rfl); (case bz255 => rfl); (case vz255 => rfl); k_whole) | (refine' nameX_C ?Nz255 ?cz255 ?mz255 ?dz255 ?_ ?az255 ?bz255; (case az255 => rfl); (case bz255 => rfl); (case Nz255 => k_asm); (case cz255 => rfl); (case mz255 => walk_at "my mem"); (case dz255 => assumption); k_whole) | (refine' nameX_K ?Fz255 ?Xz255 ?Tz255 ?ez255 ?_ ?az255 ?bz255; (case Fz255 => k_asm); (case Xz255 => k_asm); (case Tz255 => k_asm); (case az255 => rfl); (case bz255 => rfl); (case ez255 => k_is); k_whole) | (refine' nameX_B ?Fz255 ?Xz255 ?Tz255 ?ez255 ?vz255 ?nz255 ?_ ?az255 ?bz255; (case Fz255 => k_asm); (case Xz255 => k_asm); (case Tz255 => k_asm); (case az255 => rfl); (case bz255 => rfl); (case ez255 => k_is); (case vz255 => boot_fast); (case nz255 => decide); k_whole))))); (try dsimp only)))
      iterate 3 (first | (k_unfold; (try dsimp only)) | (k_end; wrow_close) | (walk1; (try dsimp only)) | (dsimp only; walk1; (try dsimp only)) | (leave1; walk_say "STEP leave1"; try dsimp only))
      (first | ((with_reducible ((k_here; (with_reducible show wpAny _ _ (eval _ (envX _ _ _ _ _ _)) _ _ _); k_dflt (first | (refine' nameX_L ?Fz256 ?vz256 ?_ ?az256 ?bz256; (case Fz256 => k_asm); (case az256 => rfl); (case bz256 => rfl); (case vz256 => rfl); k_whole) | (refine' nameX_C ?Nz256 ?cz256 ?mz256 ?dz256 ?_ ?az256 ?bz256; (case az256 => rfl); (case bz256 => rfl); (case Nz256 => k_asm); (case cz256 => rfl); (case mz256 => walk_at "my mem"); (case dz256 => assumption); k_whole) | (refine' nameX_K ?Fz256 ?Xz256 ?Tz256 ?ez256 ?_ ?az256 ?bz256; (case Fz256 => k_asm); (case Xz256 => k_asm); (case Tz256 => k_asm); (case az256 => rfl); (case bz256 => rfl); (case ez256 => k_is); k_whole) | (refine' nameX_B ?Fz256 ?Xz256 ?Tz256 ?ez256 ?vz256 ?nz256 ?_ ?az256 ?bz256; (case Fz256 => k_asm); (case Xz256 => k_asm); (case Tz256 => k_asm); (case az256 => rfl); (case bz256 => rfl); (case ez256 => k_is); (case vz256 => boot_fast); (case nz256 => decide); k_whole))))); (try dsimp only)) | (dsimp only; (with_reducible ((k_here; (with_reducible show wpAny _ _ (eval _ (envX _ _ _ _ _ _)) _ _ _); k_dflt (first | (refine' nameX_L ?Fz256 ?vz256 ?_ ?az256 ?bz256; (case Fz256 => k_asm); (case az256 => rfl); (case bz256 => rfl); (case vz256 => rfl); k_whole) | (refine' nameX_C ?Nz256 ?cz256 ?mz256 ?dz256 ?_ ?az256 ?bz256; (case az256 => rfl); (case bz256 => rfl); (case Nz256 => k_asm); (case cz256 => rfl); (case mz256 => walk_at "my mem"); (case dz256 => assumption); k_whole) | (refine' nameX_K ?Fz256 ?Xz256 ?Tz256 ?ez256 ?_ ?az256 ?bz256; (case Fz256 => k_asm); (case Xz256 => k_asm); (case Tz256 => k_asm); (case az256 => rfl); (case bz256 => rfl); (case ez256 => k_is); k_whole) | (refine' nameX_B ?Fz256 ?Xz256 ?Tz256 ?ez256 ?vz256 ?nz256 ?_ ?az256 ?bz256; (case Fz256 => k_asm); (case Xz256 => k_asm); (case Tz256 => k_asm); (case az256 => rfl); (case bz256 => rfl); (case ez256 => k_is); (case vz256 => boot_fast); (case nz256 => decide); k_whole))))); (try dsimp only)))
      iterate 3 (first | (k_unfold; (try dsimp only)) | (k_end; wrow_close) | (walk1; (try dsimp only)) | (dsimp only; walk1; (try dsimp only)) | (leave1; walk_say "STEP leave1"; try dsimp only))
      rename Fr _ _ _ _ => F8
      rename News _ _ _ _ => N8
      have hga : 0 < o3 - ok + 60 * (3 - kI) := by omega
      have hga' : o3 - ok + 60 * (3 - kI) < 1000000 := by omega
      obtain ⟨hn1, hn2⟩ := bits3 (b := 3 - kI) (by omega) (by omega)
      obtain ⟨Dn, hD, hD1, hD2⟩ := dn_ok hga hga' hn1 hn2
      have N9 := news_perm N8 permM
      have P1 : OwnOff (codes1 ++ (74, tabObj ps2) :: (codes2 ++ (shA, listOf sv.toArray sn) :: rest)) [67] := offApp O1 (offCons (show (74 : Nat) ≠ 67 by decide) (offApp O2 (offCons O6.symm O4)))
      have P2 : OwnOff (codes2 ++ (shA, listOf sv.toArray sn) :: rest) [74] := offApp O3 (offCons O7.symm O5)
      refine c_divmod (o3 - ok + 60 * (3 - kI)) (3 - kI) Dn _ _ ps1 ps2 codes1 codes2 _ _ _ _ _ _ _ _ _ _ _ _ _ _ _ _ _ _ B F8 X C1 C2 N9 S1 S2 P1 P2 T rfl (rm2 hd (by decide)) (rm2 hu (by decide)) hga hga' (by omega) (by omega) hn1 hn2 hD hD1 hD2 ?_
      intro tp q r tq tr c1 oc1 vs1 t1 c2 oc2 vs2 t2 h' tk' eq er d1 d1' c67 d2 d2' c74 F' N' lt'
      clear F8 N8 N9
      have er' : r = o3 - ok + 60 * (3 - kI) - (3 - kI) * q := by rw [er, eq]; exact Int.emod_def _ _
      have hr0 : 0 ≤ r := by rw [er]; exact Int.emod_nonneg _ (by omega)
      have hr1 : r < 3 - kI := by rw [er]; exact Int.emod_lt_of_pos _ (by omega)
      clear er
      subst er'
      (try dsimp only); (try k_fold)
      have hdv := div6 (b := 3 - kI) (by omega) (by omega)
      iterate 6 (first | (k_unfold; (try dsimp only)) | (k_end; wrow_close) | (walk1; (try dsimp only)) | (dsimp only; walk1; (try dsimp only)) | (leave1; walk_say "STEP leave1"; try dsimp only))
      (first | ((with_reducible ((k_here; (with_reducible show wpAny _ _ (eval _ (envX _ _ _ _ _ _)) _ _ _); k_dflt (first | (refine' nameX_L ?Fz257 ?vz257 ?_ ?az257 ?bz257; (case Fz257 => k_asm); (case az257 => rfl); (case bz257 => rfl); (case vz257 => rfl); k_whole) | (refine' nameX_C ?Nz257 ?cz257 ?mz257 ?dz257 ?_ ?az257 ?bz257; (case az257 => rfl); (case bz257 => rfl); (case Nz257 => k_asm); (case cz257 => rfl); (case mz257 => walk_at "my mem"); (case dz257 => assumption); k_whole) | (refine' nameX_K ?Fz257 ?Xz257 ?Tz257 ?ez257 ?_ ?az257 ?bz257; (case Fz257 => k_asm); (case Xz257 => k_asm); (case Tz257 => k_asm); (case az257 => rfl); (case bz257 => rfl); (case ez257 => k_is); k_whole) | (refine' nameX_B ?Fz257 ?Xz257 ?Tz257 ?ez257 ?vz257 ?nz257 ?_ ?az257 ?bz257; (case Fz257 => k_asm); (case Xz257 => k_asm); (case Tz257 => k_asm); (case az257 => rfl); (case bz257 => rfl); (case ez257 => k_is); (case vz257 => boot_fast); (case nz257 => decide); k_whole))))); (try dsimp only)) | (dsimp only; (with_reducible ((k_here; (with_reducible show wpAny _ _ (eval _ (envX _ _ _ _ _ _)) _ _ _); k_dflt (first | (refine' nameX_L ?Fz257 ?vz257 ?_ ?az257 ?bz257; (case Fz257 => k_asm); (case az257 => rfl); (case bz257 => rfl); (case vz257 => rfl); k_whole) | (refine' nameX_C ?Nz257 ?cz257 ?mz257 ?dz257 ?_ ?az257 ?bz257; (case az257 => rfl); (case bz257 => rfl); (case Nz257 => k_asm); (case cz257 => rfl); (case mz257 => walk_at "my mem"); (case dz257 => assumption); k_whole) | (refine' nameX_K ?Fz257 ?Xz257 ?Tz257 ?ez257 ?_ ?az257 ?bz257; (case Fz257 => k_asm); (case Xz257 => k_asm); (case Tz257 => k_asm); (case az257 => rfl); (case bz257 => rfl); (case ez257 => k_is); k_whole) | (refine' nameX_B ?Fz257 ?Xz257 ?Tz257 ?ez257 ?vz257 ?nz257 ?_ ?az257 ?bz257; (case Fz257 => k_asm); (case Xz257 => k_asm); (case Tz257 => k_asm); (case az257 => rfl); (case bz257 => rfl); (case ez257 => k_is); (case vz257 => boot_fast); (case nz257 => decide); k_whole))))); (try dsimp only)))
      iterate 3 (first | (k_unfold; (try dsimp only)) | (k_end; wrow_close) | (walk1; (try dsimp only)) | (dsimp only; walk1; (try dsimp only)) | (leave1; walk_say "STEP leave1"; try dsimp only))
      (first | ((with_reducible ((k_here; (with_reducible show wpAny _ _ (eval _ (envX _ _ _ _ _ _)) _ _ _); k_dflt (first | (refine' nameX_L ?Fz258 ?vz258 ?_ ?az258 ?bz258; (case Fz258 => k_asm); (case az258 => rfl); (case bz258 => rfl); (case vz258 => rfl); k_whole) | (refine' nameX_C ?Nz258 ?cz258 ?mz258 ?dz258 ?_ ?az258 ?bz258; (case az258 => rfl); (case bz258 => rfl); (case Nz258 => k_asm); (case cz258 => rfl); (case mz258 => walk_at "my mem"); (case dz258 => assumption); k_whole) | (refine' nameX_K ?Fz258 ?Xz258 ?Tz258 ?ez258 ?_ ?az258 ?bz258; (case Fz258 => k_asm); (case Xz258 => k_asm); (case Tz258 => k_asm); (case az258 => rfl); (case bz258 => rfl); (case ez258 => k_is); k_whole) | (refine' nameX_B ?Fz258 ?Xz258 ?Tz258 ?ez258 ?vz258 ?nz258 ?_ ?az258 ?bz258; (case Fz258 => k_asm); (case Xz258 => k_asm); (case Tz258 => k_asm); (case az258 => rfl); (case bz258 => rfl); (case ez258 => k_is); (case vz258 => boot_fast); (case nz258 => decide); k_whole))))); (try dsimp only)) | (dsimp only; (with_reducible ((k_here; (with_reducible show wpAny _ _ (eval _ (envX _ _ _ _ _ _)) _ _ _); k_dflt (first | (refine' nameX_L ?Fz258 ?vz258 ?_ ?az258 ?bz258; (case Fz258 => k_asm); (case az258 => rfl); (case bz258 => rfl); (case vz258 => rfl); k_whole) | (refine' nameX_C ?Nz258 ?cz258 ?mz258 ?dz258 ?_ ?az258 ?bz258; (case az258 => rfl); (case bz258 => rfl); (case Nz258 => k_asm); (case cz258 => rfl); (case mz258 => walk_at "my mem"); (case dz258 => assumption); k_whole) | (refine' nameX_K ?Fz258 ?Xz258 ?Tz258 ?ez258 ?_ ?az258 ?bz258; (case Fz258 => k_asm); (case Xz258 => k_asm); (case Tz258 => k_asm); (case az258 => rfl); (case bz258 => rfl); (case ez258 => k_is); k_whole) | (refine' nameX_B ?Fz258 ?Xz258 ?Tz258 ?ez258 ?vz258 ?nz258 ?_ ?az258 ?bz258; (case Fz258 => k_asm); (case Xz258 => k_asm); (case Tz258 => k_asm); (case az258 => rfl); (case bz258 => rfl); (case ez258 => k_is); (case vz258 => boot_fast); (case nz258 => decide); k_whole))))); (try dsimp only)))
      iterate 1 (first | (k_unfold; (try dsimp only)) | (k_end; wrow_close) | (walk1; (try dsimp only)) | (dsimp only; walk1; (try dsimp only)) | (leave1; walk_say "STEP leave1"; try dsimp only))
      (first | ((with_reducible ((k_here; (with_reducible first | show wpAny _ _ (subscriptTail (Expr.Name (Str.ofString "pair") _) _ (Value.ref _) (Value.int _ _)) _ _ _ | show wpAny _ _ (subscriptTail (Expr.Name (Str.ofString "told") _) _ (Value.ref _) (Value.int _ _)) _ _ _); k_dflt (refine' item_tupleT ?tz259 ?az259 ?bz259 ?cz259 ?dz259 ?_; (case tz259 => exact News.isTup (by k_asm) (by walk_at "my mem")); (case az259 => decide); (case bz259 => decide); (case cz259 => rfl); (case dz259 => rfl); k_whole)))); (try dsimp only)) | (dsimp only; (with_reducible ((k_here; (with_reducible first | show wpAny _ _ (subscriptTail (Expr.Name (Str.ofString "pair") _) _ (Value.ref _) (Value.int _ _)) _ _ _ | show wpAny _ _ (subscriptTail (Expr.Name (Str.ofString "told") _) _ (Value.ref _) (Value.int _ _)) _ _ _); k_dflt (refine' item_tupleT ?tz259 ?az259 ?bz259 ?cz259 ?dz259 ?_; (case tz259 => exact News.isTup (by k_asm) (by walk_at "my mem")); (case az259 => decide); (case bz259 => decide); (case cz259 => rfl); (case dz259 => rfl); k_whole)))); (try dsimp only)))
      iterate 2 (first | (k_unfold; (try dsimp only)) | (k_end; wrow_close) | (walk1; (try dsimp only)) | (dsimp only; walk1; (try dsimp only)) | (leave1; walk_say "STEP leave1"; try dsimp only))
      (first | ((with_reducible ((k_here; (with_reducible show wpAny _ _ (eval _ (envX _ _ _ _ _ _)) _ _ _); k_dflt (first | (refine' nameX_L ?Fz260 ?vz260 ?_ ?az260 ?bz260; (case Fz260 => k_asm); (case az260 => rfl); (case bz260 => rfl); (case vz260 => rfl); k_whole) | (refine' nameX_C ?Nz260 ?cz260 ?mz260 ?dz260 ?_ ?az260 ?bz260; (case az260 => rfl); (case bz260 => rfl); (case Nz260 => k_asm); (case cz260 => rfl); (case mz260 => walk_at "my mem"); (case dz260 => assumption); k_whole) | (refine' nameX_K ?Fz260 ?Xz260 ?Tz260 ?ez260 ?_ ?az260 ?bz260; (case Fz260 => k_asm); (case Xz260 => k_asm); (case Tz260 => k_asm); (case az260 => rfl); (case bz260 => rfl); (case ez260 => k_is); k_whole) | (refine' nameX_B ?Fz260 ?Xz260 ?Tz260 ?ez260 ?vz260 ?nz260 ?_ ?az260 ?bz260; (case Fz260 => k_asm); (case Xz260 => k_asm); (case Tz260 => k_asm); (case az260 => rfl); (case bz260 => rfl); (case ez260 => k_is); (case vz260 => boot_fast); (case nz260 => decide); k_whole))))); (try dsimp only)) | (dsimp only; (with_reducible ((k_here; (with_reducible show wpAny _ _ (eval _ (envX _ _ _ _ _ _)) _ _ _); k_dflt (first | (refine' nameX_L ?Fz260 ?vz260 ?_ ?az260 ?bz260; (case Fz260 => k_asm); (case az260 => rfl); (case bz260 => rfl); (case vz260 => rfl); k_whole) | (refine' nameX_C ?Nz260 ?cz260 ?mz260 ?dz260 ?_ ?az260 ?bz260; (case az260 => rfl); (case bz260 => rfl); (case Nz260 => k_asm); (case cz260 => rfl); (case mz260 => walk_at "my mem"); (case dz260 => assumption); k_whole) | (refine' nameX_K ?Fz260 ?Xz260 ?Tz260 ?ez260 ?_ ?az260 ?bz260; (case Fz260 => k_asm); (case Xz260 => k_asm); (case Tz260 => k_asm); (case az260 => rfl); (case bz260 => rfl); (case ez260 => k_is); k_whole) | (refine' nameX_B ?Fz260 ?Xz260 ?Tz260 ?ez260 ?vz260 ?nz260 ?_ ?az260 ?bz260; (case Fz260 => k_asm); (case Xz260 => k_asm); (case Tz260 => k_asm); (case az260 => rfl); (case bz260 => rfl); (case ez260 => k_is); (case vz260 => boot_fast); (case nz260 => decide); k_whole))))); (try dsimp only)))
      iterate 3 (first | (k_unfold; (try dsimp only)) | (k_end; wrow_close) | (walk1; (try dsimp only)) | (dsimp only; walk1; (try dsimp only)) | (leave1; walk_say "STEP leave1"; try dsimp only))
      (first | ((with_reducible ((k_here; (with_reducible show wpAny _ _ (eval _ (envX _ _ _ _ _ _)) _ _ _); k_dflt (first | (refine' nameX_L ?Fz261 ?vz261 ?_ ?az261 ?bz261; (case Fz261 => k_asm); (case az261 => rfl); (case bz261 => rfl); (case vz261 => rfl); k_whole) | (refine' nameX_C ?Nz261 ?cz261 ?mz261 ?dz261 ?_ ?az261 ?bz261; (case az261 => rfl); (case bz261 => rfl); (case Nz261 => k_asm); (case cz261 => rfl); (case mz261 => walk_at "my mem"); (case dz261 => assumption); k_whole) | (refine' nameX_K ?Fz261 ?Xz261 ?Tz261 ?ez261 ?_ ?az261 ?bz261; (case Fz261 => k_asm); (case Xz261 => k_asm); (case Tz261 => k_asm); (case az261 => rfl); (case bz261 => rfl); (case ez261 => k_is); k_whole) | (refine' nameX_B ?Fz261 ?Xz261 ?Tz261 ?ez261 ?vz261 ?nz261 ?_ ?az261 ?bz261; (case Fz261 => k_asm); (case Xz261 => k_asm); (case Tz261 => k_asm); (case az261 => rfl); (case bz261 => rfl); (case ez261 => k_is); (case vz261 => boot_fast); (case nz261 => decide); k_whole))))); (try dsimp only)) | (dsimp only; (with_reducible ((k_here; (with_reducible show wpAny _ _ (eval _ (envX _ _ _ _ _ _)) _ _ _); k_dflt (first | (refine' nameX_L ?Fz261 ?vz261 ?_ ?az261 ?bz261; (case Fz261 => k_asm); (case az261 => rfl); (case bz261 => rfl); (case vz261 => rfl); k_whole) | (refine' nameX_C ?Nz261 ?cz261 ?mz261 ?dz261 ?_ ?az261 ?bz261; (case az261 => rfl); (case bz261 => rfl); (case Nz261 => k_asm); (case cz261 => rfl); (case mz261 => walk_at "my mem"); (case dz261 => assumption); k_whole) | (refine' nameX_K ?Fz261 ?Xz261 ?Tz261 ?ez261 ?_ ?az261 ?bz261; (case Fz261 => k_asm); (case Xz261 => k_asm); (case Tz261 => k_asm); (case az261 => rfl); (case bz261 => rfl); (case ez261 => k_is); k_whole) | (refine' nameX_B ?Fz261 ?Xz261 ?Tz261 ?ez261 ?vz261 ?nz261 ?_ ?az261 ?bz261; (case Fz261 => k_asm); (case Xz261 => k_asm); (case Tz261 => k_asm); (case az261 => rfl); (case bz261 => rfl); (case ez261 => k_is); (case vz261 => boot_fast); (case nz261 => decide); k_whole))))); (try dsimp only)))
      iterate 2 (first | (k_unfold; (try dsimp only)) | (k_end; wrow_close) | (walk1; (try dsimp only)) | (dsimp only; walk1; (try dsimp only)) | (leave1; walk_say "STEP leave1"; try dsimp only))
      (first | ((with_reducible ((k_here; (with_reducible show wpAny _ _ (eval _ (envX _ _ _ _ _ _)) _ _ _); k_dflt (first | (refine' nameX_L ?Fz262 ?vz262 ?_ ?az262 ?bz262; (case Fz262 => k_asm); (case az262 => rfl); (case bz262 => rfl); (case vz262 => rfl); k_whole) | (refine' nameX_C ?Nz262 ?cz262 ?mz262 ?dz262 ?_ ?az262 ?bz262; (case az262 => rfl); (case bz262 => rfl); (case Nz262 => k_asm); (case cz262 => rfl); (case mz262 => walk_at "my mem"); (case dz262 => assumption); k_whole) | (refine' nameX_K ?Fz262 ?Xz262 ?Tz262 ?ez262 ?_ ?az262 ?bz262; (case Fz262 => k_asm); (case Xz262 => k_asm); (case Tz262 => k_asm); (case az262 => rfl); (case bz262 => rfl); (case ez262 => k_is); k_whole) | (refine' nameX_B ?Fz262 ?Xz262 ?Tz262 ?ez262 ?vz262 ?nz262 ?_ ?az262 ?bz262; (case Fz262 => k_asm); (case Xz262 => k_asm); (case Tz262 => k_asm); (case az262 => rfl); (case bz262 => rfl); (case ez262 => k_is); (case vz262 => boot_fast); (case nz262 => decide); k_whole))))); (try dsimp only)) | (dsimp only; (with_reducible ((k_here; (with_reducible show wpAny _ _ (eval _ (envX _ _ _ _ _ _)) _ _ _); k_dflt (first | (refine' nameX_L ?Fz262 ?vz262 ?_ ?az262 ?bz262; (case Fz262 => k_asm); (case az262 => rfl); (case bz262 => rfl); (case vz262 => rfl); k_whole) | (refine' nameX_C ?Nz262 ?cz262 ?mz262 ?dz262 ?_ ?az262 ?bz262; (case az262 => rfl); (case bz262 => rfl); (case Nz262 => k_asm); (case cz262 => rfl); (case mz262 => walk_at "my mem"); (case dz262 => assumption); k_whole) | (refine' nameX_K ?Fz262 ?Xz262 ?Tz262 ?ez262 ?_ ?az262 ?bz262; (case Fz262 => k_asm); (case Xz262 => k_asm); (case Tz262 => k_asm); (case az262 => rfl); (case bz262 => rfl); (case ez262 => k_is); k_whole) | (refine' nameX_B ?Fz262 ?Xz262 ?Tz262 ?ez262 ?vz262 ?nz262 ?_ ?az262 ?bz262; (case Fz262 => k_asm); (case Xz262 => k_asm); (case Tz262 => k_asm); (case az262 => rfl); (case bz262 => rfl); (case ez262 => k_is); (case vz262 => boot_fast); (case nz262 => decide); k_whole))))); (try dsimp only)))
      iterate 1 (first | (k_unfold; (try dsimp only)) | (k_end; wrow_close) | (walk1; (try dsimp only)) | (dsimp only; walk1; (try dsimp only)) | (leave1; walk_say "STEP leave1"; try dsimp only))
      (first | ((with_reducible ((k_here; (with_reducible first | show wpAny _ _ (subscriptTail (Expr.Name (Str.ofString "pair") _) _ (Value.ref _) (Value.int _ _)) _ _ _ | show wpAny _ _ (subscriptTail (Expr.Name (Str.ofString "told") _) _ (Value.ref _) (Value.int _ _)) _ _ _); k_dflt (refine' item_tupleT ?tz263 ?az263 ?bz263 ?cz263 ?dz263 ?_; (case tz263 => exact News.isTup (by k_asm) (by walk_at "my mem")); (case az263 => decide); (case bz263 => decide); (case cz263 => rfl); (case dz263 => rfl); k_whole)))); (try dsimp only)) | (dsimp only; (with_reducible ((k_here; (with_reducible first | show wpAny _ _ (subscriptTail (Expr.Name (Str.ofString "pair") _) _ (Value.ref _) (Value.int _ _)) _ _ _ | show wpAny _ _ (subscriptTail (Expr.Name (Str.ofString "told") _) _ (Value.ref _) (Value.int _ _)) _ _ _); k_dflt (refine' item_tupleT ?tz263 ?az263 ?bz263 ?cz263 ?dz263 ?_; (case tz263 => exact News.isTup (by k_asm) (by walk_at "my mem")); (case az263 => decide); (case bz263 => decide); (case cz263 => rfl); (case dz263 => rfl); k_whole)))); (try dsimp only)))
      iterate 13 (first | (k_unfold; (try dsimp only)) | (k_end; wrow_close) | (walk1; (try dsimp only)) | (dsimp only; walk1; (try dsimp only)) | (leave1; walk_say "STEP leave1"; try dsimp only))
      (first | ((with_reducible ((k_here; (with_reducible show wpAny _ _ (eval _ (envX _ _ _ _ _ _)) _ _ _); k_dflt (first | (refine' nameX_L ?Fz264 ?vz264 ?_ ?az264 ?bz264; (case Fz264 => k_asm); (case az264 => rfl); (case bz264 => rfl); (case vz264 => rfl); k_whole) | (refine' nameX_C ?Nz264 ?cz264 ?mz264 ?dz264 ?_ ?az264 ?bz264; (case az264 => rfl); (case bz264 => rfl); (case Nz264 => k_asm); (case cz264 => rfl); (case mz264 => walk_at "my mem"); (case dz264 => assumption); k_whole) | (refine' nameX_K ?Fz264 ?Xz264 ?Tz264 ?ez264 ?_ ?az264 ?bz264; (case Fz264 => k_asm); (case Xz264 => k_asm); (case Tz264 => k_asm); (case az264 => rfl); (case bz264 => rfl); (case ez264 => k_is); k_whole) | (refine' nameX_B ?Fz264 ?Xz264 ?Tz264 ?ez264 ?vz264 ?nz264 ?_ ?az264 ?bz264; (case Fz264 => k_asm); (case Xz264 => k_asm); (case Tz264 => k_asm); (case az264 => rfl); (case bz264 => rfl); (case ez264 => k_is); (case vz264 => boot_fast); (case nz264 => decide); k_whole))))); (try dsimp only)) | (dsimp only; (with_reducible ((k_here; (with_reducible show wpAny _ _ (eval _ (envX _ _ _ _ _ _)) _ _ _); k_dflt (first | (refine' nameX_L ?Fz264 ?vz264 ?_ ?az264 ?bz264; (case Fz264 => k_asm); (case az264 => rfl); (case bz264 => rfl); (case vz264 => rfl); k_whole) | (refine' nameX_C ?Nz264 ?cz264 ?mz264 ?dz264 ?_ ?az264 ?bz264; (case az264 => rfl); (case bz264 => rfl); (case Nz264 => k_asm); (case cz264 => rfl); (case mz264 => walk_at "my mem"); (case dz264 => assumption); k_whole) | (refine' nameX_K ?Fz264 ?Xz264 ?Tz264 ?ez264 ?_ ?az264 ?bz264; (case Fz264 => k_asm); (case Xz264 => k_asm); (case Tz264 => k_asm); (case az264 => rfl); (case bz264 => rfl); (case ez264 => k_is); k_whole) | (refine' nameX_B ?Fz264 ?Xz264 ?Tz264 ?ez264 ?vz264 ?nz264 ?_ ?az264 ?bz264; (case Fz264 => k_asm); (case Xz264 => k_asm); (case Tz264 => k_asm); (case az264 => rfl); (case bz264 => rfl); (case ez264 => k_is); (case vz264 => boot_fast); (case nz264 => decide); k_whole))))); (try dsimp only)))
      iterate 1 (first | (k_unfold; (try dsimp only)) | (k_end; wrow_close) | (walk1; (try dsimp only)) | (dsimp only; walk1; (try dsimp only)) | (leave1; walk_say "STEP leave1"; try dsimp only))
      (first | ((with_reducible ((k_here; (with_reducible first | show wpAny _ _ (subscriptTail (Expr.Name (Str.ofString "pair") _) _ (Value.ref _) (Value.int _ _)) _ _ _ | show wpAny _ _ (subscriptTail (Expr.Name (Str.ofString "told") _) _ (Value.ref _) (Value.int _ _)) _ _ _); k_dflt (refine' item_tupleT ?tz265 ?az265 ?bz265 ?cz265 ?dz265 ?_; (case tz265 => exact News.isTup (by k_asm) (by walk_at "my mem")); (case az265 => decide); (case bz265 => decide); (case cz265 => rfl); (case dz265 => rfl); k_whole)))); (try dsimp only)) | (dsimp only; (with_reducible ((k_here; (with_reducible first | show wpAny _ _ (subscriptTail (Expr.Name (Str.ofString "pair") _) _ (Value.ref _) (Value.int _ _)) _ _ _ | show wpAny _ _ (subscriptTail (Expr.Name (Str.ofString "told") _) _ (Value.ref _) (Value.int _ _)) _ _ _); k_dflt (refine' item_tupleT ?tz265 ?az265 ?bz265 ?cz265 ?dz265 ?_; (case tz265 => exact News.isTup (by k_asm) (by walk_at "my mem")); (case az265 => decide); (case bz265 => decide); (case cz265 => rfl); (case dz265 => rfl); k_whole)))); (try dsimp only)))
      iterate 6 (first | (k_unfold; (try dsimp only)) | (k_end; wrow_close) | (walk1; (try dsimp only)) | (dsimp only; walk1; (try dsimp only)) | (leave1; walk_say "STEP leave1"; try dsimp only))
      (first | ((with_reducible ((k_here; (with_reducible show wpAny _ _ (eval _ (envX _ _ _ _ _ _)) _ _ _); k_dflt (first | (refine' nameX_L ?Fz266 ?vz266 ?_ ?az266 ?bz266; (case Fz266 => k_asm); (case az266 => rfl); (case bz266 => rfl); (case vz266 => rfl); k_whole) | (refine' nameX_C ?Nz266 ?cz266 ?mz266 ?dz266 ?_ ?az266 ?bz266; (case az266 => rfl); (case bz266 => rfl); (case Nz266 => k_asm); (case cz266 => rfl); (case mz266 => walk_at "my mem"); (case dz266 => assumption); k_whole) | (refine' nameX_K ?Fz266 ?Xz266 ?Tz266 ?ez266 ?_ ?az266 ?bz266; (case Fz266 => k_asm); (case Xz266 => k_asm); (case Tz266 => k_asm); (case az266 => rfl); (case bz266 => rfl); (case ez266 => k_is); k_whole) | (refine' nameX_B ?Fz266 ?Xz266 ?Tz266 ?ez266 ?vz266 ?nz266 ?_ ?az266 ?bz266; (case Fz266 => k_asm); (case Xz266 => k_asm); (case Tz266 => k_asm); (case az266 => rfl); (case bz266 => rfl); (case ez266 => k_is); (case vz266 => boot_fast); (case nz266 => decide); k_whole))))); (try dsimp only)) | (dsimp only; (with_reducible ((k_here; (with_reducible show wpAny _ _ (eval _ (envX _ _ _ _ _ _)) _ _ _); k_dflt (first | (refine' nameX_L ?Fz266 ?vz266 ?_ ?az266 ?bz266; (case Fz266 => k_asm); (case az266 => rfl); (case bz266 => rfl); (case vz266 => rfl); k_whole) | (refine' nameX_C ?Nz266 ?cz266 ?mz266 ?dz266 ?_ ?az266 ?bz266; (case az266 => rfl); (case bz266 => rfl); (case Nz266 => k_asm); (case cz266 => rfl); (case mz266 => walk_at "my mem"); (case dz266 => assumption); k_whole) | (refine' nameX_K ?Fz266 ?Xz266 ?Tz266 ?ez266 ?_ ?az266 ?bz266; (case Fz266 => k_asm); (case Xz266 => k_asm); (case Tz266 => k_asm); (case az266 => rfl); (case bz266 => rfl); (case ez266 => k_is); k_whole) | (refine' nameX_B ?Fz266 ?Xz266 ?Tz266 ?ez266 ?vz266 ?nz266 ?_ ?az266 ?bz266; (case Fz266 => k_asm); (case Xz266 => k_asm); (case Tz266 => k_asm); (case az266 => rfl); (case bz266 => rfl); (case ez266 => k_is); (case vz266 => boot_fast); (case nz266 => decide); k_whole))))); (try dsimp only)))
      iterate 12 (first | (k_unfold; (try dsimp only)) | (k_end; wrow_close) | (walk1; (try dsimp only)) | (dsimp only; walk1; (try dsimp only)) | (leave1; walk_say "STEP leave1"; try dsimp only))
      (first | ((with_reducible ((k_here; (with_reducible show wpAny _ _ (eval _ (envX _ _ _ _ _ _)) _ _ _); k_dflt (first | (refine' nameX_L ?Fz267 ?vz267 ?_ ?az267 ?bz267; (case Fz267 => k_asm); (case az267 => rfl); (case bz267 => rfl); (case vz267 => rfl); k_whole) | (refine' nameX_C ?Nz267 ?cz267 ?mz267 ?dz267 ?_ ?az267 ?bz267; (case az267 => rfl); (case bz267 => rfl); (case Nz267 => k_asm); (case cz267 => rfl); (case mz267 => walk_at "my mem"); (case dz267 => assumption); k_whole) | (refine' nameX_K ?Fz267 ?Xz267 ?Tz267 ?ez267 ?_ ?az267 ?bz267; (case Fz267 => k_asm); (case Xz267 => k_asm); (case Tz267 => k_asm); (case az267 => rfl); (case bz267 => rfl); (case ez267 => k_is); k_whole) | (refine' nameX_B ?Fz267 ?Xz267 ?Tz267 ?ez267 ?vz267 ?nz267 ?_ ?az267 ?bz267; (case Fz267 => k_asm); (case Xz267 => k_asm); (case Tz267 => k_asm); (case az267 => rfl); (case bz267 => rfl); (case ez267 => k_is); (case vz267 => boot_fast); (case nz267 => decide); k_whole))))); (try dsimp only)) | (dsimp only; (with_reducible ((k_here; (with_reducible show wpAny _ _ (eval _ (envX _ _ _ _ _ _)) _ _ _); k_dflt (first | (refine' nameX_L ?Fz267 ?vz267 ?_ ?az267 ?bz267; (case Fz267 => k_asm); (case az267 => rfl); (case bz267 => rfl); (case vz267 => rfl); k_whole) | (refine' nameX_C ?Nz267 ?cz267 ?mz267 ?dz267 ?_ ?az267 ?bz267; (case az267 => rfl); (case bz267 => rfl); (case Nz267 => k_asm); (case cz267 => rfl); (case mz267 => walk_at "my mem"); (case dz267 => assumption); k_whole) | (refine' nameX_K ?Fz267 ?Xz267 ?Tz267 ?ez267 ?_ ?az267 ?bz267; (case Fz267 => k_asm); (case Xz267 => k_asm); (case Tz267 => k_asm); (case az267 => rfl); (case bz267 => rfl); (case ez267 => k_is); k_whole) | (refine' nameX_B ?Fz267 ?Xz267 ?Tz267 ?ez267 ?vz267 ?nz267 ?_ ?az267 ?bz267; (case Fz267 => k_asm); (case Xz267 => k_asm); (case Tz267 => k_asm); (case az267 => rfl); (case bz267 => rfl); (case ez267 => k_is); (case vz267 => boot_fast); (case nz267 => decide); k_whole))))); (try dsimp only)))
      iterate 8 (first | (k_unfold; (try dsimp only)) | (k_end; wrow_close) | (walk1; (try dsimp only)) | (dsimp only; walk1; (try dsimp only)) | (leave1; walk_say "STEP leave1"; try dsimp only))
      (first | ((with_reducible ((k_here; (with_reducible show wpAny _ _ (eval _ (envX _ _ _ _ _ _)) _ _ _); k_dflt (first | (refine' nameX_L ?Fz268 ?vz268 ?_ ?az268 ?bz268; (case Fz268 => k_asm); (case az268 => rfl); (case bz268 => rfl); (case vz268 => rfl); k_whole) | (refine' nameX_C ?Nz268 ?cz268 ?mz268 ?dz268 ?_ ?az268 ?bz268; (case az268 => rfl); (case bz268 => rfl); (case Nz268 => k_asm); (case cz268 => rfl); (case mz268 => walk_at "my mem"); (case dz268 => assumption); k_whole) | (refine' nameX_K ?Fz268 ?Xz268 ?Tz268 ?ez268 ?_ ?az268 ?bz268; (case Fz268 => k_asm); (case Xz268 => k_asm); (case Tz268 => k_asm); (case az268 => rfl); (case bz268 => rfl); (case ez268 => k_is); k_whole) | (refine' nameX_B ?Fz268 ?Xz268 ?Tz268 ?ez268 ?vz268 ?nz268 ?_ ?az268 ?bz268; (case Fz268 => k_asm); (case Xz268 => k_asm); (case Tz268 => k_asm); (case az268 => rfl); (case bz268 => rfl); (case ez268 => k_is); (case vz268 => boot_fast); (case nz268 => decide); k_whole))))); (try dsimp only)) | (dsimp only; (with_reducible ((k_here; (with_reducible show wpAny _ _ (eval _ (envX _ _ _ _ _ _)) _ _ _); k_dflt (first | (refine' nameX_L ?Fz268 ?vz268 ?_ ?az268 ?bz268; (case Fz268 => k_asm); (case az268 => rfl); (case bz268 => rfl); (case vz268 => rfl); k_whole) | (refine' nameX_C ?Nz268 ?cz268 ?mz268 ?dz268 ?_ ?az268 ?bz268; (case az268 => rfl); (case bz268 => rfl); (case Nz268 => k_asm); (case cz268 => rfl); (case mz268 => walk_at "my mem"); (case dz268 => assumption); k_whole) | (refine' nameX_K ?Fz268 ?Xz268 ?Tz268 ?ez268 ?_ ?az268 ?bz268; (case Fz268 => k_asm); (case Xz268 => k_asm); (case Tz268 => k_asm); (case az268 => rfl); (case bz268 => rfl); (case ez268 => k_is); k_whole) | (refine' nameX_B ?Fz268 ?Xz268 ?Tz268 ?ez268 ?vz268 ?nz268 ?_ ?az268 ?bz268; (case Fz268 => k_asm); (case Xz268 => k_asm); (case Tz268 => k_asm); (case az268 => rfl); (case bz268 => rfl); (case ez268 => k_is); (case vz268 => boot_fast); (case nz268 => decide); k_whole))))); (try dsimp only)))
      iterate 1 (first | (k_unfold; (try dsimp only)) | (k_end; wrow_close) | (walk1; (try dsimp only)) | (dsimp only; walk1; (try dsimp only)) | (leave1; walk_say "STEP leave1"; try dsimp only))
      (first | ((with_reducible ((k_here; (with_reducible first | show wpAny _ _ (subscriptTail (Expr.Name (Str.ofString "pair") _) _ (Value.ref _) (Value.int _ _)) _ _ _ | show wpAny _ _ (subscriptTail (Expr.Name (Str.ofString "told") _) _ (Value.ref _) (Value.int _ _)) _ _ _); k_dflt (refine' item_tupleT ?tz269 ?az269 ?bz269 ?cz269 ?dz269 ?_; (case tz269 => exact News.isTup (by k_asm) (by walk_at "my mem")); (case az269 => decide); (case bz269 => decide); (case cz269 => rfl); (case dz269 => rfl); k_whole)))); (try dsimp only)) | (dsimp only; (with_reducible ((k_here; (with_reducible first | show wpAny _ _ (subscriptTail (Expr.Name (Str.ofString "pair") _) _ (Value.ref _) (Value.int _ _)) _ _ _ | show wpAny _ _ (subscriptTail (Expr.Name (Str.ofString "told") _) _ (Value.ref _) (Value.int _ _)) _ _ _); k_dflt (refine' item_tupleT ?tz269 ?az269 ?bz269 ?cz269 ?dz269 ?_; (case tz269 => exact News.isTup (by k_asm) (by walk_at "my mem")); (case az269 => decide); (case bz269 => decide); (case cz269 => rfl); (case dz269 => rfl); k_whole)))); (try dsimp only)))
      iterate 6 (first | (k_unfold; (try dsimp only)) | (k_end; wrow_close) | (walk1; (try dsimp only)) | (dsimp only; walk1; (try dsimp only)) | (leave1; walk_say "STEP leave1"; try dsimp only))
      (first | ((with_reducible ((k_here; (with_reducible show wpAny _ _ (eval _ (envX _ _ _ _ _ _)) _ _ _); k_dflt (first | (refine' nameX_L ?Fz270 ?vz270 ?_ ?az270 ?bz270; (case Fz270 => k_asm); (case az270 => rfl); (case bz270 => rfl); (case vz270 => rfl); k_whole) | (refine' nameX_C ?Nz270 ?cz270 ?mz270 ?dz270 ?_ ?az270 ?bz270; (case az270 => rfl); (case bz270 => rfl); (case Nz270 => k_asm); (case cz270 => rfl); (case mz270 => walk_at "my mem"); (case dz270 => assumption); k_whole) | (refine' nameX_K ?Fz270 ?Xz270 ?Tz270 ?ez270 ?_ ?az270 ?bz270; (case Fz270 => k_asm); (case Xz270 => k_asm); (case Tz270 => k_asm); (case az270 => rfl); (case bz270 => rfl); (case ez270 => k_is); k_whole) | (refine' nameX_B ?Fz270 ?Xz270 ?Tz270 ?ez270 ?vz270 ?nz270 ?_ ?az270 ?bz270; (case Fz270 => k_asm); (case Xz270 => k_asm); (case Tz270 => k_asm); (case az270 => rfl); (case bz270 => rfl); (case ez270 => k_is); (case vz270 => boot_fast); (case nz270 => decide); k_whole))))); (try dsimp only)) | (dsimp only; (with_reducible ((k_here; (with_reducible show wpAny _ _ (eval _ (envX _ _ _ _ _ _)) _ _ _); k_dflt (first | (refine' nameX_L ?Fz270 ?vz270 ?_ ?az270 ?bz270; (case Fz270 => k_asm); (case az270 => rfl); (case bz270 => rfl); (case vz270 => rfl); k_whole) | (refine' nameX_C ?Nz270 ?cz270 ?mz270 ?dz270 ?_ ?az270 ?bz270; (case az270 => rfl); (case bz270 => rfl); (case Nz270 => k_asm); (case cz270 => rfl); (case mz270 => walk_at "my mem"); (case dz270 => assumption); k_whole) | (refine' nameX_K ?Fz270 ?Xz270 ?Tz270 ?ez270 ?_ ?az270 ?bz270; (case Fz270 => k_asm); (case Xz270 => k_asm); (case Tz270 => k_asm); (case az270 => rfl); (case bz270 => rfl); (case ez270 => k_is); k_whole) | (refine' nameX_B ?Fz270 ?Xz270 ?Tz270 ?ez270 ?vz270 ?nz270 ?_ ?az270 ?bz270; (case Fz270 => k_asm); (case Xz270 => k_asm); (case Tz270 => k_asm); (case az270 => rfl); (case bz270 => rfl); (case ez270 => k_is); (case vz270 => boot_fast); (case nz270 => decide); k_whole))))); (try dsimp only)))
      iterate 3 (first | (k_unfold; (try dsimp only)) | (k_end; wrow_close) | (walk1; (try dsimp only)) | (dsimp only; walk1; (try dsimp only)) | (leave1; walk_say "STEP leave1"; try dsimp only))
      (first | ((with_reducible ((k_here; (with_reducible show wpAny _ _ (eval _ (envX _ _ _ _ _ _)) _ _ _); k_dflt (first | (refine' nameX_L ?Fz271 ?vz271 ?_ ?az271 ?bz271; (case Fz271 => k_asm); (case az271 => rfl); (case bz271 => rfl); (case vz271 => rfl); k_whole) | (refine' nameX_C ?Nz271 ?cz271 ?mz271 ?dz271 ?_ ?az271 ?bz271; (case az271 => rfl); (case bz271 => rfl); (case Nz271 => k_asm); (case cz271 => rfl); (case mz271 => walk_at "my mem"); (case dz271 => assumption); k_whole) | (refine' nameX_K ?Fz271 ?Xz271 ?Tz271 ?ez271 ?_ ?az271 ?bz271; (case Fz271 => k_asm); (case Xz271 => k_asm); (case Tz271 => k_asm); (case az271 => rfl); (case bz271 => rfl); (case ez271 => k_is); k_whole) | (refine' nameX_B ?Fz271 ?Xz271 ?Tz271 ?ez271 ?vz271 ?nz271 ?_ ?az271 ?bz271; (case Fz271 => k_asm); (case Xz271 => k_asm); (case Tz271 => k_asm); (case az271 => rfl); (case bz271 => rfl); (case ez271 => k_is); (case vz271 => boot_fast); (case nz271 => decide); k_whole))))); (try dsimp only)) | (dsimp only; (with_reducible ((k_here; (with_reducible show wpAny _ _ (eval _ (envX _ _ _ _ _ _)) _ _ _); k_dflt (first | (refine' nameX_L ?Fz271 ?vz271 ?_ ?az271 ?bz271; (case Fz271 => k_asm); (case az271 => rfl); (case bz271 => rfl); (case vz271 => rfl); k_whole) | (refine' nameX_C ?Nz271 ?cz271 ?mz271 ?dz271 ?_ ?az271 ?bz271; (case az271 => rfl); (case bz271 => rfl); (case Nz271 => k_asm); (case cz271 => rfl); (case mz271 => walk_at "my mem"); (case dz271 => assumption); k_whole) | (refine' nameX_K ?Fz271 ?Xz271 ?Tz271 ?ez271 ?_ ?az271 ?bz271; (case Fz271 => k_asm); (case Xz271 => k_asm); (case Tz271 => k_asm); (case az271 => rfl); (case bz271 => rfl); (case ez271 => k_is); k_whole) | (refine' nameX_B ?Fz271 ?Xz271 ?Tz271 ?ez271 ?vz271 ?nz271 ?_ ?az271 ?bz271; (case Fz271 => k_asm); (case Xz271 => k_asm); (case Tz271 => k_asm); (case az271 => rfl); (case bz271 => rfl); (case ez271 => k_is); (case vz271 => boot_fast); (case nz271 => decide); k_whole))))); (try dsimp only)))
      iterate 1 (first | (k_unfold; (try dsimp only)) | (k_end; wrow_close) | (walk1; (try dsimp only)) | (dsimp only; walk1; (try dsimp only)) | (leave1; walk_say "STEP leave1"; try dsimp only))
      (first | ((with_reducible ((k_here; (with_reducible first | show wpAny _ _ (subscriptTail (Expr.Name (Str.ofString "pair") _) _ (Value.ref _) (Value.int _ _)) _ _ _ | show wpAny _ _ (subscriptTail (Expr.Name (Str.ofString "told") _) _ (Value.ref _) (Value.int _ _)) _ _ _); k_dflt (refine' item_tupleT ?tz272 ?az272 ?bz272 ?cz272 ?dz272 ?_; (case tz272 => exact News.isTup (by k_asm) (by walk_at "my mem")); (case az272 => decide); (case bz272 => decide); (case cz272 => rfl); (case dz272 => rfl); k_whole)))); (try dsimp only)) | (dsimp only; (with_reducible ((k_here; (with_reducible first | show wpAny _ _ (subscriptTail (Expr.Name (Str.ofString "pair") _) _ (Value.ref _) (Value.int _ _)) _ _ _ | show wpAny _ _ (subscriptTail (Expr.Name (Str.ofString "told") _) _ (Value.ref _) (Value.int _ _)) _ _ _); k_dflt (refine' item_tupleT ?tz272 ?az272 ?bz272 ?cz272 ?dz272 ?_; (case tz272 => exact News.isTup (by k_asm) (by walk_at "my mem")); (case az272 => decide); (case bz272 => decide); (case cz272 => rfl); (case dz272 => rfl); k_whole)))); (try dsimp only)))
      iterate 5 (first | (k_unfold; (try dsimp only)) | (k_end; wrow_close) | (walk1; (try dsimp only)) | (dsimp only; walk1; (try dsimp only)) | (leave1; walk_say "STEP leave1"; try dsimp only))
      rename Fr _ _ _ _ => F8
      rename News _ _ _ _ => N8
      have N9 : News h₀ L _ ((shA, listOf sv.toArray sn) :: (67, tab1 c1) :: (c1, oc1) :: (74, tab2 c2) :: (c2, oc2) :: rest) := cb_drop N8 (List.forall_mem_cons.mpr ⟨by walk_at "my mem", List.forall_mem_cons.mpr ⟨by walk_at "my mem", List.forall_mem_cons.mpr ⟨by walk_at "my mem", List.forall_mem_cons.mpr ⟨by walk_at "my mem", List.forall_mem_cons.mpr ⟨by walk_at "my mem", fun p hp => by walk_at "my mem"⟩⟩⟩⟩⟩)
      have n1 : c1 ≠ shA := ne_of_objs N9 (.tail _ (.tail _ (.head _))) (.head _) (fun e => by rw [e] at d1; cases d1)
      have n2 : c2 ≠ shA := ne_of_objs N9 (.tail _ (.tail _ (.tail _ (.tail _ (.head _))))) (.head _) (fun e => by rw [e] at d2; cases d2)
      have n3 : c2 ≠ 67 := ne_of_objs N9 (.tail _ (.tail _ (.tail _ (.tail _ (.head _))))) (.tail _ (.head _)) (tab_ne (TabSt.made (st := i2dInner) (qual := qI2d) c1 oc1 vs1 t1 d1 d1') d2 d2')
      refine my_append (vs := sv) [] F8 N9 (List.forall_mem_nil _) (List.forall_mem_cons.mpr ⟨O6, List.forall_mem_cons.mpr ⟨n1, List.forall_mem_cons.mpr ⟨O7, List.forall_mem_cons.mpr ⟨n2, O8⟩⟩⟩⟩) (by omega) ?_
      intro h9 F9 N10
      clear F8 N8 N9
      (try dsimp only)
      iterate 3 (first | (k_unfold; (try dsimp only)) | (k_end; wrow_close) | (walk1; (try dsimp only)) | (dsimp only; walk1; (try dsimp only)) | (leave1; walk_say "STEP leave1"; try dsimp only))
      refine' hQ _ _ #[rawInt (posOf i2dInner).line, rawInt (posOf i2dInner).col, .ref c1] #[rawInt (posOf d2iInner).line, rawInt (posOf d2iInner).col, .ref c2] [(c1, oc1)] [(c2, oc2)] _ _ _ ?sv (.made c1 oc1 vs1 t1 d1 d1') (.made c2 oc2 vs2 t2 d2 d2') ?o1 ?o2 ?o3 ?hn F9 ?hN
      case hN => exact N10
      case sv => exact ⟨_, by rw [← eq]; rfl⟩
      case o1 => exact offCons c67.symm (fun _ h => nomatch h)
      case o2 => exact offCons n3 (fun _ h => nomatch h)
      case o3 => exact offCons c74.symm (fun _ h => nomatch h)
      case hn => kst_all
end

end
-- L13
section
example : True := by w_top off; exact trivial
theorem RowsAre.get {ws : List (Option Int)} : ∀ {K : Nat} {r : List Rw} {k : Nat}, RowsAre ws K r → k ≤ K → ∃ a v n, (a, v, n) ∈ r ∧ (rwVals r)[k]? = some (.ref a) ∧ OvL (rowD ws k) v
  | _, _, k, .zero (a := a) (v := v) (n := n) h, hk => by
    obtain rfl : k = 0 := by omega
    exact ⟨a, v, n, .head _, rfl, h⟩
  | _, _, k, .succ (k := K) (a := a) (v := v) (n := n) (r := r) h h2, hk => by
    by_cases e : k = K + 1
    · subst e
      refine ⟨a, v, n, .head _, ?_, h2⟩
      have := h.len
      simp [rwVals, this]
    · obtain ⟨a', v', n', hm, hg, ho⟩ := RowsAre.get h (Nat.le_of_lt_succ (Nat.lt_of_le_of_ne hk e))
      refine ⟨a', v', n', .tail _ hm, ?_, ho⟩
      have hl := h.len
      simp only [rwVals, List.map_cons, List.reverse_cons] at hg ⊢
      rw [List.getElem?_append_left (by simp [hl]; omega)]
      exact hg
theorem rwLed_mem {r : List Rw} {a : Addr} {v : List Value} {n : Nat} (h : (a, v, n) ∈ r) : (a, listOf v.toArray n) ∈ rwLed r := List.mem_map_of_mem (f := fun x : Rw => (x.1, listOf x.2.1.toArray x.2.2)) h
theorem codes_off {st : Stmt} {q : Str} {ps : Array Value} {codes : Led} {h₀ h : Heap} {L I : Addr} {oI : Obj} {l : Led} (S : TabSt st q ps codes) (N : News h₀ L h l) (hs : ∀ p ∈ codes, p ∈ l) (hI : (I, oI) ∈ l) (hn : NoStr oI) : ∀ p ∈ codes, p.1 ≠ I := by
  cases S with
  | fresh => exact fun _ h => nomatch h
  | made c' oc vs t h1 h2 =>
    intro p hp
    rw [List.mem_singleton.mp hp]
    exact ne_of_objs N (hs _ (.head _)) hI (fun e => hn vs q t (e ▸ h1) h2)
theorem nostr_list (a : Array Value) (n : Nat) : NoStr (listOf a n) := fun vs q t h => by cases h
noncomputable def sharesL (ws : List (Option Int)) (j n : Nat) : List Int := (List.range n).filterMap fun k => bothO ((rowD ws 3).getD j none) ((rowD ws k).getD j none) (0 + (k : Int))
theorem sharesL_succ (ws : List (Option Int)) (j i : Nat) : sharesL ws j (i + 1) = sharesL ws j i ++ (bothO ((rowD ws 3).getD j none) ((rowD ws i).getD j none) (0 + (i : Int))).toList := by
  unfold sharesL
  rw [List.range_succ, List.filterMap_append]
  rw [List.filterMap_cons, List.filterMap_nil]
  cases bothO ((rowD ws 3).getD j none) ((rowD ws i).getD j none) (0 + (i : Int)) with
  | none => rfl
  | some x => rfl
theorem sharesL_len (ws : List (Option Int)) (j i : Nat) : (sharesL ws j i).length ≤ i := by
  unfold sharesL
  exact Nat.le_trans (List.length_filterMap_le _ _) (by simp)
inductive JK (ws : List (Option Int)) (j : Nat) (tv : Tok) (wk mA shA : Addr) (rest : Led) (i : Nat) (m₁ : Names) (nw : Led) : Prop
  | mk : ∀ sv sn ps1 ps2 codes1 codes2, (TabSt i2dInner qI2d ps1 codes1) → (TabSt d2iInner qD2i ps2 codes2) → (OwnOff codes1 [67]) → (OwnOff codes2 [67]) → (OwnOff codes2 [74]) → (IntsAre sv (sharesL ws j i)) → ((∀ p ∈ [(Str.ofString "walks", Value.ref wk), (Str.ofString "means", Value.ref mA), (Str.ofString "v", Value.int (0 + (j : Int)) tv), (Str.ofString "shares", Value.ref shA)], m₁ p.1 = some p.2)) → (nw = (shA, listOf sv.toArray sn) :: (67, tabObj ps1) :: (codes1 ++ (74, tabObj ps2) :: (codes2 ++ rest))) → JK ws j tv wk mA shA rest i m₁ nw


theorem permN {α : Type} {I s t u : α} {c d r : List α} : (I :: s :: t :: (c ++ u :: (d ++ r))).Perm (s :: t :: (c ++ u :: (d ++ I :: r))) := by
  have h := (List.perm_middle (l₁ := s :: t :: (c ++ u :: d)) (l₂ := r) (a := I)).symm
  simpa using h
theorem mem_mid {α : Type} {p t u : α} {c d r : List α} (h : p ∈ r) : p ∈ t :: (c ++ u :: (d ++ r)) := .tail _ (List.mem_append_right _ (.tail _ (List.mem_append_right _ h)))
section
variable {w : World} {p : Program} {loose : List Str} {mean : ExcName → Option Value} {mg mb : Str → Option Value}
theorem t_mv (j : Nat) (tv : Tok) (ws : List (Option Int)) (rws : List Rw) (wk mA : Addr) (wkn mn : Nat) (mv : List Value) (ps1 ps2 : Array Value) (codes1 codes2 rest : Led) (dp un : Nat) (gd : Option (List Code)) (fa : Addr) (ccd : Value) (outer : List Env) (A₀ : Around) (base h₀ : Heap) (L : Addr) (m : Str → Option Value) (s : Shared) (Q : Flow → Shared → Prop) (E : Value → Shared → Prop)
    (B : Below A₀ base outer h₀) (F : Fr h₀ L s.heap m) (X : (Mine.hd.heap_39 w.params).In h₀) (T : Top p loose mean mg mb h₀) (C1 : CodeHd base 71 67) (C2 : CodeHd base 78 74) (S1 : TabSt i2dInner qI2d ps1 codes1) (S2 : TabSt d2iInner qD2i ps2 codes2)
    (N : News h₀ L s.heap ((mA, listOf mv.toArray mn) :: (67, tabObj ps1) :: (codes1 ++ (74, tabObj ps2) :: (codes2 ++ rest))))
    (O1 : OwnOff codes1 [67]) (O2 : OwnOff codes2 [67]) (O3 : OwnOff codes2 [74]) (O4 : OwnOff rest [67]) (O5 : OwnOff rest [74]) (O6 : (67 : Nat) ≠ mA) (O7 : (74 : Nat) ≠ mA) (O8 : ∀ p ∈ rest, p.1 ≠ mA)
    (hd : dp + 300 < recursionLimit) (hu : un + 3000 < cLine) (hE : PassesOwn (model PySem.Challenge.rw_wo0033_01.row.prog w) (lawA dp un gd L fa ccd outer) (lawEnv L fa ccd) E)
    (m1 : (wk, listOf (rwVals rws).toArray wkn) ∈ rest) (m2 : ∀ p ∈ rwLed rws, p ∈ rest) (hrw : RowsAre ws 3 rws) (hwb : ∀ v, some v ∈ ws → 0 ≤ v ∧ v ≤ 19) (hj : j < 3) (hml : mv.length ≤ 100)
    (hk : ∀ p ∈ [(Str.ofString "walks", Value.ref wk), (Str.ofString "means", Value.ref mA), (Str.ofString "v", Value.int (0 + (j : Int)) tv)], m p.1 = some p.2)
    (hQ : ∀ mv' mn' ps1' ps2' codes1' codes2' m' h' tk', ((sharesL ws j 3 = [] ∧ mv' = mv) ∨ (∃ M t, M ∈ sharesL ws j 3 ∧ (∀ a ∈ sharesL ws j 3, M ≤ a) ∧ mv' = mv ++ [Value.int M t])) → TabSt i2dInner qI2d ps1' codes1' → TabSt d2iInner qD2i ps2' codes2' → OwnOff codes1' [67] → OwnOff codes2' [67] → OwnOff codes2' [74] →
      (∀ p ∈ [(Str.ofString "walks", Value.ref wk), (Str.ofString "means", Value.ref mA)], m' p.1 = some p.2) → Fr h₀ L h' m' → News h₀ L h' ((mA, listOf mv'.toArray mn') :: (67, tabObj ps1') :: (codes1' ++ (74, tabObj ps2') :: (codes2' ++ rest))) → Q .next { s with heap := h', toks := tk' }) :
    wpAny (model PySem.Challenge.rw_wo0033_01.row.prog w) (lawA dp un gd L fa ccd outer) (execs mvBody (lawEnv L fa ccd)) Q E s := by
  revert X; k_fill; intro X
  have hE0 := hE
  change wpAny _ (ktrTop dp un gd _ ⟨_, _, _, _, _⟩ L fa ccd _ outer) (execs (.Assign _ _ _ :: .For _ _ mkBody _ _ :: .If _ _ _ _ :: []) (envX _ ⟨_, _, _, _, _⟩ _ _ _ _)) _ _ _
  change PassesOwn _ (ktrTop dp un gd _ ⟨_, _, _, _, _⟩ L fa ccd _ outer) (envX _ ⟨_, _, _, _, _⟩ _ _ _ _) _ at hE
  replace F := fr_kst hk F
  dsimp only [kstB] at F
  iterate 5 (first | (k_unfold; (try dsimp only)) | (k_end; wrow_close) | (walk1; (try dsimp only)) | (dsimp only; walk1; (try dsimp only)) | (leave1; walk_say "STEP leave1"; try dsimp only))
  rename Addr => shA
  rename _ < _ ∧ _ < _ ∧ AllLt _ _ => l9
  have lt9 := ktn_ltOf l9.2.2
  have l74 : (74 : Nat) < shA := lt9 (74, tabObj ps2) (List.mem_append_right _ (.head _))
  have lrest : ∀ p ∈ rest, p.1 < shA := fun p hp => lt9 p (List.mem_append_right _ (.tail _ (List.mem_append_right _ hp)))
  iterate 3 (first | (k_unfold; (try dsimp only)) | (k_end; wrow_close) | (walk1; (try dsimp only)) | (dsimp only; walk1; (try dsimp only)) | (leave1; walk_say "STEP leave1"; try dsimp only))
  k_dflt (refine For_invV h₀ (by rfl) (by rfl) ?_ (by intro _; rfl) hE)
  iterate 1 (first | (k_unfold; (try dsimp only)) | (k_end; wrow_close) | (walk1; (try dsimp only)) | (dsimp only; walk1; (try dsimp only)) | (leave1; walk_say "STEP leave1"; try dsimp only))
  (first | ((with_reducible ((k_here; (with_reducible show wpAny _ _ (eval _ (envX _ _ _ _ _ _)) _ _ _); k_dflt (first | (refine' nameX_L ?Fz273 ?vz273 ?_ ?az273 ?bz273; (case Fz273 => k_asm); (case az273 => rfl); (case bz273 => rfl); (case vz273 => rfl); k_whole) | (refine' nameX_C ?Nz273 ?cz273 ?mz273 ?dz273 ?_ ?az273 ?bz273; (case az273 => rfl); (case bz273 => rfl); (case Nz273 => k_asm); (case cz273 => rfl); (case mz273 => walk_at "my mem"); (case dz273 => assumption); k_whole) | (refine' nameX_K ?Fz273 ?Xz273 ?Tz273 ?ez273 ?_ ?az273 ?bz273; (case Fz273 => k_asm); (case Xz273 => k_asm); (case Tz273 => k_asm); (case az273 => rfl); (case bz273 => rfl); (case ez273 => k_is); k_whole) | (refine' nameX_B ?Fz273 ?Xz273 ?Tz273 ?ez273 ?vz273 ?nz273 ?_ ?az273 ?bz273; (case Fz273 => k_asm); (case Xz273 => k_asm); (case Tz273 => k_asm); (case az273 => rfl); (case bz273 => rfl); (case ez273 => k_is); (case vz273 => boot_fast); (case nz273 => decide); k_whole))))); (try dsimp only)) | (dsimp only; (with_reducible ((k_here; (with_reducible show wpAny _ _ (eval _ (envX _ _ _ _ _ _)) _ _ _); k_dflt (first | (refine' nameX_L ?Fz273 ?vz273 ?_ ?az273 ?bz273; (case Fz273 => k_asm); (case az273 => rfl); (case bz273 => rfl); (case vz273 => rfl); k_whole) | (refine' nameX_C ?Nz273 ?cz273 ?mz273 ?dz273 ?_ ?az273 ?bz273; (case az273 => rfl); (case bz273 => rfl); (case Nz273 => k_asm); (case cz273 => rfl); (case mz273 => walk_at "my mem"); (case dz273 => assumption); k_whole) | (refine' nameX_K ?Fz273 ?Xz273 ?Tz273 ?ez273 ?_ ?az273 ?bz273; (case Fz273 => k_asm); (case Xz273 => k_asm); (case Tz273 => k_asm); (case az273 => rfl); (case bz273 => rfl); (case ez273 => k_is); k_whole) | (refine' nameX_B ?Fz273 ?Xz273 ?Tz273 ?ez273 ?vz273 ?nz273 ?_ ?az273 ?bz273; (case Fz273 => k_asm); (case Xz273 => k_asm); (case Tz273 => k_asm); (case az273 => rfl); (case bz273 => rfl); (case ez273 => k_is); (case vz273 => boot_fast); (case nz273 => decide); k_whole))))); (try dsimp only)))
  iterate 5 (first | (k_unfold; (try dsimp only)) | (k_end; wrow_close) | (walk1; (try dsimp only)) | (dsimp only; walk1; (try dsimp only)) | (leave1; walk_say "STEP leave1"; try dsimp only))
  rename Fr _ _ _ _ => F3
  rename News _ _ _ _ => N3
  rename IsRange _ _ _ _ _ _ _ _ => hR
  have N4 : News h₀ L _ ((shA, listOf #[] 0) :: (67, tabObj ps1) :: (codes1 ++ (74, tabObj ps2) :: (codes2 ++ (mA, listOf mv.toArray mn) :: rest))) := news_perm N3 (.cons _ permM)
  refine loopRangeI (n := 3) (JK ws j tv wk mA shA ((mA, listOf mv.toArray mn) :: rest)) rfl hR (by decide) (by rfl) F3 N4 ?h0 ?turn ?done
  case h0 =>
    refine ⟨[], 0, ps1, ps2, codes1, codes2, S1, S2, O1, O2, O3, .nil, ?hn, rfl⟩
    case hn => kst_all
  case turn =>
    clear F3 N3 N4
    rintro i m₁ nw t h tk I oI hno hi ⟨sv, sn, ps1, ps2, codes1, codes2, S1, S2, O1, O2, O3, hsv, hk, hnw⟩ hoff F9 N9
    subst hnw
    have N8 := news_perm N9 permN
    obtain ⟨a3, v3, n3, hm3, hg3, ho3⟩ := hrw.get (k := 3) (by omega)
    obtain ⟨ak, vk, nk, hmk, hgk, hok⟩ := hrw.get (k := i) (by omega)
    have l3 := ho3.length
    have lk := hok.length
    rw [rowD_len] at l3 lk
    obtain ⟨t3, h3⟩ := ovGet (k := j) ho3 (by rw [rowD_len]; exact hj)
    obtain ⟨t4, h4⟩ := ovGet (k := j) hok (by rw [rowD_len]; exact hj)
    have hvl : (rwVals rws).length = 4 := by have := hrw.len; simp [rwVals, this]
    have hsl := hsv.length
    have hsl2 := sharesL_len ws j i
    have offI : ∀ p ∈ (mA, listOf mv.toArray mn) :: rest, p.1 ≠ I := fun p hp => hoff p (.tail _ (mem_mid hp))
    refine t_k (0 + (i : Int)) (0 + (j : Int)) t tv ((rowD ws 3).getD j none) ((rowD ws i).getD j none) t3 t4 wk mA shA a3 ak (rwVals rws) v3 vk sv wkn n3 nk sn ps1 ps2 codes1 codes2 ((I, oI) :: (mA, listOf mv.toArray mn) :: rest) dp un gd fa ccd outer A₀ base h₀ L _ _ _ E B F9 X T C1 C2 S1 S2 N8 O1 O2 O3 ?o4 ?o5 (Nat.ne_of_lt l9.2.1) (Nat.ne_of_lt l74) ?o8 hd hu
      (.tail _ (.tail _ m1)) (.tail _ (.tail _ (m2 _ (rwLed_mem hm3)))) (.tail _ (.tail _ (m2 _ (rwLed_mem hmk)))) (by omega) (by omega) (by omega) (by omega) hvl hg3 ?hgk l3.symm lk.symm ?h3 ?h4 (by omega) ?b3 ?bk ?hk ?hQ
    case o4 => exact offCons (fun e => hoff _ (.tail _ (.head _)) e.symm) (offCons O6.symm O4)
    case o5 => exact offCons (fun e => hoff (74, tabObj ps2) (.tail _ (.tail _ (List.mem_append_right _ (.head _)))) e.symm) (offCons O7.symm O5)
    case o8 => exact List.forall_mem_cons.mpr ⟨fun e => hoff _ (.head _) e.symm, List.forall_mem_cons.mpr ⟨Nat.ne_of_lt l9.1, fun p hp => Nat.ne_of_lt (lrest p hp)⟩⟩
    case hgk => rw [tn0 i]; exact hgk
    case h3 => rw [tn0 j]; exact h3
    case h4 => rw [tn0 j]; exact h4
    case b3 => intro x hx; have := rowD_bd hwb 3 x (getD_mem hx); omega
    case bk => intro x hx; have := rowD_bd hwb i x (getD_mem hx); omega
    case hk => exact List.forall_mem_cons.mpr ⟨rfl, List.forall_mem_cons.mpr ⟨hk _ (by simp), List.forall_mem_cons.mpr ⟨hk _ (by simp), List.forall_mem_cons.mpr ⟨hk _ (by simp), List.forall_mem_cons.mpr ⟨hk _ (by simp), List.forall_mem_nil _⟩⟩⟩⟩⟩
    case hQ =>
      intro sv' sn' ps1' ps2' codes1' codes2' m' h' tk' hsv' S1' S2' O1' O2' O3' hk' F' N'
      have c1o := codes_off S1' N' (fun p hp => .tail _ (.tail _ (List.mem_append_left _ hp))) (.tail _ (mem_mid (.head _))) hno
      have c2o := codes_off S2' N' (fun p hp => .tail _ (.tail _ (List.mem_append_right _ (.tail _ (List.mem_append_left _ hp))))) (.tail _ (mem_mid (.head _))) hno
      refine ⟨h', tk', m', _, rfl, F', news_perm N' permN.symm, ?hoff2, sv', sn', ps1', ps2', codes1', codes2', S1', S2', O1', O2', O3', ?hs, hk', rfl⟩
      case hoff2 =>
        intro p hp e
        have e := List.mem_singleton.mp e
        rcases List.mem_cons.mp hp with rfl | hp
        · exact hoff _ (.head _) e
        rcases List.mem_cons.mp hp with rfl | hp
        · exact hoff _ (.tail _ (.head _)) e
        rcases List.mem_append.mp hp with hp | hp
        · exact c1o p hp e
        rcases List.mem_cons.mp hp with rfl | hp
        · exact hoff (74, tabObj ps2) (.tail _ (.tail _ (List.mem_append_right _ (.head _)))) e
        rcases List.mem_append.mp hp with hp | hp
        · exact c2o p hp e
        · exact offI p hp e
      case hs =>
        rw [sharesL_succ]
        cases hb : bothO ((rowD ws 3).getD j none) ((rowD ws i).getD j none) (0 + (i : Int)) with
        | none => rw [hb] at hsv'; rw [show sv' = sv from hsv', Option.toList_none, List.append_nil]; exact hsv
        | some x => rw [hb] at hsv'; obtain ⟨t9, e9⟩ := hsv'; rw [e9]; exact intsApp hsv (.cons _ _ .nil)
  case done =>
    clear F3 N3 N4
    rintro m' nw' h' tk' ⟨sv, sn, ps1, ps2, codes1, codes2, S1, S2, O1, O2, O3, hsv, hk, hnw⟩ F' N'
    subst hnw
    have F2 := fr_kst hk F'
    dsimp only [kstB] at F2
    have N2 : News h₀ L h' ((shA, listOf sv.toArray sn) :: (mA, listOf mv.toArray mn) :: (67, tabObj ps1) :: (codes1 ++ (74, tabObj ps2) :: (codes2 ++ rest))) := news_perm N' (.cons _ permM.symm)
    clear F' N'
    iterate 3 (first | (k_unfold; (try dsimp only)) | (k_end; wrow_close) | (walk1; (try dsimp only)) | (dsimp only; walk1; (try dsimp only)) | (leave1; walk_say "STEP leave1"; try dsimp only))
    (first | ((with_reducible ((k_here; (with_reducible show wpAny _ _ (eval _ (envX _ _ _ _ _ _)) _ _ _); k_dflt (first | (refine' nameX_L ?Fz274 ?vz274 ?_ ?az274 ?bz274; (case Fz274 => k_asm); (case az274 => rfl); (case bz274 => rfl); (case vz274 => rfl); k_whole) | (refine' nameX_C ?Nz274 ?cz274 ?mz274 ?dz274 ?_ ?az274 ?bz274; (case az274 => rfl); (case bz274 => rfl); (case Nz274 => k_asm); (case cz274 => rfl); (case mz274 => walk_at "my mem"); (case dz274 => assumption); k_whole) | (refine' nameX_K ?Fz274 ?Xz274 ?Tz274 ?ez274 ?_ ?az274 ?bz274; (case Fz274 => k_asm); (case Xz274 => k_asm); (case Tz274 => k_asm); (case az274 => rfl); (case bz274 => rfl); (case ez274 => k_is); k_whole) | (refine' nameX_B ?Fz274 ?Xz274 ?Tz274 ?ez274 ?vz274 ?nz274 ?_ ?az274 ?bz274; (case Fz274 => k_asm); (case Xz274 => k_asm); (case Tz274 => k_asm); (case az274 => rfl); (case bz274 => rfl); (case ez274 => k_is); (case vz274 => boot_fast); (case nz274 => decide); k_whole))))); (try dsimp only)) | (dsimp only; (with_reducible ((k_here; (with_reducible show wpAny _ _ (eval _ (envX _ _ _ _ _ _)) _ _ _); k_dflt (first | (refine' nameX_L ?Fz274 ?vz274 ?_ ?az274 ?bz274; (case Fz274 => k_asm); (case az274 => rfl); (case bz274 => rfl); (case vz274 => rfl); k_whole) | (refine' nameX_C ?Nz274 ?cz274 ?mz274 ?dz274 ?_ ?az274 ?bz274; (case az274 => rfl); (case bz274 => rfl); (case Nz274 => k_asm); (case cz274 => rfl); (case mz274 => walk_at "my mem"); (case dz274 => assumption); k_whole) | (refine' nameX_K ?Fz274 ?Xz274 ?Tz274 ?ez274 ?_ ?az274 ?bz274; (case Fz274 => k_asm); (case Xz274 => k_asm); (case Tz274 => k_asm); (case az274 => rfl); (case bz274 => rfl); (case ez274 => k_is); k_whole) | (refine' nameX_B ?Fz274 ?Xz274 ?Tz274 ?ez274 ?vz274 ?nz274 ?_ ?az274 ?bz274; (case Fz274 => k_asm); (case Xz274 => k_asm); (case Tz274 => k_asm); (case az274 => rfl); (case bz274 => rfl); (case ez274 => k_is); (case vz274 => boot_fast); (case nz274 => decide); k_whole))))); (try dsimp only)))
    iterate 4 (first | (k_unfold; (try dsimp only)) | (k_end; wrow_close) | (walk1; (try dsimp only)) | (dsimp only; walk1; (try dsimp only)) | (leave1; walk_say "STEP leave1"; try dsimp only))
    rename Fr _ _ _ _ => F8
    rename News _ _ _ _ => N8
    replace N8 := cb_drop N8 (fun p hp => .tail _ hp)
    by_cases hs : sharesL ws j 3 = []
    · rw [show (!decide (sharesL ws j 3 = [])) = false by rw [decide_eq_true hs]; rfl]
      iterate 4 (first | (k_unfold; (try dsimp only)) | (k_end; wrow_close) | (walk1; (try dsimp only)) | (dsimp only; walk1; (try dsimp only)) | (leave1; walk_say "STEP leave1"; try dsimp only))
      refine hQ mv mn ps1 ps2 codes1 codes2 _ _ _ (.inl ⟨hs, rfl⟩) S1 S2 O1 O2 O3 ?hn F8 (cb_drop N8 (fun p hp => .tail _ hp))
      case hn => kst_all
    · rw [show (!decide (sharesL ws j 3 = [])) = true by rw [decide_eq_false hs]; rfl]
      have hne : 0 < (sharesL ws j 3).length := List.length_pos_iff.mpr hs
      iterate 5 (first | (k_unfold; (try dsimp only)) | (k_end; wrow_close) | (walk1; (try dsimp only)) | (dsimp only; walk1; (try dsimp only)) | (leave1; walk_say "STEP leave1"; try dsimp only))
      (first | ((with_reducible ((k_here; (with_reducible show wpAny _ _ (eval _ (envX _ _ _ _ _ _)) _ _ _); k_dflt (first | (refine' nameX_L ?Fz275 ?vz275 ?_ ?az275 ?bz275; (case Fz275 => k_asm); (case az275 => rfl); (case bz275 => rfl); (case vz275 => rfl); k_whole) | (refine' nameX_C ?Nz275 ?cz275 ?mz275 ?dz275 ?_ ?az275 ?bz275; (case az275 => rfl); (case bz275 => rfl); (case Nz275 => k_asm); (case cz275 => rfl); (case mz275 => walk_at "my mem"); (case dz275 => assumption); k_whole) | (refine' nameX_K ?Fz275 ?Xz275 ?Tz275 ?ez275 ?_ ?az275 ?bz275; (case Fz275 => k_asm); (case Xz275 => k_asm); (case Tz275 => k_asm); (case az275 => rfl); (case bz275 => rfl); (case ez275 => k_is); k_whole) | (refine' nameX_B ?Fz275 ?Xz275 ?Tz275 ?ez275 ?vz275 ?nz275 ?_ ?az275 ?bz275; (case Fz275 => k_asm); (case Xz275 => k_asm); (case Tz275 => k_asm); (case az275 => rfl); (case bz275 => rfl); (case ez275 => k_is); (case vz275 => boot_fast); (case nz275 => decide); k_whole))))); (try dsimp only)) | (dsimp only; (with_reducible ((k_here; (with_reducible show wpAny _ _ (eval _ (envX _ _ _ _ _ _)) _ _ _); k_dflt (first | (refine' nameX_L ?Fz275 ?vz275 ?_ ?az275 ?bz275; (case Fz275 => k_asm); (case az275 => rfl); (case bz275 => rfl); (case vz275 => rfl); k_whole) | (refine' nameX_C ?Nz275 ?cz275 ?mz275 ?dz275 ?_ ?az275 ?bz275; (case az275 => rfl); (case bz275 => rfl); (case Nz275 => k_asm); (case cz275 => rfl); (case mz275 => walk_at "my mem"); (case dz275 => assumption); k_whole) | (refine' nameX_K ?Fz275 ?Xz275 ?Tz275 ?ez275 ?_ ?az275 ?bz275; (case Fz275 => k_asm); (case Xz275 => k_asm); (case Tz275 => k_asm); (case az275 => rfl); (case bz275 => rfl); (case ez275 => k_is); k_whole) | (refine' nameX_B ?Fz275 ?Xz275 ?Tz275 ?ez275 ?vz275 ?nz275 ?_ ?az275 ?bz275; (case Fz275 => k_asm); (case Xz275 => k_asm); (case Tz275 => k_asm); (case az275 => rfl); (case bz275 => rfl); (case ez275 => k_is); (case vz275 => boot_fast); (case nz275 => decide); k_whole))))); (try dsimp only)))
      iterate 4 (first | (k_unfold; (try dsimp only)) | (k_end; wrow_close) | (walk1; (try dsimp only)) | (dsimp only; walk1; (try dsimp only)) | (leave1; walk_say "STEP leave1"; try dsimp only))
      (first | ((with_reducible ((k_here; (with_reducible show wpAny _ _ (eval _ (envX _ _ _ _ _ _)) _ _ _); k_dflt (first | (refine' nameX_L ?Fz276 ?vz276 ?_ ?az276 ?bz276; (case Fz276 => k_asm); (case az276 => rfl); (case bz276 => rfl); (case vz276 => rfl); k_whole) | (refine' nameX_C ?Nz276 ?cz276 ?mz276 ?dz276 ?_ ?az276 ?bz276; (case az276 => rfl); (case bz276 => rfl); (case Nz276 => k_asm); (case cz276 => rfl); (case mz276 => walk_at "my mem"); (case dz276 => assumption); k_whole) | (refine' nameX_K ?Fz276 ?Xz276 ?Tz276 ?ez276 ?_ ?az276 ?bz276; (case Fz276 => k_asm); (case Xz276 => k_asm); (case Tz276 => k_asm); (case az276 => rfl); (case bz276 => rfl); (case ez276 => k_is); k_whole) | (refine' nameX_B ?Fz276 ?Xz276 ?Tz276 ?ez276 ?vz276 ?nz276 ?_ ?az276 ?bz276; (case Fz276 => k_asm); (case Xz276 => k_asm); (case Tz276 => k_asm); (case az276 => rfl); (case bz276 => rfl); (case ez276 => k_is); (case vz276 => boot_fast); (case nz276 => decide); k_whole))))); (try dsimp only)) | (dsimp only; (with_reducible ((k_here; (with_reducible show wpAny _ _ (eval _ (envX _ _ _ _ _ _)) _ _ _); k_dflt (first | (refine' nameX_L ?Fz276 ?vz276 ?_ ?az276 ?bz276; (case Fz276 => k_asm); (case az276 => rfl); (case bz276 => rfl); (case vz276 => rfl); k_whole) | (refine' nameX_C ?Nz276 ?cz276 ?mz276 ?dz276 ?_ ?az276 ?bz276; (case az276 => rfl); (case bz276 => rfl); (case Nz276 => k_asm); (case cz276 => rfl); (case mz276 => walk_at "my mem"); (case dz276 => assumption); k_whole) | (refine' nameX_K ?Fz276 ?Xz276 ?Tz276 ?ez276 ?_ ?az276 ?bz276; (case Fz276 => k_asm); (case Xz276 => k_asm); (case Tz276 => k_asm); (case az276 => rfl); (case bz276 => rfl); (case ez276 => k_is); k_whole) | (refine' nameX_B ?Fz276 ?Xz276 ?Tz276 ?ez276 ?vz276 ?nz276 ?_ ?az276 ?bz276; (case Fz276 => k_asm); (case Xz276 => k_asm); (case Tz276 => k_asm); (case az276 => rfl); (case bz276 => rfl); (case ez276 => k_is); (case vz276 => boot_fast); (case nz276 => decide); k_whole))))); (try dsimp only)))
      iterate 2 (first | (k_unfold; (try dsimp only)) | (k_end; wrow_close) | (walk1; (try dsimp only)) | (dsimp only; walk1; (try dsimp only)) | (leave1; walk_say "STEP leave1"; try dsimp only))
      (first | ((with_reducible ((k_here; (with_reducible show wpAny _ _ (eval _ (envX _ _ _ _ _ _)) _ _ _); k_dflt (first | (refine' nameX_L ?Fz277 ?vz277 ?_ ?az277 ?bz277; (case Fz277 => k_asm); (case az277 => rfl); (case bz277 => rfl); (case vz277 => rfl); k_whole) | (refine' nameX_C ?Nz277 ?cz277 ?mz277 ?dz277 ?_ ?az277 ?bz277; (case az277 => rfl); (case bz277 => rfl); (case Nz277 => k_asm); (case cz277 => rfl); (case mz277 => walk_at "my mem"); (case dz277 => assumption); k_whole) | (refine' nameX_K ?Fz277 ?Xz277 ?Tz277 ?ez277 ?_ ?az277 ?bz277; (case Fz277 => k_asm); (case Xz277 => k_asm); (case Tz277 => k_asm); (case az277 => rfl); (case bz277 => rfl); (case ez277 => k_is); k_whole) | (refine' nameX_B ?Fz277 ?Xz277 ?Tz277 ?ez277 ?vz277 ?nz277 ?_ ?az277 ?bz277; (case Fz277 => k_asm); (case Xz277 => k_asm); (case Tz277 => k_asm); (case az277 => rfl); (case bz277 => rfl); (case ez277 => k_is); (case vz277 => boot_fast); (case nz277 => decide); k_whole))))); (try dsimp only)) | (dsimp only; (with_reducible ((k_here; (with_reducible show wpAny _ _ (eval _ (envX _ _ _ _ _ _)) _ _ _); k_dflt (first | (refine' nameX_L ?Fz277 ?vz277 ?_ ?az277 ?bz277; (case Fz277 => k_asm); (case az277 => rfl); (case bz277 => rfl); (case vz277 => rfl); k_whole) | (refine' nameX_C ?Nz277 ?cz277 ?mz277 ?dz277 ?_ ?az277 ?bz277; (case az277 => rfl); (case bz277 => rfl); (case Nz277 => k_asm); (case cz277 => rfl); (case mz277 => walk_at "my mem"); (case dz277 => assumption); k_whole) | (refine' nameX_K ?Fz277 ?Xz277 ?Tz277 ?ez277 ?_ ?az277 ?bz277; (case Fz277 => k_asm); (case Xz277 => k_asm); (case Tz277 => k_asm); (case az277 => rfl); (case bz277 => rfl); (case ez277 => k_is); k_whole) | (refine' nameX_B ?Fz277 ?Xz277 ?Tz277 ?ez277 ?vz277 ?nz277 ?_ ?az277 ?bz277; (case Fz277 => k_asm); (case Xz277 => k_asm); (case Tz277 => k_asm); (case az277 => rfl); (case bz277 => rfl); (case ez277 => k_is); (case vz277 => boot_fast); (case nz277 => decide); k_whole))))); (try dsimp only)))
      iterate 1 (first | (k_unfold; (try dsimp only)) | (k_end; wrow_close) | (walk1; (try dsimp only)) | (dsimp only; walk1; (try dsimp only)) | (leave1; walk_say "STEP leave1"; try dsimp only))
      refine kso_min F8 N8 (N8.isList (.head _)) hsv hne rfl ?_
      intro h2 M t2 tk2 F9 N9 hM hM'
      clear F8 N8
      (try dsimp only)
      iterate 1 (first | (k_unfold; (try dsimp only)) | (k_end; wrow_close) | (walk1; (try dsimp only)) | (dsimp only; walk1; (try dsimp only)) | (leave1; walk_say "STEP leave1"; try dsimp only))
      have N10 := cb_drop N9 (fun p hp => .tail _ hp)
      refine my_append (vs := mv) [] F9 N10 (List.forall_mem_nil _) ?offm (by omega) ?_
      case offm =>
        have c1o := codes_off S1 N10 (fun p hp => .tail _ (.tail _ (List.mem_append_left _ hp))) (.head _) (nostr_list _ _)
        have c2o := codes_off S2 N10 (fun p hp => .tail _ (.tail _ (List.mem_append_right _ (.tail _ (List.mem_append_left _ hp))))) (.head _) (nostr_list _ _)
        intro p hp
        rcases List.mem_cons.mp hp with rfl | hp
        · exact O6
        rcases List.mem_append.mp hp with hp | hp
        · exact c1o p hp
        rcases List.mem_cons.mp hp with rfl | hp
        · exact O7
        rcases List.mem_append.mp hp with hp | hp
        · exact c2o p hp
        · exact O8 p hp
      intro h3 F11 N11
      (try dsimp only)
      iterate 2 (first | (k_unfold; (try dsimp only)) | (k_end; wrow_close) | (walk1; (try dsimp only)) | (dsimp only; walk1; (try dsimp only)) | (leave1; walk_say "STEP leave1"; try dsimp only))
      refine hQ (mv ++ [Value.int M t2]) (mn + 1) ps1 ps2 codes1 codes2 _ _ _ (.inr ⟨M, t2, hM, hM', rfl⟩) S1 S2 O1 O2 O3 ?hn F11 N11
      case hn => kst_all
end

end
-- L14
section
example : True := by w_top off; exact trivial
inductive MeansAre (ws : List (Option Int)) : Nat → List Int → Prop
  | zero : MeansAre ws 0 []
  | skip {i ms} : sharesL ws i 3 = [] → MeansAre ws i ms → MeansAre ws (i + 1) ms
  | add {i ms M} : M ∈ sharesL ws i 3 → (∀ a ∈ sharesL ws i 3, M ≤ a) → MeansAre ws i ms → MeansAre ws (i + 1) (ms ++ [M])
theorem MeansAre.len {ws : List (Option Int)} : ∀ {i ms}, MeansAre ws i ms → ms.length ≤ i
  | _, _, .zero => Nat.le_refl _
  | _, _, .skip _ h => Nat.le_succ_of_le h.len
  | _, _, .add _ _ h => by have := h.len; simp only [List.length_append, List.length_cons, List.length_nil]; omega
inductive JM (ws : List (Option Int)) (wk mA : Addr) (rest : Led) (i : Nat) (m₁ : Names) (nw : Led) : Prop
  | mk : ∀ mv ms mn ps1 ps2 codes1 codes2, (TabSt i2dInner qI2d ps1 codes1) → (TabSt d2iInner qD2i ps2 codes2) → (OwnOff codes1 [67]) → (OwnOff codes2 [67]) → (OwnOff codes2 [74]) → (IntsAre mv ms) → (MeansAre ws i ms) → ((∀ p ∈ [(Str.ofString "walks", Value.ref wk), (Str.ofString "means", Value.ref mA)], m₁ p.1 = some p.2)) → (nw = (mA, listOf mv.toArray mn) :: (67, tabObj ps1) :: (codes1 ++ (74, tabObj ps2) :: (codes2 ++ rest))) → JM ws wk mA rest i m₁ nw


section
variable {w : World} {p : Program} {loose : List Str} {mean : ExcName → Option Value} {mg mb : Str → Option Value}
theorem t_means (ws : List (Option Int)) (rws : List Rw) (wk : Addr) (wkn : Nat) (ps1 ps2 : Array Value) (codes1 codes2 rest : Led) (dp un : Nat) (gd : Option (List Code)) (fa : Addr) (ccd : Value) (outer : List Env) (A₀ : Around) (base h₀ : Heap) (L : Addr) (m : Str → Option Value) (s : Shared) (Q : Flow → Shared → Prop) (E : Value → Shared → Prop) (restS : List Stmt)
    (B : Below A₀ base outer h₀) (F : Fr h₀ L s.heap m) (X : (Mine.hd.heap_39 w.params).In h₀) (T : Top p loose mean mg mb h₀) (C1 : CodeHd base 71 67) (C2 : CodeHd base 78 74) (S1 : TabSt i2dInner qI2d ps1 codes1) (S2 : TabSt d2iInner qD2i ps2 codes2)
    (N : News h₀ L s.heap ((67, tabObj ps1) :: (codes1 ++ (74, tabObj ps2) :: (codes2 ++ rest))))
    (O1 : OwnOff codes1 [67]) (O2 : OwnOff codes2 [67]) (O3 : OwnOff codes2 [74]) (O4 : OwnOff rest [67]) (O5 : OwnOff rest [74])
    (hd : dp + 300 < recursionLimit) (hu : un + 3000 < cLine) (hE : PassesOwn (model PySem.Challenge.rw_wo0033_01.row.prog w) (lawA dp un gd L fa ccd outer) (lawEnv L fa ccd) E)
    (m1 : (wk, listOf (rwVals rws).toArray wkn) ∈ rest) (m2 : ∀ p ∈ rwLed rws, p ∈ rest) (hrw : RowsAre ws 3 rws) (hwb : ∀ v, some v ∈ ws → 0 ≤ v ∧ v ≤ 19)
    (hk : ∀ p ∈ [(Str.ofString "walks", Value.ref wk)], m p.1 = some p.2)
    (hK : ∀ mA mv ms mn ps1' ps2' codes1' codes2' m' h' tk', IntsAre mv ms → MeansAre ws 3 ms → TabSt i2dInner qI2d ps1' codes1' → TabSt d2iInner qD2i ps2' codes2' →
      (∀ p ∈ [(Str.ofString "means", Value.ref mA)], m' p.1 = some p.2) → Fr h₀ L h' m' → News h₀ L h' ((mA, listOf mv.toArray mn) :: (67, tabObj ps1') :: (codes1' ++ (74, tabObj ps2') :: (codes2' ++ rest))) →
      wpAny (model PySem.Challenge.rw_wo0033_01.row.prog w) (lawA dp un gd L fa ccd outer) (execs restS (lawEnv L fa ccd)) Q E { s with heap := h', toks := tk' }) :
    wpAny (model PySem.Challenge.rw_wo0033_01.row.prog w) (lawA dp un gd L fa ccd outer) (execs (lawS 3 :: lawS 4 :: restS) (lawEnv L fa ccd)) Q E s := by
  revert X; k_fill; intro X
  have hE0 := hE
  change wpAny _ (ktrTop dp un gd _ ⟨_, _, _, _, _⟩ L fa ccd _ outer) (execs (.Assign _ _ _ :: .For _ _ mvBody _ _ :: restS) (envX _ ⟨_, _, _, _, _⟩ _ _ _ _)) _ _ _
  change PassesOwn _ (ktrTop dp un gd _ ⟨_, _, _, _, _⟩ L fa ccd _ outer) (envX _ ⟨_, _, _, _, _⟩ _ _ _ _) _ at hE
  replace F := fr_kst hk F
  dsimp only [kstB] at F
  iterate 5 (first | (k_unfold; (try dsimp only)) | (k_end; wrow_close) | (walk1; (try dsimp only)) | (dsimp only; walk1; (try dsimp only)) | (leave1; walk_say "STEP leave1"; try dsimp only))
  rename Addr => mA
  rename _ < _ ∧ AllLt _ _ => l9
  have lt9 := ktn_ltOf l9.2
  have l74 : (74 : Nat) < mA := lt9 (74, tabObj ps2) (List.mem_append_right _ (.head _))
  have lrest : ∀ p ∈ rest, p.1 < mA := fun p hp => lt9 p (List.mem_append_right _ (.tail _ (List.mem_append_right _ hp)))
  iterate 3 (first | (k_unfold; (try dsimp only)) | (k_end; wrow_close) | (walk1; (try dsimp only)) | (dsimp only; walk1; (try dsimp only)) | (leave1; walk_say "STEP leave1"; try dsimp only))
  k_dflt (refine For_invV h₀ (by rfl) (by rfl) ?_ (by intro _; rfl) hE)
  iterate 1 (first | (k_unfold; (try dsimp only)) | (k_end; wrow_close) | (walk1; (try dsimp only)) | (dsimp only; walk1; (try dsimp only)) | (leave1; walk_say "STEP leave1"; try dsimp only))
  (first | ((with_reducible ((k_here; (with_reducible show wpAny _ _ (eval _ (envX _ _ _ _ _ _)) _ _ _); k_dflt (first | (refine' nameX_L ?Fz278 ?vz278 ?_ ?az278 ?bz278; (case Fz278 => k_asm); (case az278 => rfl); (case bz278 => rfl); (case vz278 => rfl); k_whole) | (refine' nameX_C ?Nz278 ?cz278 ?mz278 ?dz278 ?_ ?az278 ?bz278; (case az278 => rfl); (case bz278 => rfl); (case Nz278 => k_asm); (case cz278 => rfl); (case mz278 => walk_at "my mem"); (case dz278 => assumption); k_whole) | (refine' nameX_K ?Fz278 ?Xz278 ?Tz278 ?ez278 ?_ ?az278 ?bz278; (case Fz278 => k_asm); (case Xz278 => k_asm); (case Tz278 => k_asm); (case az278 => rfl); (case bz278 => rfl); (case ez278 => k_is); k_whole) | (refine' nameX_B ?Fz278 ?Xz278 ?Tz278 ?ez278 ?vz278 ?nz278 ?_ ?az278 ?bz278; (case Fz278 => k_asm); (case Xz278 => k_asm); (case Tz278 => k_asm); (case az278 => rfl); (case bz278 => rfl); (case ez278 => k_is); (case vz278 => boot_fast); (case nz278 => decide); k_whole))))); (try dsimp only)) | (dsimp only; (with_reducible ((k_here; (with_reducible show wpAny _ _ (eval _ (envX _ _ _ _ _ _)) _ _ _); k_dflt (first | (refine' nameX_L ?Fz278 ?vz278 ?_ ?az278 ?bz278; (case Fz278 => k_asm); (case az278 => rfl); (case bz278 => rfl); (case vz278 => rfl); k_whole) | (refine' nameX_C ?Nz278 ?cz278 ?mz278 ?dz278 ?_ ?az278 ?bz278; (case az278 => rfl); (case bz278 => rfl); (case Nz278 => k_asm); (case cz278 => rfl); (case mz278 => walk_at "my mem"); (case dz278 => assumption); k_whole) | (refine' nameX_K ?Fz278 ?Xz278 ?Tz278 ?ez278 ?_ ?az278 ?bz278; (case Fz278 => k_asm); (case Xz278 => k_asm); (case Tz278 => k_asm); (case az278 => rfl); (case bz278 => rfl); (case ez278 => k_is); k_whole) | (refine' nameX_B ?Fz278 ?Xz278 ?Tz278 ?ez278 ?vz278 ?nz278 ?_ ?az278 ?bz278; (case Fz278 => k_asm); (case Xz278 => k_asm); (case Tz278 => k_asm); (case az278 => rfl); (case bz278 => rfl); (case ez278 => k_is); (case vz278 => boot_fast); (case nz278 => decide); k_whole))))); (try dsimp only)))
  iterate 5 (first | (k_unfold; (try dsimp only)) | (k_end; wrow_close) | (walk1; (try dsimp only)) | (dsimp only; walk1; (try dsimp only)) | (leave1; walk_say "STEP leave1"; try dsimp only))
  rename Fr _ _ _ _ => F3
  rename News _ _ _ _ => N3
  rename IsRange _ _ _ _ _ _ _ _ => hR
  refine loopRangeI (n := 3) (JM ws wk mA rest) rfl hR (by decide) (by rfl) F3 N3 ?h0 ?turn ?done
  case h0 =>
    refine ⟨[], [], 0, ps1, ps2, codes1, codes2, S1, S2, O1, O2, O3, .nil, .zero, ?hn, rfl⟩
    case hn => kst_all
  case turn =>
    clear F3 N3
    rintro i m₁ nw t h tk I oI hno hi ⟨mv, ms, mn, ps1, ps2, codes1, codes2, S1, S2, O1, O2, O3, hmv, hms, hk, hnw⟩ hoff F9 N9
    subst hnw
    have N8 := news_perm N9 permN
    have hml := hmv.length
    have hml2 := hms.len
    have offI : ∀ p ∈ rest, p.1 ≠ I := fun p hp => hoff p (.tail _ (mem_mid hp))
    refine t_mv i t ws rws wk mA wkn mn mv ps1 ps2 codes1 codes2 ((I, oI) :: rest) dp un gd fa ccd outer A₀ base h₀ L _ _ _ E B F9 X T C1 C2 S1 S2 N8 O1 O2 O3 ?o4 ?o5 (Nat.ne_of_lt l9.1) (Nat.ne_of_lt l74) ?o8 hd hu hE0 (.tail _ m1) (fun p hp => .tail _ (m2 p hp)) hrw hwb hi (by omega) ?hk ?hQ
    case o4 => exact offCons (fun e => hoff _ (.tail _ (.head _)) e.symm) O4
    case o5 => exact offCons (fun e => hoff (74, tabObj ps2) (.tail _ (.tail _ (List.mem_append_right _ (.head _)))) e.symm) O5
    case o8 => exact List.forall_mem_cons.mpr ⟨fun e => hoff _ (.head _) e.symm, fun p hp => Nat.ne_of_lt (lrest p hp)⟩
    case hk => exact List.forall_mem_cons.mpr ⟨hk _ (by simp), List.forall_mem_cons.mpr ⟨hk _ (by simp), List.forall_mem_cons.mpr ⟨rfl, List.forall_mem_nil _⟩⟩⟩
    case hQ =>
      intro mv' mn' ps1' ps2' codes1' codes2' m' h' tk' hmv' S1' S2' O1' O2' O3' hk' F' N'
      have c1o := codes_off S1' N' (fun p hp => .tail _ (.tail _ (List.mem_append_left _ hp))) (.tail _ (mem_mid (.head _))) hno
      have c2o := codes_off S2' N' (fun p hp => .tail _ (.tail _ (List.mem_append_right _ (.tail _ (List.mem_append_left _ hp))))) (.tail _ (mem_mid (.head _))) hno
      have hoff2 : ∀ p ∈ (mA, listOf mv'.toArray mn') :: (67, tabObj ps1') :: (codes1' ++ (74, tabObj ps2') :: (codes2' ++ rest)), p.1 ∉ [I] := by
        intro p hp e
        have e := List.mem_singleton.mp e
        rcases List.mem_cons.mp hp with rfl | hp
        · exact hoff _ (.head _) e
        rcases List.mem_cons.mp hp with rfl | hp
        · exact hoff _ (.tail _ (.head _)) e
        rcases List.mem_append.mp hp with hp | hp
        · exact c1o p hp e
        rcases List.mem_cons.mp hp with rfl | hp
        · exact hoff (74, tabObj ps2) (.tail _ (.tail _ (List.mem_append_right _ (.head _)))) e
        rcases List.mem_append.mp hp with hp | hp
        · exact c2o p hp e
        · exact offI p hp e
      rcases hmv' with ⟨hs, e⟩ | ⟨M, t9, hM, hM', e⟩
      · exact ⟨h', tk', m', _, rfl, F', news_perm N' permN.symm, hoff2, mv', ms, mn', ps1', ps2', codes1', codes2', S1', S2', O1', O2', O3', e ▸ hmv, .skip hs hms, hk', rfl⟩
      · exact ⟨h', tk', m', _, rfl, F', news_perm N' permN.symm, hoff2, mv', ms ++ [M], mn', ps1', ps2', codes1', codes2', S1', S2', O1', O2', O3', e ▸ intsApp hmv (.cons _ _ .nil), .add hM hM' hms, hk', rfl⟩
  case done =>
    rintro m' nw' h' tk' ⟨mv, ms, mn, ps1, ps2, codes1, codes2, S1, S2, O1, O2, O3, hmv, hms, hk, hnw⟩ F' N'
    subst hnw
    exact hK mA mv ms mn ps1 ps2 codes1 codes2 m' h' tk' hmv hms S1 S2 (List.forall_mem_cons.mpr ⟨hk _ (by simp), List.forall_mem_nil _⟩) F' N'
end

end
-- R1
section
section
variable {prog : Program} {w : World} {A : Around} {E : Value → Shared → Prop} {s : Shared} {h₀ : Heap} {x : Str} {px pos : Pos} {iter : Expr} {body : List Stmt} {Q : Flow → Shared → Prop}
  {L fa : Addr} {cn : Str} {cs : Scope} {ccd : Value} {cl : List (Str × Addr)}

theorem loopCell {l c : Addr} {o : Obj} {v₀ : Option Value} {vs : List Value} {nn : Nat} {m₀ : Names} {news : Led} (J : Nat → Names → Led → Prop)
    (hh : A.handled = none) (hk : cs.kind = .function) (hx : (envX cn cs L fa ccd cl).kindOf x = some .cell) (hc : cl.lookup x = some c) (hd : o.data = .cell v₀)
    (hl : (l, listOf vs.toArray nn) ∈ news) (hJl : ∀ i m nx, J i m nx → (l, listOf vs.toArray nn) ∈ nx) (F : Fr h₀ L s.heap m₀) (N : News h₀ L s.heap ((c, o) :: news)) (hoff : ∀ p ∈ news, p.1 ≠ c) (hj : J 0 m₀ news)
    (hE : PassesOwn (model prog w) A (envX cn cs L fa ccd cl) E)
    (turn : ∀ (i : Nat) v m₁ news₁ h tk I oI o', vs[i]? = some v → J i m₁ news₁ → I ≠ c → (∀ p ∈ news₁, p.1 ≠ I) → (∀ p ∈ news₁, p.1 ≠ c) → o'.data = .cell (some v) → Fr h₀ L h m₁ → News h₀ L h ((I, oI) :: (c, o') :: news₁) →
      wpAny (model prog w) A (execs body (envX cn cs L fa ccd cl)) (fun f s₂ => f = .next ∧ ∃ h' tk' m' news', s₂ = { s with heap := h', toks := tk' } ∧ Fr h₀ L h' m' ∧ News h₀ L h' ((I, oI) :: (c, o') :: news') ∧ (∀ p ∈ news', p.1 ≠ I) ∧ (∀ p ∈ news', p.1 ≠ c) ∧ J (i + 1) m' news') E { s with heap := h, toks := tk })
    (done : ∀ m' news' h tk o', J vs.length m' news' → Fr h₀ L h m' → News h₀ L h ((c, o') :: news') → Q .next { s with heap := h, toks := tk }) :
    wpAny (model prog w) A (pyIter (.ref l)) (fun it s₂ => codeAny (model prog w) A (.forLoop (.Name x px) it body [] (envX cn cs L fa ccd cl)) (fun r s' => match r with | .ok f => Q f s' | .error e => cameBackBy (model prog w) A (envX cn cs L fa ccd cl) E e s') s₂) E s := by
  have hol : s.heap.get? l = some (listOf vs.toArray nn) := (N _ (.tail _ hl)).1
  have hls : s.heap.IsList l vs.toArray := ⟨_, hol, rfl, nn, rfl⟩
  have hne : l ≠ s.heap.objs.size := Nat.ne_of_lt (Heap.lt_size hol)
  refine wpAny_pyIter_list hls ?_
  have W := Walks.list (prog := prog) (w := w) hh s.heap.objs.size l hne vs.toArray
  have hlen : vs.toArray.size = vs.length := by simp
  rw [hlen] at W
  have nI : h₀.get? s.heap.objs.size = none := next_is_new F
  have LI : s.heap.objs.size ≠ L := fun e => absurd F.ns.lt (e ▸ Nat.lt_irrefl _)
  have Ic : s.heap.objs.size ≠ c := Nat.ne_of_gt (Heap.lt_size (N _ (.head _)).1)
  have offI : ∀ p ∈ news, p.1 ≠ s.heap.objs.size := fun p hp => Nat.ne_of_lt (Heap.lt_size (N p (.tail _ hp)).1)
  have hst0 : (s.heap.push { cls := .type "list_iterator", data := .fields #[.ref l, .int 0 0] }).IsListIter s.heap.objs.size l 0 := ⟨_, Heap.get?_push_size _ rfl, rfl, rfl⟩
  have hl0 : (s.heap.push { cls := .type "list_iterator", data := .fields #[.ref l, .int 0 0] }).IsList l vs.toArray := hls.at fun o e => Heap.get?_push_of_some _ e
  have F0 := F.push { cls := .type "list_iterator", data := .fields #[.ref l, .int 0 0] }
  have N0 : News h₀ L (s.heap.push { cls := .type "list_iterator", data := .fields #[.ref l, .int 0 0] }) ((c, o) :: news) := fun p hp => ⟨Heap.get?_push_of_some _ (N p hp).1, (N p hp).2⟩
  refine codeAny_forLoop
    (fun k s' => Ex7 fun h' tk m' news' i oc v₁ => An11 (s' = { s with heap := h', toks := tk }) (h'.IsListIter s.heap.objs.size l i) (h'.IsList l vs.toArray) (Fr h₀ L h' m') (News h₀ L h' ((c, oc) :: news')) (oc.data = .cell v₁) ((∀ p ∈ news', p.1 ≠ s.heap.objs.size)) ((∀ p ∈ news', p.1 ≠ c)) (J i m' news') (i ≤ vs.length) (k = vs.length + 1 - i)) ?_ (vs.length + 1)
    ⟨_, _, m₀, news, 0, o, v₀, rfl, hst0, hl0, F0, N0, hd, offI, hoff, hj, Nat.zero_le _, rfl⟩
  generalize hIs : s.heap.objs.size = I at *
  rintro k s' ⟨h', tk, m', news', i, oc, v₁, rfl, hst', hl', F', N', hd', offI', offc', hJ, hi, rfl⟩
  have old : ∀ b o, h₀.get? b = some o → b ∉ [I] := fun b o e hb => by rw [List.mem_singleton.mp hb, nI] at e; cases e
  have next : ∀ h₁ : Heap, (∀ b o, b ∉ [I] → h'.get? b = some o → h₁.get? b = some o) → Fr h₀ L h₁ m' ∧ News h₀ L h₁ ((c, oc) :: news') := fun h₁ hk₁ =>
    ⟨⟨F'.ns.at' fun o e => hk₁ _ o (fun h => LI (List.mem_singleton.mp h).symm) e, fun b o e => hk₁ b o (old b o e) (F'.keep b o e), F'.above⟩, fun p hp => ⟨hk₁ _ _ (fun h => by
      rcases List.mem_cons.mp hp with rfl | hp
      · exact Ic (List.mem_singleton.mp h).symm
      · exact offI' p hp (List.mem_singleton.mp h)) (N' p hp).1, (N' p hp).2⟩⟩
  by_cases hlt : i < vs.length
  · refine W.item i _ _ _ hlt ⟨hst', hl'⟩ fun v h₁ tk₁ hP hst₁ hk₁ => ?_
    have hP' : vs[i]? = some v := by simpa using hP
    obtain ⟨F₁, N₁⟩ := next h₁ hk₁
    obtain ⟨oI, hoI, hoI'⟩ := hst₁.1
    have N₂ : News h₀ L h₁ ((I, oI) :: (c, oc) :: news') := fun p hp => by
      rcases List.mem_cons.mp hp with rfl | hp
      · exact ⟨hoI, LI, nI⟩
      · exact N₁ p hp
    refine wpAny_assign_Name (storeX_C F₁ N₂ hc (.tail Ic (.head offc')) hd' ?_ hk hx)
    intro h₂ o' F₂ N₂ d₂
    refine wpAny_mono (wpAny_passesOwn hE (turn i v m' news' h₂ tk₁ I oI o' hP' hJ Ic offI' offc' d₂ F₂ N₂)) (fun f s₃ h₃ => ?_) fun _ _ e => e
    obtain ⟨rfl, h₃', tk₃, m₃, news₃, rfl, F₃, N₃, offI₃, offc₃, hJ₃⟩ := h₃
    have hlm := hJl _ _ _ hJ₃
    exact ⟨vs.length + 1 - (i + 1), by omega, h₃', tk₃, m₃, news₃, i + 1, o', _, rfl, ⟨oI, (N₃ _ (.head _)).1, hoI'⟩, ⟨_, (N₃ _ (.tail _ (.tail _ hlm))).1, rfl, nn, rfl⟩, F₃, fun p hp => N₃ p (.tail _ hp), d₂, offI₃, offc₃, hJ₃, hlt, rfl⟩
  · have hin : i = vs.length := by omega
    subst hin
    refine W.done _ _ _ ⟨hst', hl'⟩ fun h₁ tk₁ hk₁ => wpAny_execs_nil ?_
    obtain ⟨F₁, N₁⟩ := next h₁ hk₁
    exact done m' news' h₁ tk₁ oc hJ F₁ N₁
end

end
-- R2
section
example : True := by w_top off; exact trivial
noncomputable def rgBody : List Stmt := bodyOf (lawS 6)
noncomputable def rsAt (rs : List Int) (n i : Nat) : Int := rs.getD (if i = 0 then n - 1 else i - 1) 0
noncomputable def arcO (ws : List (Option Int)) (rs : List Int) (n i : Nat) : Option Int := ws.getD (3 * rsAt rs n i + rs.getD i 0).toNat none
noncomputable def arcsL (ws : List (Option Int)) (rs : List Int) (n i : Nat) : List (Option Int) := (List.range i).map (arcO ws rs n)
theorem arcsL_succ (ws : List (Option Int)) (rs : List Int) (n i : Nat) : arcsL ws rs n (i + 1) = arcsL ws rs n i ++ [arcO ws rs n i] := by
  simp only [arcsL, List.range_succ, List.map_append, List.map_cons, List.map_nil]
noncomputable def ringO (ws : List (Option Int)) (rs : List Int) : Option Int :=
  if hasNone (arcsL ws rs rs.length rs.length) = true then none else some ((6 : Int).fdiv rs.length * (knownL (arcsL ws rs rs.length rs.length)).sum)
noncomputable def ringStep (ws : List (Option Int)) (rs : List Int) (rg : Int) : Int :=
  match ringO ws rs with
  | none => rg
  | some x => Builtin.bitOr rg (2 ^ x.toNat)
theorem intsGet : ∀ {vs : List Value} {ns : List Int} {i : Nat}, IntsAre vs ns → i < ns.length → ∃ t, vs[i]? = some (.int (ns.getD i 0) t)
  | _, _, 0, .cons x t h, _ => ⟨t, rfl⟩
  | _, _, i + 1, .cons x t h, hi => intsGet (i := i) h (Nat.lt_of_succ_lt_succ hi)
theorem getD_in {rs : List Int} {i : Nat} (hi : i < rs.length) : rs.getD i 0 ∈ rs := by
  rw [List.getD_eq_getElem?_getD, List.getElem?_eq_getElem hi]; exact List.getElem_mem _
theorem sum_bd : ∀ {ks : List Int}, (∀ k ∈ ks, 0 ≤ k ∧ k ≤ 19) → 0 ≤ ks.sum ∧ ks.sum ≤ 19 * ks.length
  | [], _ => by simp
  | k :: ks, h => by
    have h1 := h k (.head _)
    have h2 := sum_bd (ks := ks) fun x hx => h x (.tail _ hx)
    rw [List.sum_cons, List.length_cons]
    omega
theorem div6r {b : Int} (h1 : 1 ≤ b) (h2 : b ≤ 3) : 2 ≤ (6 : Int).fdiv b ∧ (6 : Int).fdiv b ≤ 6 ∧ (6 : Int).fdiv b * b = 6 := by
  obtain rfl | rfl | rfl := oneThreeI h1 h2
  all_goals decide
theorem ints_some : ∀ {os : List (Option Int)} {vs : List Value}, OvL os vs → hasNone os = false → IntsAre vs (knownL os)
  | _, _, .nil, _ => .nil
  | _, _, .cons (o := none) _, h => nomatch h
  | _, _, .cons (o := some v) (t := t) r, h => .cons v t (ints_some r h)
section
variable {prog : Program} {w : World} {A : Around} {E : Value → Shared → Prop} {s : Shared} {h₀ : Heap} {L : Addr} {news : Led}
theorem my_ring {value slice : PySem.Expr} {l : Addr} {vs : List Value} {kk : Nat} {k : Int} {u : Tok} {v : Value} {Q : Value → Shared → Prop}
    (N : News h₀ L s.heap news) (hl : (l, listOf vs.toArray kk) ∈ news) (hlen : vs.length ≤ 1000) (hne : 1 ≤ vs.length) (h0 : -1 ≤ k) (hhi : k < 1000000) (hx : vs[(if k = -1 then vs.length - 1 else k.toNat)]? = some v) (h : Q v s)
    (hs : subscripted slice false (.ref l) (.int k u) = operate [.ref l, .int k u] (getItem (.ref l) (.int k u)) := by with_unfolding_all rfl) :
    wpAny (model prog w) A (subscriptTail value slice (.ref l) (.int k u)) Q E s := by
  by_cases e : k = -1
  · subst e
    exact my_last N hl hlen hne (by simpa using hx) h hs
  · exact my_item N hl (by omega) hhi (by simpa [e] using hx) h hs
end
section
variable {w : World} {p : Program} {loose : List Str} {mean : ExcName → Option Value} {mg mb : Str → Option Value}
theorem t_rg (rs : List Int) (rg : Int) (tr : Tok) (ws : List (Option Int)) (wD rA mA : Addr) (wv rv : List Value) (wn rn : Nat) (o1 o3 : Obj) (news : Led) (dp un : Nat) (gd : Option (List Code)) (fa : Addr) (ccd : Value) (outer : List Env) (A₀ : Around) (base h₀ : Heap) (L : Addr) (m : Str → Option Value) (s : Shared) (Q : Flow → Shared → Prop) (E : Value → Shared → Prop)
    (B : Below A₀ base outer h₀) (F : Fr h₀ L s.heap m) (X : (Mine.hd.heap_39 w.params).In h₀) (T : Top p loose mean mg mb h₀)
    (N : News h₀ L s.heap news) (hd : dp + 300 < recursionLimit) (hu : un + 3000 < cLine)
    (m1 : (L + 1, o1) ∈ news) (d1 : o1.data = .cell (some (.ref wD))) (m3 : (wD, listOf wv.toArray wn) ∈ news) (m4 : (L + 1 + 1 + 1, o3) ∈ news) (d3 : o3.data = .cell (some (.ref rA))) (m5 : (rA, listOf rv.toArray rn) ∈ news)
    (hw : OvL ws wv) (hwl : ws.length = 9) (hwb : ∀ v, some v ∈ ws → 0 ≤ v ∧ v ≤ 19) (hi : IntsAre rv rs) (h1 : 1 ≤ rs.length) (h3 : rs.length ≤ 3) (hrs : ∀ x ∈ rs, 0 ≤ x ∧ x < 3)
    (hk : ∀ p ∈ [(Str.ofString "means", Value.ref mA), (Str.ofString "rings", Value.int rg tr)], m p.1 = some p.2)
    (hQ : ∀ t' m' h' tk', (∀ p ∈ [(Str.ofString "means", Value.ref mA), (Str.ofString "rings", Value.int (ringStep ws rs rg) t')], m' p.1 = some p.2) → Fr h₀ L h' m' → News h₀ L h' news → Q .next { s with heap := h', toks := tk' }) :
    wpAny (model PySem.Challenge.rw_wo0033_01.row.prog w) (lawA dp un gd L fa ccd outer) (execs rgBody (lawEnv L fa ccd)) Q E s := by
  revert X; k_fill; intro X
  change wpAny _ (ktrTop dp un gd _ ⟨_, _, _, _, _⟩ L fa ccd _ outer) (execs (.Assign _ _ _ :: .If _ _ _ _ :: []) (envX _ ⟨_, _, _, _, _⟩ _ _ _ _)) _ _ _
  replace F := fr_kst hk F
  dsimp only [kstB] at F
  have hrv := hi.length
  have hwv := hw.length
  have hc3 : rs.length = 1 ∨ rs.length = 2 ∨ rs.length = 3 := oneThree (by assumption) (by assumption)
  have hrv3 : rv.length ≤ 100000 := by rw [hrv]; exact Nat.le_trans (by assumption) (by decide)
  iterate 1 (first | (k_unfold; (try dsimp only)) | (k_end; wrow_close) | (walk1; (try dsimp only)) | (dsimp only; walk1; (try dsimp only)) | (leave1; walk_say "STEP leave1"; try dsimp only))
  k_dflt (refine LCg.Assign_ListComp_U (F₀ := by k_asm) (by rfl) (by with_unfolding_all rfl) (by rfl) (by decide) (by rfl) (by decide) (by rfl) (by rfl) (by rfl) ?_)
  iterate 1 (first | (k_unfold; (try dsimp only)) | (k_end; wrow_close) | (walk1; (try dsimp only)) | (dsimp only; walk1; (try dsimp only)) | (leave1; walk_say "STEP leave1"; try dsimp only))
  (first | ((with_reducible ((k_here; (with_reducible show wpAny _ _ (eval _ (envX _ _ _ _ _ _)) _ _ _); k_dflt (first | (refine' nameX_L ?Fz279 ?vz279 ?_ ?az279 ?bz279; (case Fz279 => k_asm); (case az279 => rfl); (case bz279 => rfl); (case vz279 => rfl); k_whole) | (refine' nameX_C ?Nz279 ?cz279 ?mz279 ?dz279 ?_ ?az279 ?bz279; (case az279 => rfl); (case bz279 => rfl); (case Nz279 => k_asm); (case cz279 => rfl); (case mz279 => walk_at "my mem"); (case dz279 => assumption); k_whole) | (refine' nameX_K ?Fz279 ?Xz279 ?Tz279 ?ez279 ?_ ?az279 ?bz279; (case Fz279 => k_asm); (case Xz279 => k_asm); (case Tz279 => k_asm); (case az279 => rfl); (case bz279 => rfl); (case ez279 => k_is); k_whole) | (refine' nameX_B ?Fz279 ?Xz279 ?Tz279 ?ez279 ?vz279 ?nz279 ?_ ?az279 ?bz279; (case Fz279 => k_asm); (case Xz279 => k_asm); (case Tz279 => k_asm); (case az279 => rfl); (case bz279 => rfl); (case ez279 => k_is); (case vz279 => boot_fast); (case nz279 => decide); k_whole))))); (try dsimp only)) | (dsimp only; (with_reducible ((k_here; (with_reducible show wpAny _ _ (eval _ (envX _ _ _ _ _ _)) _ _ _); k_dflt (first | (refine' nameX_L ?Fz279 ?vz279 ?_ ?az279 ?bz279; (case Fz279 => k_asm); (case az279 => rfl); (case bz279 => rfl); (case vz279 => rfl); k_whole) | (refine' nameX_C ?Nz279 ?cz279 ?mz279 ?dz279 ?_ ?az279 ?bz279; (case az279 => rfl); (case bz279 => rfl); (case Nz279 => k_asm); (case cz279 => rfl); (case mz279 => walk_at "my mem"); (case dz279 => assumption); k_whole) | (refine' nameX_K ?Fz279 ?Xz279 ?Tz279 ?ez279 ?_ ?az279 ?bz279; (case Fz279 => k_asm); (case Xz279 => k_asm); (case Tz279 => k_asm); (case az279 => rfl); (case bz279 => rfl); (case ez279 => k_is); k_whole) | (refine' nameX_B ?Fz279 ?Xz279 ?Tz279 ?ez279 ?vz279 ?nz279 ?_ ?az279 ?bz279; (case Fz279 => k_asm); (case Xz279 => k_asm); (case Tz279 => k_asm); (case az279 => rfl); (case bz279 => rfl); (case ez279 => k_is); (case vz279 => boot_fast); (case nz279 => decide); k_whole))))); (try dsimp only)))
  iterate 3 (first | (k_unfold; (try dsimp only)) | (k_end; wrow_close) | (walk1; (try dsimp only)) | (dsimp only; walk1; (try dsimp only)) | (leave1; walk_say "STEP leave1"; try dsimp only))
  (first | ((with_reducible ((k_here; (with_reducible show wpAny _ _ (eval _ (envX _ _ _ _ _ _)) _ _ _); k_dflt (first | (refine' nameX_L ?Fz280 ?vz280 ?_ ?az280 ?bz280; (case Fz280 => k_asm); (case az280 => rfl); (case bz280 => rfl); (case vz280 => rfl); k_whole) | (refine' nameX_C ?Nz280 ?cz280 ?mz280 ?dz280 ?_ ?az280 ?bz280; (case az280 => rfl); (case bz280 => rfl); (case Nz280 => k_asm); (case cz280 => rfl); (case mz280 => walk_at "my mem"); (case dz280 => assumption); k_whole) | (refine' nameX_K ?Fz280 ?Xz280 ?Tz280 ?ez280 ?_ ?az280 ?bz280; (case Fz280 => k_asm); (case Xz280 => k_asm); (case Tz280 => k_asm); (case az280 => rfl); (case bz280 => rfl); (case ez280 => k_is); k_whole) | (refine' nameX_B ?Fz280 ?Xz280 ?Tz280 ?ez280 ?vz280 ?nz280 ?_ ?az280 ?bz280; (case Fz280 => k_asm); (case Xz280 => k_asm); (case Tz280 => k_asm); (case az280 => rfl); (case bz280 => rfl); (case ez280 => k_is); (case vz280 => boot_fast); (case nz280 => decide); k_whole))))); (try dsimp only)) | (dsimp only; (with_reducible ((k_here; (with_reducible show wpAny _ _ (eval _ (envX _ _ _ _ _ _)) _ _ _); k_dflt (first | (refine' nameX_L ?Fz280 ?vz280 ?_ ?az280 ?bz280; (case Fz280 => k_asm); (case az280 => rfl); (case bz280 => rfl); (case vz280 => rfl); k_whole) | (refine' nameX_C ?Nz280 ?cz280 ?mz280 ?dz280 ?_ ?az280 ?bz280; (case az280 => rfl); (case bz280 => rfl); (case Nz280 => k_asm); (case cz280 => rfl); (case mz280 => walk_at "my mem"); (case dz280 => assumption); k_whole) | (refine' nameX_K ?Fz280 ?Xz280 ?Tz280 ?ez280 ?_ ?az280 ?bz280; (case Fz280 => k_asm); (case Xz280 => k_asm); (case Tz280 => k_asm); (case az280 => rfl); (case bz280 => rfl); (case ez280 => k_is); k_whole) | (refine' nameX_B ?Fz280 ?Xz280 ?Tz280 ?ez280 ?vz280 ?nz280 ?_ ?az280 ?bz280; (case Fz280 => k_asm); (case Xz280 => k_asm); (case Tz280 => k_asm); (case az280 => rfl); (case bz280 => rfl); (case ez280 => k_is); (case vz280 => boot_fast); (case nz280 => decide); k_whole))))); (try dsimp only)))
  iterate 2 (first | (k_unfold; (try dsimp only)) | (k_end; wrow_close) | (walk1; (try dsimp only)) | (dsimp only; walk1; (try dsimp only)) | (leave1; walk_say "STEP leave1"; try dsimp only))
  (first | ((with_reducible ((k_here; (with_reducible show wpAny _ _ (eval _ (envX _ _ _ _ _ _)) _ _ _); k_dflt (first | (refine' nameX_L ?Fz281 ?vz281 ?_ ?az281 ?bz281; (case Fz281 => k_asm); (case az281 => rfl); (case bz281 => rfl); (case vz281 => rfl); k_whole) | (refine' nameX_C ?Nz281 ?cz281 ?mz281 ?dz281 ?_ ?az281 ?bz281; (case az281 => rfl); (case bz281 => rfl); (case Nz281 => k_asm); (case cz281 => rfl); (case mz281 => walk_at "my mem"); (case dz281 => assumption); k_whole) | (refine' nameX_K ?Fz281 ?Xz281 ?Tz281 ?ez281 ?_ ?az281 ?bz281; (case Fz281 => k_asm); (case Xz281 => k_asm); (case Tz281 => k_asm); (case az281 => rfl); (case bz281 => rfl); (case ez281 => k_is); k_whole) | (refine' nameX_B ?Fz281 ?Xz281 ?Tz281 ?ez281 ?vz281 ?nz281 ?_ ?az281 ?bz281; (case Fz281 => k_asm); (case Xz281 => k_asm); (case Tz281 => k_asm); (case az281 => rfl); (case bz281 => rfl); (case ez281 => k_is); (case vz281 => boot_fast); (case nz281 => decide); k_whole))))); (try dsimp only)) | (dsimp only; (with_reducible ((k_here; (with_reducible show wpAny _ _ (eval _ (envX _ _ _ _ _ _)) _ _ _); k_dflt (first | (refine' nameX_L ?Fz281 ?vz281 ?_ ?az281 ?bz281; (case Fz281 => k_asm); (case az281 => rfl); (case bz281 => rfl); (case vz281 => rfl); k_whole) | (refine' nameX_C ?Nz281 ?cz281 ?mz281 ?dz281 ?_ ?az281 ?bz281; (case az281 => rfl); (case bz281 => rfl); (case Nz281 => k_asm); (case cz281 => rfl); (case mz281 => walk_at "my mem"); (case dz281 => assumption); k_whole) | (refine' nameX_K ?Fz281 ?Xz281 ?Tz281 ?ez281 ?_ ?az281 ?bz281; (case Fz281 => k_asm); (case Xz281 => k_asm); (case Tz281 => k_asm); (case az281 => rfl); (case bz281 => rfl); (case ez281 => k_is); k_whole) | (refine' nameX_B ?Fz281 ?Xz281 ?Tz281 ?ez281 ?vz281 ?nz281 ?_ ?az281 ?bz281; (case Fz281 => k_asm); (case Xz281 => k_asm); (case Tz281 => k_asm); (case az281 => rfl); (case bz281 => rfl); (case ez281 => k_is); (case vz281 => boot_fast); (case nz281 => decide); k_whole))))); (try dsimp only)))
  iterate 1 (first | (k_unfold; (try dsimp only)) | (k_end; wrow_close) | (walk1; (try dsimp only)) | (dsimp only; walk1; (try dsimp only)) | (leave1; walk_say "STEP leave1"; try dsimp only))
  (first | ((with_reducible ((k_here; (with_reducible show wpAny _ _ (call (Value.builtin "len") [Value.ref _]) _ _ _); k_dflt (refine' lenL ?k2z282 ?k3z282 ?k4z282 ?_; (case k2z282 => k_asm); (case k3z282 => walk_at "my mem"); (case k4z282 => omega); intro nqz282 tqz282 tkqz282 hnqz282)))); (try dsimp only)) | (dsimp only; (with_reducible ((k_here; (with_reducible show wpAny _ _ (call (Value.builtin "len") [Value.ref _]) _ _ _); k_dflt (refine' lenL ?k2z282 ?k3z282 ?k4z282 ?_; (case k2z282 => k_asm); (case k3z282 => walk_at "my mem"); (case k4z282 => omega); intro nqz282 tqz282 tkqz282 hnqz282)))); (try dsimp only)))
  iterate 2 (first | (k_unfold; (try dsimp only)) | (k_end; wrow_close) | (walk1; (try dsimp only)) | (dsimp only; walk1; (try dsimp only)) | (leave1; walk_say "STEP leave1"; try dsimp only))
  rename Fr _ _ _ _ => F3
  rename News _ _ _ _ => N3
  rename _ = (rv.length : Int) => hn
  rename IsRange _ _ _ _ _ _ _ _ => hR
  rw [hrv] at hn
  subst hn
  refine LCg.CompSrc.range (n := rs.length) (by rfl) F3 N3 hR ?hsm ?hrn ?hsz ?_
  case hsm => rcases hc3 with h | h | h <;> rw [h] <;> decide
  case hrn => rcases hc3 with h | h | h <;> rw [h] <;> decide
  case hsz => exact Nat.le_trans h3 (by decide)
  intro g'
  (try dsimp only)
  refine restU (fun i ys nw => nw = news ∧ OvL (arcsL ws rs rs.length i) ys) ⟨rfl, .nil⟩ ?turn ?fin
  case turn =>
    clear F3 N3
    rintro i v I oI C oC D m₂ ys h tk nw E' hi9 ⟨t, hv⟩ ⟨hnw, hy⟩ hC hx F9 N9 off ne
    subst hv hnw
    rw [arcsL_succ]
    obtain ⟨t1, g1⟩ := intsGet (i := i) hi hi9
    obtain ⟨t2, g2⟩ := intsGet (i := if i = 0 then rs.length - 1 else i - 1) hi (by split <;> omega)
    have b1 := hrs _ (getD_in hi9)
    have b2 := hrs _ (getD_in (rs := rs) (i := if i = 0 then rs.length - 1 else i - 1) (by split <;> omega))
    have g1' : rv[(0 + (i : Int)).toNat]? = some (.int (rs.getD i 0) t1) := by rw [tn0 i]; exact g1
    have g2' : rv[(if 0 + (i : Int) - 1 = -1 then rv.length - 1 else (0 + (i : Int) - 1).toNat)]? = some (.int (rsAt rs rs.length i) t2) := by
      have e9 : (if 0 + (i : Int) - 1 = -1 then rv.length - 1 else (0 + (i : Int) - 1).toNat) = (if i = 0 then rs.length - 1 else i - 1) := by
        by_cases e : i = 0
        · subst e; rw [hrv]; rfl
        · rw [if_neg (by omega), if_neg e]; omega
      rw [e9]; exact g2
    have b2' : 0 ≤ rsAt rs rs.length i ∧ rsAt rs rs.length i < 3 := b2
    clear g1 g2 b2
    obtain ⟨t3, g3⟩ := ovGet (k := (3 * rsAt rs rs.length i + rs.getD i 0).toNat) hw (by omega)
    have e9 : ws.getD (3 * rsAt rs rs.length i + rs.getD i 0).toNat none = arcO ws rs rs.length i := rfl
    rw [e9] at g3
    generalize arcO ws rs rs.length i = o at g3 ⊢
    generalize rsAt rs rs.length i = ra at g2' b2' g3
    generalize rs.getD i 0 = rb at g1' b1 g3
    cases o with
    | none =>
      dsimp only [ov] at g3
      (try dsimp only)
      iterate 1 (first | (k_unfold; (try dsimp only)) | (k_end; wrow_close) | (walk1; (try dsimp only)) | (dsimp only; walk1; (try dsimp only)) | (leave1; walk_say "STEP leave1"; try dsimp only))
      (first | ((with_reducible ((k_here; (with_reducible show wpAny _ _ (eval _ (compEnvC _ _ _ _)) _ _ _); k_dflt (first | refine LCgL.ld_own (by k_asm) (by walk_at "my mem") (by assumption) (by assumption) ?_ | refine kcf_cell (by k_asm) (by rfl) (by walk_at "my mem") (by assumption) ?_)))); (try dsimp only)) | (dsimp only; (with_reducible ((k_here; (with_reducible show wpAny _ _ (eval _ (compEnvC _ _ _ _)) _ _ _); k_dflt (first | refine LCgL.ld_own (by k_asm) (by walk_at "my mem") (by assumption) (by assumption) ?_ | refine kcf_cell (by k_asm) (by rfl) (by walk_at "my mem") (by assumption) ?_)))); (try dsimp only)))
      iterate 4 (first | (k_unfold; (try dsimp only)) | (k_end; wrow_close) | (walk1; (try dsimp only)) | (dsimp only; walk1; (try dsimp only)) | (leave1; walk_say "STEP leave1"; try dsimp only))
      (first | ((with_reducible ((k_here; (with_reducible show wpAny _ _ (eval _ (compEnvC _ _ _ _)) _ _ _); k_dflt (first | refine LCgL.ld_own (by k_asm) (by walk_at "my mem") (by assumption) (by assumption) ?_ | refine kcf_cell (by k_asm) (by rfl) (by walk_at "my mem") (by assumption) ?_)))); (try dsimp only)) | (dsimp only; (with_reducible ((k_here; (with_reducible show wpAny _ _ (eval _ (compEnvC _ _ _ _)) _ _ _); k_dflt (first | refine LCgL.ld_own (by k_asm) (by walk_at "my mem") (by assumption) (by assumption) ?_ | refine kcf_cell (by k_asm) (by rfl) (by walk_at "my mem") (by assumption) ?_)))); (try dsimp only)))
      iterate 1 (first | (k_unfold; (try dsimp only)) | (k_end; wrow_close) | (walk1; (try dsimp only)) | (dsimp only; walk1; (try dsimp only)) | (leave1; walk_say "STEP leave1"; try dsimp only))
      (first | ((with_reducible ((k_here; (with_reducible show wpAny _ _ (eval _ (compEnvC _ _ _ _)) _ _ _); k_dflt (first | refine LCgL.ld_own (by k_asm) (by walk_at "my mem") (by assumption) (by assumption) ?_ | refine kcf_cell (by k_asm) (by rfl) (by walk_at "my mem") (by assumption) ?_)))); (try dsimp only)) | (dsimp only; (with_reducible ((k_here; (with_reducible show wpAny _ _ (eval _ (compEnvC _ _ _ _)) _ _ _); k_dflt (first | refine LCgL.ld_own (by k_asm) (by walk_at "my mem") (by assumption) (by assumption) ?_ | refine kcf_cell (by k_asm) (by rfl) (by walk_at "my mem") (by assumption) ?_)))); (try dsimp only)))
      iterate 2 (first | (k_unfold; (try dsimp only)) | (k_end; wrow_close) | (walk1; (try dsimp only)) | (dsimp only; walk1; (try dsimp only)) | (leave1; walk_say "STEP leave1"; try dsimp only))
      (first | ((with_reducible ((k_here; (with_reducible show wpAny _ _ (subscriptTail _ _ (Value.ref _) (Value.int _ _)) _ _ _); k_dflt (first | refine my_ring (by k_asm) (by walk_at "my mem") (by omega) (by omega) (by omega) (by omega) (by assumption) ?_ | refine my_item (by k_asm) (by walk_at "my mem") (by omega) (by omega) (by assumption) ?_)))); (try dsimp only)) | (dsimp only; (with_reducible ((k_here; (with_reducible show wpAny _ _ (subscriptTail _ _ (Value.ref _) (Value.int _ _)) _ _ _); k_dflt (first | refine my_ring (by k_asm) (by walk_at "my mem") (by omega) (by omega) (by omega) (by omega) (by assumption) ?_ | refine my_item (by k_asm) (by walk_at "my mem") (by omega) (by omega) (by assumption) ?_)))); (try dsimp only)))
      iterate 2 (first | (k_unfold; (try dsimp only)) | (k_end; wrow_close) | (walk1; (try dsimp only)) | (dsimp only; walk1; (try dsimp only)) | (leave1; walk_say "STEP leave1"; try dsimp only))
      (first | ((with_reducible ((k_here; (with_reducible show wpAny _ _ (eval _ (compEnvC _ _ _ _)) _ _ _); k_dflt (first | refine LCgL.ld_own (by k_asm) (by walk_at "my mem") (by assumption) (by assumption) ?_ | refine kcf_cell (by k_asm) (by rfl) (by walk_at "my mem") (by assumption) ?_)))); (try dsimp only)) | (dsimp only; (with_reducible ((k_here; (with_reducible show wpAny _ _ (eval _ (compEnvC _ _ _ _)) _ _ _); k_dflt (first | refine LCgL.ld_own (by k_asm) (by walk_at "my mem") (by assumption) (by assumption) ?_ | refine kcf_cell (by k_asm) (by rfl) (by walk_at "my mem") (by assumption) ?_)))); (try dsimp only)))
      (first | ((with_reducible ((k_here; (with_reducible show wpAny _ _ (eval _ (compEnvC _ _ _ _)) _ _ _); k_dflt (first | refine LCgL.ld_own (by k_asm) (by walk_at "my mem") (by assumption) (by assumption) ?_ | refine kcf_cell (by k_asm) (by rfl) (by walk_at "my mem") (by assumption) ?_)))); (try dsimp only)) | (dsimp only; (with_reducible ((k_here; (with_reducible show wpAny _ _ (eval _ (compEnvC _ _ _ _)) _ _ _); k_dflt (first | refine LCgL.ld_own (by k_asm) (by walk_at "my mem") (by assumption) (by assumption) ?_ | refine kcf_cell (by k_asm) (by rfl) (by walk_at "my mem") (by assumption) ?_)))); (try dsimp only)))
      (first | ((with_reducible (((k_here; (with_reducible show wpAny _ _ (subscriptTail _ _ (Value.ref _) (Value.int _ _)) _ _ _); k_dflt (first | refine my_item (by k_asm) (by walk_at "my mem") (by omega) (by omega) (by assumption) ?_ | refine my_last (by k_asm) (by walk_at "my mem") (by omega) (by omega) (by assumption) ?_))))); (try dsimp only)) | (dsimp only; (with_reducible (((k_here; (with_reducible show wpAny _ _ (subscriptTail _ _ (Value.ref _) (Value.int _ _)) _ _ _); k_dflt (first | refine my_item (by k_asm) (by walk_at "my mem") (by omega) (by omega) (by assumption) ?_ | refine my_last (by k_asm) (by walk_at "my mem") (by omega) (by omega) (by assumption) ?_))))); (try dsimp only)))
      iterate 1 (first | (k_unfold; (try dsimp only)) | (k_end; wrow_close) | (walk1; (try dsimp only)) | (dsimp only; walk1; (try dsimp only)) | (leave1; walk_say "STEP leave1"; try dsimp only))
      (first | ((with_reducible ((k_here; (with_reducible show wpAny _ _ (subscriptTail _ _ (Value.ref _) (Value.int _ _)) _ _ _); k_dflt (first | refine my_ring (by k_asm) (by walk_at "my mem") (by omega) (by omega) (by omega) (by omega) (by assumption) ?_ | refine my_item (by k_asm) (by walk_at "my mem") (by omega) (by omega) (by assumption) ?_)))); (try dsimp only)) | (dsimp only; (with_reducible ((k_here; (with_reducible show wpAny _ _ (subscriptTail _ _ (Value.ref _) (Value.int _ _)) _ _ _); k_dflt (first | refine my_ring (by k_asm) (by walk_at "my mem") (by omega) (by omega) (by omega) (by omega) (by assumption) ?_ | refine my_item (by k_asm) (by walk_at "my mem") (by omega) (by omega) (by assumption) ?_)))); (try dsimp only)))
      exact LCg.CompEnd.intro F9 N9 _ (fun p hp => hp) off trivial ⟨rfl, ovApp hy (.cons (o := none) (t := 0) .nil)⟩
    | some o =>
      dsimp only [ov] at g3
      (try dsimp only)
      iterate 1 (first | (k_unfold; (try dsimp only)) | (k_end; wrow_close) | (walk1; (try dsimp only)) | (dsimp only; walk1; (try dsimp only)) | (leave1; walk_say "STEP leave1"; try dsimp only))
      (first | ((with_reducible ((k_here; (with_reducible show wpAny _ _ (eval _ (compEnvC _ _ _ _)) _ _ _); k_dflt (first | refine LCgL.ld_own (by k_asm) (by walk_at "my mem") (by assumption) (by assumption) ?_ | refine kcf_cell (by k_asm) (by rfl) (by walk_at "my mem") (by assumption) ?_)))); (try dsimp only)) | (dsimp only; (with_reducible ((k_here; (with_reducible show wpAny _ _ (eval _ (compEnvC _ _ _ _)) _ _ _); k_dflt (first | refine LCgL.ld_own (by k_asm) (by walk_at "my mem") (by assumption) (by assumption) ?_ | refine kcf_cell (by k_asm) (by rfl) (by walk_at "my mem") (by assumption) ?_)))); (try dsimp only)))
      iterate 4 (first | (k_unfold; (try dsimp only)) | (k_end; wrow_close) | (walk1; (try dsimp only)) | (dsimp only; walk1; (try dsimp only)) | (leave1; walk_say "STEP leave1"; try dsimp only))
      (first | ((with_reducible ((k_here; (with_reducible show wpAny _ _ (eval _ (compEnvC _ _ _ _)) _ _ _); k_dflt (first | refine LCgL.ld_own (by k_asm) (by walk_at "my mem") (by assumption) (by assumption) ?_ | refine kcf_cell (by k_asm) (by rfl) (by walk_at "my mem") (by assumption) ?_)))); (try dsimp only)) | (dsimp only; (with_reducible ((k_here; (with_reducible show wpAny _ _ (eval _ (compEnvC _ _ _ _)) _ _ _); k_dflt (first | refine LCgL.ld_own (by k_asm) (by walk_at "my mem") (by assumption) (by assumption) ?_ | refine kcf_cell (by k_asm) (by rfl) (by walk_at "my mem") (by assumption) ?_)))); (try dsimp only)))
      iterate 1 (first | (k_unfold; (try dsimp only)) | (k_end; wrow_close) | (walk1; (try dsimp only)) | (dsimp only; walk1; (try dsimp only)) | (leave1; walk_say "STEP leave1"; try dsimp only))
      (first | ((with_reducible ((k_here; (with_reducible show wpAny _ _ (eval _ (compEnvC _ _ _ _)) _ _ _); k_dflt (first | refine LCgL.ld_own (by k_asm) (by walk_at "my mem") (by assumption) (by assumption) ?_ | refine kcf_cell (by k_asm) (by rfl) (by walk_at "my mem") (by assumption) ?_)))); (try dsimp only)) | (dsimp only; (with_reducible ((k_here; (with_reducible show wpAny _ _ (eval _ (compEnvC _ _ _ _)) _ _ _); k_dflt (first | refine LCgL.ld_own (by k_asm) (by walk_at "my mem") (by assumption) (by assumption) ?_ | refine kcf_cell (by k_asm) (by rfl) (by walk_at "my mem") (by assumption) ?_)))); (try dsimp only)))
      iterate 2 (first | (k_unfold; (try dsimp only)) | (k_end; wrow_close) | (walk1; (try dsimp only)) | (dsimp only; walk1; (try dsimp only)) | (leave1; walk_say "STEP leave1"; try dsimp only))
      (first | ((with_reducible ((k_here; (with_reducible show wpAny _ _ (subscriptTail _ _ (Value.ref _) (Value.int _ _)) _ _ _); k_dflt (first | refine my_ring (by k_asm) (by walk_at "my mem") (by omega) (by omega) (by omega) (by omega) (by assumption) ?_ | refine my_item (by k_asm) (by walk_at "my mem") (by omega) (by omega) (by assumption) ?_)))); (try dsimp only)) | (dsimp only; (with_reducible ((k_here; (with_reducible show wpAny _ _ (subscriptTail _ _ (Value.ref _) (Value.int _ _)) _ _ _); k_dflt (first | refine my_ring (by k_asm) (by walk_at "my mem") (by omega) (by omega) (by omega) (by omega) (by assumption) ?_ | refine my_item (by k_asm) (by walk_at "my mem") (by omega) (by omega) (by assumption) ?_)))); (try dsimp only)))
      iterate 2 (first | (k_unfold; (try dsimp only)) | (k_end; wrow_close) | (walk1; (try dsimp only)) | (dsimp only; walk1; (try dsimp only)) | (leave1; walk_say "STEP leave1"; try dsimp only))
      (first | ((with_reducible ((k_here; (with_reducible show wpAny _ _ (eval _ (compEnvC _ _ _ _)) _ _ _); k_dflt (first | refine LCgL.ld_own (by k_asm) (by walk_at "my mem") (by assumption) (by assumption) ?_ | refine kcf_cell (by k_asm) (by rfl) (by walk_at "my mem") (by assumption) ?_)))); (try dsimp only)) | (dsimp only; (with_reducible ((k_here; (with_reducible show wpAny _ _ (eval _ (compEnvC _ _ _ _)) _ _ _); k_dflt (first | refine LCgL.ld_own (by k_asm) (by walk_at "my mem") (by assumption) (by assumption) ?_ | refine kcf_cell (by k_asm) (by rfl) (by walk_at "my mem") (by assumption) ?_)))); (try dsimp only)))
      (first | ((with_reducible ((k_here; (with_reducible show wpAny _ _ (eval _ (compEnvC _ _ _ _)) _ _ _); k_dflt (first | refine LCgL.ld_own (by k_asm) (by walk_at "my mem") (by assumption) (by assumption) ?_ | refine kcf_cell (by k_asm) (by rfl) (by walk_at "my mem") (by assumption) ?_)))); (try dsimp only)) | (dsimp only; (with_reducible ((k_here; (with_reducible show wpAny _ _ (eval _ (compEnvC _ _ _ _)) _ _ _); k_dflt (first | refine LCgL.ld_own (by k_asm) (by walk_at "my mem") (by assumption) (by assumption) ?_ | refine kcf_cell (by k_asm) (by rfl) (by walk_at "my mem") (by assumption) ?_)))); (try dsimp only)))
      (first | ((with_reducible (((k_here; (with_reducible show wpAny _ _ (subscriptTail _ _ (Value.ref _) (Value.int _ _)) _ _ _); k_dflt (first | refine my_item (by k_asm) (by walk_at "my mem") (by omega) (by omega) (by assumption) ?_ | refine my_last (by k_asm) (by walk_at "my mem") (by omega) (by omega) (by assumption) ?_))))); (try dsimp only)) | (dsimp only; (with_reducible (((k_here; (with_reducible show wpAny _ _ (subscriptTail _ _ (Value.ref _) (Value.int _ _)) _ _ _); k_dflt (first | refine my_item (by k_asm) (by walk_at "my mem") (by omega) (by omega) (by assumption) ?_ | refine my_last (by k_asm) (by walk_at "my mem") (by omega) (by omega) (by assumption) ?_))))); (try dsimp only)))
      iterate 1 (first | (k_unfold; (try dsimp only)) | (k_end; wrow_close) | (walk1; (try dsimp only)) | (dsimp only; walk1; (try dsimp only)) | (leave1; walk_say "STEP leave1"; try dsimp only))
      (first | ((with_reducible ((k_here; (with_reducible show wpAny _ _ (subscriptTail _ _ (Value.ref _) (Value.int _ _)) _ _ _); k_dflt (first | refine my_ring (by k_asm) (by walk_at "my mem") (by omega) (by omega) (by omega) (by omega) (by assumption) ?_ | refine my_item (by k_asm) (by walk_at "my mem") (by omega) (by omega) (by assumption) ?_)))); (try dsimp only)) | (dsimp only; (with_reducible ((k_here; (with_reducible show wpAny _ _ (subscriptTail _ _ (Value.ref _) (Value.int _ _)) _ _ _); k_dflt (first | refine my_ring (by k_asm) (by walk_at "my mem") (by omega) (by omega) (by omega) (by omega) (by assumption) ?_ | refine my_item (by k_asm) (by walk_at "my mem") (by omega) (by omega) (by assumption) ?_)))); (try dsimp only)))
      exact LCg.CompEnd.intro F9 N9 _ (fun p hp => hp) off trivial ⟨rfl, ovApp hy (.cons (o := some _) .nil)⟩
  case fin =>
    clear F3 N3
    rintro ys nw ⟨hnw, hy⟩
    subst hnw
    intro D h8 tk8 F8 N8 o8
    (try dsimp only)
    iterate 4 (first | (k_unfold; (try dsimp only)) | (k_end; wrow_close) | (walk1; (try dsimp only)) | (dsimp only; walk1; (try dsimp only)) | (leave1; walk_say "STEP leave1"; try dsimp only))
    (first | ((with_reducible ((k_here; (with_reducible show wpAny _ _ (eval _ (envX _ _ _ _ _ _)) _ _ _); k_dflt (first | (refine' nameX_L ?Fz299 ?vz299 ?_ ?az299 ?bz299; (case Fz299 => k_asm); (case az299 => rfl); (case bz299 => rfl); (case vz299 => rfl); k_whole) | (refine' nameX_C ?Nz299 ?cz299 ?mz299 ?dz299 ?_ ?az299 ?bz299; (case az299 => rfl); (case bz299 => rfl); (case Nz299 => k_asm); (case cz299 => rfl); (case mz299 => walk_at "my mem"); (case dz299 => assumption); k_whole) | (refine' nameX_K ?Fz299 ?Xz299 ?Tz299 ?ez299 ?_ ?az299 ?bz299; (case Fz299 => k_asm); (case Xz299 => k_asm); (case Tz299 => k_asm); (case az299 => rfl); (case bz299 => rfl); (case ez299 => k_is); k_whole) | (refine' nameX_B ?Fz299 ?Xz299 ?Tz299 ?ez299 ?vz299 ?nz299 ?_ ?az299 ?bz299; (case Fz299 => k_asm); (case Xz299 => k_asm); (case Tz299 => k_asm); (case az299 => rfl); (case bz299 => rfl); (case ez299 => k_is); (case vz299 => boot_fast); (case nz299 => decide); k_whole))))); (try dsimp only)) | (dsimp only; (with_reducible ((k_here; (with_reducible show wpAny _ _ (eval _ (envX _ _ _ _ _ _)) _ _ _); k_dflt (first | (refine' nameX_L ?Fz299 ?vz299 ?_ ?az299 ?bz299; (case Fz299 => k_asm); (case az299 => rfl); (case bz299 => rfl); (case vz299 => rfl); k_whole) | (refine' nameX_C ?Nz299 ?cz299 ?mz299 ?dz299 ?_ ?az299 ?bz299; (case az299 => rfl); (case bz299 => rfl); (case Nz299 => k_asm); (case cz299 => rfl); (case mz299 => walk_at "my mem"); (case dz299 => assumption); k_whole) | (refine' nameX_K ?Fz299 ?Xz299 ?Tz299 ?ez299 ?_ ?az299 ?bz299; (case Fz299 => k_asm); (case Xz299 => k_asm); (case Tz299 => k_asm); (case az299 => rfl); (case bz299 => rfl); (case ez299 => k_is); k_whole) | (refine' nameX_B ?Fz299 ?Xz299 ?Tz299 ?ez299 ?vz299 ?nz299 ?_ ?az299 ?bz299; (case Fz299 => k_asm); (case Xz299 => k_asm); (case Tz299 => k_asm); (case az299 => rfl); (case bz299 => rfl); (case ez299 => k_is); (case vz299 => boot_fast); (case nz299 => decide); k_whole))))); (try dsimp only)))
    rename Fr _ _ _ _ => F1
    rename News _ _ _ _ => N1
    refine notin_none (N1.isList (.head _)) hy ?_
    have hyl := hy.length
    have hal : (arcsL ws rs rs.length rs.length).length = rs.length := by simp [arcsL]
    cases hn : hasNone (arcsL ws rs rs.length rs.length) with
    | true =>
      have hc : ringStep ws rs rg = rg := by unfold ringStep ringO; rw [if_pos hn]
      rw [hc] at hQ
      iterate 4 (first | (k_unfold; (try dsimp only)) | (k_end; wrow_close) | (walk1; (try dsimp only)) | (dsimp only; walk1; (try dsimp only)) | (leave1; walk_say "STEP leave1"; try dsimp only))
      rename Fr _ _ _ _ => F8
      rename News _ _ _ _ => N8
      refine' hQ _ _ _ _ ?hn F8 (cb_drop N8 (fun p hp => .tail _ hp))
      case hn => kst_all
    | false =>
      have hI := ints_some hy hn
      have hkl : (knownL (arcsL ws rs rs.length rs.length)).length = rs.length := by rw [← hI.length, ← hyl, hal]
      have hc : ringStep ws rs rg = Builtin.bitOr rg (2 ^ ((6 : Int).fdiv (rs.length : Int) * (knownL (arcsL ws rs rs.length rs.length)).sum).toNat) := by unfold ringStep ringO; rw [if_neg (by rw [hn]; decide)]
      rw [hc] at hQ
      have hkb : ∀ k ∈ knownL (arcsL ws rs rs.length rs.length), 0 ≤ k ∧ k ≤ 19 := by
        intro k hk
        have := known_mem.mp hk
        obtain ⟨i, _, e⟩ := List.mem_map.mp this
        exact hwb k (getD_mem e)
      have hsum := sum_bd hkb
      rw [hkl] at hsum
      iterate 4 (first | (k_unfold; (try dsimp only)) | (k_end; wrow_close) | (walk1; (try dsimp only)) | (dsimp only; walk1; (try dsimp only)) | (leave1; walk_say "STEP leave1"; try dsimp only))
      (first | ((with_reducible ((k_here; k_dflt (refine wpAny_loadName_local (by rfl) (by rfl) (PyProof.Rows.Fr.ns (by k_asm)) (by rfl) ?_)))); (try dsimp only)) | (dsimp only; (with_reducible ((k_here; k_dflt (refine wpAny_loadName_local (by rfl) (by rfl) (PyProof.Rows.Fr.ns (by k_asm)) (by rfl) ?_)))); (try dsimp only)))
      iterate 6 (first | (k_unfold; (try dsimp only)) | (k_end; wrow_close) | (walk1; (try dsimp only)) | (dsimp only; walk1; (try dsimp only)) | (leave1; walk_say "STEP leave1"; try dsimp only))
      (first | ((with_reducible ((k_here; (with_reducible show wpAny _ _ (eval _ (envX _ _ _ _ _ _)) _ _ _); k_dflt (first | (refine' nameX_L ?Fz301 ?vz301 ?_ ?az301 ?bz301; (case Fz301 => k_asm); (case az301 => rfl); (case bz301 => rfl); (case vz301 => rfl); k_whole) | (refine' nameX_C ?Nz301 ?cz301 ?mz301 ?dz301 ?_ ?az301 ?bz301; (case az301 => rfl); (case bz301 => rfl); (case Nz301 => k_asm); (case cz301 => rfl); (case mz301 => walk_at "my mem"); (case dz301 => assumption); k_whole) | (refine' nameX_K ?Fz301 ?Xz301 ?Tz301 ?ez301 ?_ ?az301 ?bz301; (case Fz301 => k_asm); (case Xz301 => k_asm); (case Tz301 => k_asm); (case az301 => rfl); (case bz301 => rfl); (case ez301 => k_is); k_whole) | (refine' nameX_B ?Fz301 ?Xz301 ?Tz301 ?ez301 ?vz301 ?nz301 ?_ ?az301 ?bz301; (case Fz301 => k_asm); (case Xz301 => k_asm); (case Tz301 => k_asm); (case az301 => rfl); (case bz301 => rfl); (case ez301 => k_is); (case vz301 => boot_fast); (case nz301 => decide); k_whole))))); (try dsimp only)) | (dsimp only; (with_reducible ((k_here; (with_reducible show wpAny _ _ (eval _ (envX _ _ _ _ _ _)) _ _ _); k_dflt (first | (refine' nameX_L ?Fz301 ?vz301 ?_ ?az301 ?bz301; (case Fz301 => k_asm); (case az301 => rfl); (case bz301 => rfl); (case vz301 => rfl); k_whole) | (refine' nameX_C ?Nz301 ?cz301 ?mz301 ?dz301 ?_ ?az301 ?bz301; (case az301 => rfl); (case bz301 => rfl); (case Nz301 => k_asm); (case cz301 => rfl); (case mz301 => walk_at "my mem"); (case dz301 => assumption); k_whole) | (refine' nameX_K ?Fz301 ?Xz301 ?Tz301 ?ez301 ?_ ?az301 ?bz301; (case Fz301 => k_asm); (case Xz301 => k_asm); (case Tz301 => k_asm); (case az301 => rfl); (case bz301 => rfl); (case ez301 => k_is); k_whole) | (refine' nameX_B ?Fz301 ?Xz301 ?Tz301 ?ez301 ?vz301 ?nz301 ?_ ?az301 ?bz301; (case Fz301 => k_asm); (case Xz301 => k_asm); (case Tz301 => k_asm); (case az301 => rfl); (case bz301 => rfl); (case ez301 => k_is); (case vz301 => boot_fast); (case nz301 => decide); k_whole))))); (try dsimp only)))
      iterate 2 (first | (k_unfold; (try dsimp only)) | (k_end; wrow_close) | (walk1; (try dsimp only)) | (dsimp only; walk1; (try dsimp only)) | (leave1; walk_say "STEP leave1"; try dsimp only))
      (first | ((with_reducible ((k_here; (with_reducible show wpAny _ _ (eval _ (envX _ _ _ _ _ _)) _ _ _); k_dflt (first | (refine' nameX_L ?Fz302 ?vz302 ?_ ?az302 ?bz302; (case Fz302 => k_asm); (case az302 => rfl); (case bz302 => rfl); (case vz302 => rfl); k_whole) | (refine' nameX_C ?Nz302 ?cz302 ?mz302 ?dz302 ?_ ?az302 ?bz302; (case az302 => rfl); (case bz302 => rfl); (case Nz302 => k_asm); (case cz302 => rfl); (case mz302 => walk_at "my mem"); (case dz302 => assumption); k_whole) | (refine' nameX_K ?Fz302 ?Xz302 ?Tz302 ?ez302 ?_ ?az302 ?bz302; (case Fz302 => k_asm); (case Xz302 => k_asm); (case Tz302 => k_asm); (case az302 => rfl); (case bz302 => rfl); (case ez302 => k_is); k_whole) | (refine' nameX_B ?Fz302 ?Xz302 ?Tz302 ?ez302 ?vz302 ?nz302 ?_ ?az302 ?bz302; (case Fz302 => k_asm); (case Xz302 => k_asm); (case Tz302 => k_asm); (case az302 => rfl); (case bz302 => rfl); (case ez302 => k_is); (case vz302 => boot_fast); (case nz302 => decide); k_whole))))); (try dsimp only)) | (dsimp only; (with_reducible ((k_here; (with_reducible show wpAny _ _ (eval _ (envX _ _ _ _ _ _)) _ _ _); k_dflt (first | (refine' nameX_L ?Fz302 ?vz302 ?_ ?az302 ?bz302; (case Fz302 => k_asm); (case az302 => rfl); (case bz302 => rfl); (case vz302 => rfl); k_whole) | (refine' nameX_C ?Nz302 ?cz302 ?mz302 ?dz302 ?_ ?az302 ?bz302; (case az302 => rfl); (case bz302 => rfl); (case Nz302 => k_asm); (case cz302 => rfl); (case mz302 => walk_at "my mem"); (case dz302 => assumption); k_whole) | (refine' nameX_K ?Fz302 ?Xz302 ?Tz302 ?ez302 ?_ ?az302 ?bz302; (case Fz302 => k_asm); (case Xz302 => k_asm); (case Tz302 => k_asm); (case az302 => rfl); (case bz302 => rfl); (case ez302 => k_is); k_whole) | (refine' nameX_B ?Fz302 ?Xz302 ?Tz302 ?ez302 ?vz302 ?nz302 ?_ ?az302 ?bz302; (case Fz302 => k_asm); (case Xz302 => k_asm); (case Tz302 => k_asm); (case az302 => rfl); (case bz302 => rfl); (case ez302 => k_is); (case vz302 => boot_fast); (case nz302 => decide); k_whole))))); (try dsimp only)))
      iterate 1 (first | (k_unfold; (try dsimp only)) | (k_end; wrow_close) | (walk1; (try dsimp only)) | (dsimp only; walk1; (try dsimp only)) | (leave1; walk_say "STEP leave1"; try dsimp only))
      (first | ((with_reducible ((k_here; (with_reducible show wpAny _ _ (call (Value.builtin "len") [Value.ref _]) _ _ _); k_dflt (refine' lenL ?k2z303 ?k3z303 ?k4z303 ?_; (case k2z303 => k_asm); (case k3z303 => walk_at "my mem"); (case k4z303 => omega); intro nqz303 tqz303 tkqz303 hnqz303)))); (try dsimp only)) | (dsimp only; (with_reducible ((k_here; (with_reducible show wpAny _ _ (call (Value.builtin "len") [Value.ref _]) _ _ _); k_dflt (refine' lenL ?k2z303 ?k3z303 ?k4z303 ?_; (case k2z303 => k_asm); (case k3z303 => walk_at "my mem"); (case k4z303 => omega); intro nqz303 tqz303 tkqz303 hnqz303)))); (try dsimp only)))
      rename _ = (rv.length : Int) => hn9
      rw [hrv] at hn9
      subst hn9
      have hdv := div6r (b := (rs.length : Int)) (by omega) (by omega)
      have hne : (rs.length : Int) ≠ 0 := by omega
      have hx : 0 ≤ (6 : Int).fdiv (rs.length : Int) * (knownL (arcsL ws rs rs.length rs.length)).sum ∧ (6 : Int).fdiv (rs.length : Int) * (knownL (arcsL ws rs rs.length rs.length)).sum ≤ 114 := by
        have e1 : (6 : Int).fdiv ((1 : Nat) : Int) = 6 := by decide
        have e2 : (6 : Int).fdiv ((2 : Nat) : Int) = 3 := by decide
        have e3 : (6 : Int).fdiv ((3 : Nat) : Int) = 2 := by decide
        generalize (knownL (arcsL ws rs rs.length rs.length)).sum = S at hsum
        rcases hc3 with h | h | h
        · rw [h, e1]; omega
        · rw [h, e2]; omega
        · rw [h, e3]; omega
      iterate 2 (first | (k_unfold; (try dsimp only)) | (k_end; wrow_close) | (walk1; (try dsimp only)) | (dsimp only; walk1; (try dsimp only)) | (leave1; walk_say "STEP leave1"; try dsimp only))
      (first | ((with_reducible ((k_here; (with_reducible show wpAny _ _ (eval _ (envX _ _ _ _ _ _)) _ _ _); k_dflt (first | (refine' nameX_L ?Fz304 ?vz304 ?_ ?az304 ?bz304; (case Fz304 => k_asm); (case az304 => rfl); (case bz304 => rfl); (case vz304 => rfl); k_whole) | (refine' nameX_C ?Nz304 ?cz304 ?mz304 ?dz304 ?_ ?az304 ?bz304; (case az304 => rfl); (case bz304 => rfl); (case Nz304 => k_asm); (case cz304 => rfl); (case mz304 => walk_at "my mem"); (case dz304 => assumption); k_whole) | (refine' nameX_K ?Fz304 ?Xz304 ?Tz304 ?ez304 ?_ ?az304 ?bz304; (case Fz304 => k_asm); (case Xz304 => k_asm); (case Tz304 => k_asm); (case az304 => rfl); (case bz304 => rfl); (case ez304 => k_is); k_whole) | (refine' nameX_B ?Fz304 ?Xz304 ?Tz304 ?ez304 ?vz304 ?nz304 ?_ ?az304 ?bz304; (case Fz304 => k_asm); (case Xz304 => k_asm); (case Tz304 => k_asm); (case az304 => rfl); (case bz304 => rfl); (case ez304 => k_is); (case vz304 => boot_fast); (case nz304 => decide); k_whole))))); (try dsimp only)) | (dsimp only; (with_reducible ((k_here; (with_reducible show wpAny _ _ (eval _ (envX _ _ _ _ _ _)) _ _ _); k_dflt (first | (refine' nameX_L ?Fz304 ?vz304 ?_ ?az304 ?bz304; (case Fz304 => k_asm); (case az304 => rfl); (case bz304 => rfl); (case vz304 => rfl); k_whole) | (refine' nameX_C ?Nz304 ?cz304 ?mz304 ?dz304 ?_ ?az304 ?bz304; (case az304 => rfl); (case bz304 => rfl); (case Nz304 => k_asm); (case cz304 => rfl); (case mz304 => walk_at "my mem"); (case dz304 => assumption); k_whole) | (refine' nameX_K ?Fz304 ?Xz304 ?Tz304 ?ez304 ?_ ?az304 ?bz304; (case Fz304 => k_asm); (case Xz304 => k_asm); (case Tz304 => k_asm); (case az304 => rfl); (case bz304 => rfl); (case ez304 => k_is); k_whole) | (refine' nameX_B ?Fz304 ?Xz304 ?Tz304 ?ez304 ?vz304 ?nz304 ?_ ?az304 ?bz304; (case Fz304 => k_asm); (case Xz304 => k_asm); (case Tz304 => k_asm); (case az304 => rfl); (case bz304 => rfl); (case ez304 => k_is); (case vz304 => boot_fast); (case nz304 => decide); k_whole))))); (try dsimp only)))
      iterate 2 (first | (k_unfold; (try dsimp only)) | (k_end; wrow_close) | (walk1; (try dsimp only)) | (dsimp only; walk1; (try dsimp only)) | (leave1; walk_say "STEP leave1"; try dsimp only))
      (first | ((with_reducible ((k_here; (with_reducible show wpAny _ _ (eval _ (envX _ _ _ _ _ _)) _ _ _); k_dflt (first | (refine' nameX_L ?Fz305 ?vz305 ?_ ?az305 ?bz305; (case Fz305 => k_asm); (case az305 => rfl); (case bz305 => rfl); (case vz305 => rfl); k_whole) | (refine' nameX_C ?Nz305 ?cz305 ?mz305 ?dz305 ?_ ?az305 ?bz305; (case az305 => rfl); (case bz305 => rfl); (case Nz305 => k_asm); (case cz305 => rfl); (case mz305 => walk_at "my mem"); (case dz305 => assumption); k_whole) | (refine' nameX_K ?Fz305 ?Xz305 ?Tz305 ?ez305 ?_ ?az305 ?bz305; (case Fz305 => k_asm); (case Xz305 => k_asm); (case Tz305 => k_asm); (case az305 => rfl); (case bz305 => rfl); (case ez305 => k_is); k_whole) | (refine' nameX_B ?Fz305 ?Xz305 ?Tz305 ?ez305 ?vz305 ?nz305 ?_ ?az305 ?bz305; (case Fz305 => k_asm); (case Xz305 => k_asm); (case Tz305 => k_asm); (case az305 => rfl); (case bz305 => rfl); (case ez305 => k_is); (case vz305 => boot_fast); (case nz305 => decide); k_whole))))); (try dsimp only)) | (dsimp only; (with_reducible ((k_here; (with_reducible show wpAny _ _ (eval _ (envX _ _ _ _ _ _)) _ _ _); k_dflt (first | (refine' nameX_L ?Fz305 ?vz305 ?_ ?az305 ?bz305; (case Fz305 => k_asm); (case az305 => rfl); (case bz305 => rfl); (case vz305 => rfl); k_whole) | (refine' nameX_C ?Nz305 ?cz305 ?mz305 ?dz305 ?_ ?az305 ?bz305; (case az305 => rfl); (case bz305 => rfl); (case Nz305 => k_asm); (case cz305 => rfl); (case mz305 => walk_at "my mem"); (case dz305 => assumption); k_whole) | (refine' nameX_K ?Fz305 ?Xz305 ?Tz305 ?ez305 ?_ ?az305 ?bz305; (case Fz305 => k_asm); (case Xz305 => k_asm); (case Tz305 => k_asm); (case az305 => rfl); (case bz305 => rfl); (case ez305 => k_is); k_whole) | (refine' nameX_B ?Fz305 ?Xz305 ?Tz305 ?ez305 ?vz305 ?nz305 ?_ ?az305 ?bz305; (case Fz305 => k_asm); (case Xz305 => k_asm); (case Tz305 => k_asm); (case az305 => rfl); (case bz305 => rfl); (case ez305 => k_is); (case vz305 => boot_fast); (case nz305 => decide); k_whole))))); (try dsimp only)))
      iterate 1 (first | (k_unfold; (try dsimp only)) | (k_end; wrow_close) | (walk1; (try dsimp only)) | (dsimp only; walk1; (try dsimp only)) | (leave1; walk_say "STEP leave1"; try dsimp only))
      (first | ((with_reducible ((k_here; (with_reducible show wpAny _ _ (call (Value.builtin "sum") [Value.ref _]) _ _ _); k_dflt (refine' sumK ?k0z306 ?k1z306 ?k2z306 ?k3z306 ?k4z306 ?_; (case k0z306 => rfl); (case k1z306 => k_asm); (case k2z306 => k_asm); (case k4z306 => assumption); (case k3z306 => exact News.isList (by k_asm) (by walk_at "my mem")); intro hqz306 tkqz306 tqz306 Fqz306 Nqz306)))); (try dsimp only)) | (dsimp only; (with_reducible ((k_here; (with_reducible show wpAny _ _ (call (Value.builtin "sum") [Value.ref _]) _ _ _); k_dflt (refine' sumK ?k0z306 ?k1z306 ?k2z306 ?k3z306 ?k4z306 ?_; (case k0z306 => rfl); (case k1z306 => k_asm); (case k2z306 => k_asm); (case k4z306 => assumption); (case k3z306 => exact News.isList (by k_asm) (by walk_at "my mem")); intro hqz306 tkqz306 tqz306 Fqz306 Nqz306)))); (try dsimp only)))
      iterate 1 (first | (k_unfold; (try dsimp only)) | (k_end; wrow_close) | (walk1; (try dsimp only)) | (dsimp only; walk1; (try dsimp only)) | (leave1; walk_say "STEP leave1"; try dsimp only))
      generalize (6 : Int).fdiv (rs.length : Int) * (knownL (arcsL ws rs rs.length rs.length)).sum = x at hQ hx ⊢
      iterate 6 (first | (k_unfold; (try dsimp only)) | (k_end; wrow_close) | (walk1; (try dsimp only)) | (dsimp only; walk1; (try dsimp only)) | (leave1; walk_say "STEP leave1"; try dsimp only))
      rename Fr _ _ _ _ => F8
      rename News _ _ _ _ => N8
      refine' hQ _ _ _ _ ?hn F8 (cb_drop N8 (fun p hp => .tail _ hp))
      case hn => kst_all
end

end
-- P3
section
theorem ring1_get {W : Nat → Option Int} {a : Nat} {l : Int} (h : ring1 W a = some l) : ∃ w, W a = some w ∧ l = 6 * w := by
  unfold ring1 at h
  obtain ⟨w, hw, e⟩ := Option.map_eq_some_iff.mp h
  exact ⟨w, hw, e.symm⟩
theorem ring2_get {W : Nat → Option Int} {a b : Nat} {l : Int} (h : ring2 W a b = some l) : ∃ w x, W a = some w ∧ W b = some x ∧ l = 3 * (w + x) := by
  unfold ring2 at h
  obtain ⟨z, hz, e⟩ := Option.map_eq_some_iff.mp h
  obtain ⟨w, x, h1, h2, h3⟩ := addO_some hz
  exact ⟨w, x, h1, h2, by rw [← e, h3]⟩
theorem ring3_get {W : Nat → Option Int} {a b c : Nat} {l : Int} (h : ring3 W a b c = some l) : ∃ w x y, W a = some w ∧ W b = some x ∧ W c = some y ∧ l = 2 * (w + x + y) := by
  unfold ring3 at h
  obtain ⟨z, hz, e⟩ := Option.map_eq_some_iff.mp h
  obtain ⟨t, y, h1, h2, h3⟩ := addO_some hz
  obtain ⟨w, x, h4, h5, h6⟩ := addO_some h1
  exact ⟨w, x, y, h4, h5, h2, by rw [← e, h3, h6]⟩
theorem attain8 {W : Nat → Option Int} {l : Int} (hm : some l ∈ ringVals W) (hl : ∀ ρ, some ρ ∈ ringVals W → ρ ≤ l) :
    ∃ v y, v < 3 ∧ Dk W 3 v = some y ∧ ∀ k x, k < 3 → Dk W k v = some x → l ≤ (6 / (3 - k : Nat) : Int) * (y - x) := by
  have one : ∀ u, u < 3 → ring1 W (3 * u + u) = some l → ∃ v y, v < 3 ∧ Dk W 3 v = some y ∧ ∀ k x, k < 3 → Dk W k v = some x → l ≤ (6 / (3 - k : Nat) : Int) * (y - x) := by
    intro u hu h
    obtain ⟨w, hw, e⟩ := ring1_get h
    exact attain hl hu hu hu hu hu hu hw hw hw hw hw hw (by omega)
  have two : ∀ u v, u < 3 → v < 3 → ring2 W (3 * u + v) (3 * v + u) = some l → ∃ v y, v < 3 ∧ Dk W 3 v = some y ∧ ∀ k x, k < 3 → Dk W k v = some x → l ≤ (6 / (3 - k : Nat) : Int) * (y - x) := by
    intro u v hu hv h
    obtain ⟨a, b, ha, hb, e⟩ := ring2_get h
    exact attain hl hu hv hu hv hu hv ha hb ha hb ha hb (by omega)
  have three : ∀ u v x, u < 3 → v < 3 → x < 3 → ring3 W (3 * u + v) (3 * v + x) (3 * x + u) = some l → ∃ v y, v < 3 ∧ Dk W 3 v = some y ∧ ∀ k x, k < 3 → Dk W k v = some x → l ≤ (6 / (3 - k : Nat) : Int) * (y - x) := by
    intro u v x hu hv hx h
    obtain ⟨a, b, c, ha, hb, hc, e⟩ := ring3_get h
    exact attain hl hu hv hx hu hv hx ha hb hc ha hb hc (by omega)
  simp only [ringVals, List.mem_cons, List.not_mem_nil, or_false] at hm
  rcases hm with h | h | h | h | h | h | h | h
  · exact one 0 (by decide) h.symm
  · exact one 1 (by decide) h.symm
  · exact one 2 (by decide) h.symm
  · exact two 1 0 (by decide) (by decide) h.symm
  · exact two 2 0 (by decide) (by decide) h.symm
  · exact two 2 1 (by decide) (by decide) h.symm
  · exact three 2 0 1 (by decide) (by decide) (by decide) h.symm
  · exact three 1 0 2 (by decide) (by decide) (by decide) h.symm
noncomputable def IsMin (S : List Int) (m : Int) : Prop := m ∈ S ∧ ∀ a ∈ S, m ≤ a
theorem karp {W : Nat → Option Int} {S : Nat → List Int} {ms : List Int}
    (hS : ∀ v a, v < 3 → (a ∈ S v ↔ ∃ k x y, k < 3 ∧ Dk W 3 v = some y ∧ Dk W k v = some x ∧ a = (6 / (3 - k : Nat) : Int) * (y - x)))
    (h1 : ∀ m ∈ ms, ∃ v, v < 3 ∧ IsMin (S v) m) (h2 : ∀ v, v < 3 → S v ≠ [] → ∃ m ∈ ms, IsMin (S v) m) :
    ((∀ ρ, some ρ ∉ ringVals W) → ms = []) ∧ ∀ l, some l ∈ ringVals W → (∀ ρ, some ρ ∈ ringVals W → ρ ≤ l) → l ∈ ms ∧ ∀ m ∈ ms, m ≤ l := by
  have up : ∀ m ∈ ms, ∃ ρ, some ρ ∈ ringVals W ∧ m ≤ ρ := by
    intro m hm
    obtain ⟨v, hv, hm1, hm2⟩ := h1 m hm
    obtain ⟨k, x, y, hk, hy, hx, e⟩ := (hS v m hv).mp hm1
    obtain ⟨ρ, hρ, k', x', hk', hx', hle⟩ := up3 hv hy
    exact ⟨ρ, hρ, Int.le_trans (hm2 _ ((hS v _ hv).mpr ⟨k', x', y, hk', hy, hx', rfl⟩)) hle⟩
  constructor
  · intro hn
    rw [List.eq_nil_iff_forall_not_mem]
    intro m hm
    obtain ⟨ρ, hρ, _⟩ := up m hm
    exact hn ρ hρ
  · intro l hl hmax
    have le : ∀ m ∈ ms, m ≤ l := fun m hm => by
      obtain ⟨ρ, hρ, h⟩ := up m hm
      exact Int.le_trans h (hmax ρ hρ)
    refine ⟨?_, le⟩
    obtain ⟨v, y, hv, hy, hall⟩ := attain8 hl hmax
    have hne : S v ≠ [] := by
      intro e
      have : (6 / (3 - 0 : Nat) : Int) * (y - 0) ∈ S v := (hS v _ hv).mpr ⟨0, 0, y, by omega, hy, rfl, rfl⟩
      rw [e] at this
      cases this
    obtain ⟨m, hm, hm1, hm2⟩ := h2 v hv hne
    obtain ⟨k, x, y', hk, hy', hx, e⟩ := (hS v m hv).mp hm1
    rw [hy] at hy'
    cases hy'
    have a := hall k x hk hx
    have b := le m hm
    obtain rfl : m = l := by omega
    exact hm

end
-- P4
section
noncomputable def rings8 : List (List Int) := [[0], [1], [2], [0, 1], [0, 2], [1, 2], [0, 1, 2], [0, 2, 1]]
noncomputable def wOf (ws : List (Option Int)) (k : Nat) : Option Int := ws.getD k none
theorem ringO_1 (ws : List (Option Int)) (a : Nat) : ringO ws [(a : Int)] = ring1 (wOf ws) (3 * a + a) := by
  have e : arcsL ws [(a : Int)] 1 1 = [wOf ws (3 * a + a)] := by
    show [ws.getD (3 * (a : Int) + (a : Int)).toNat none] = _
    rw [tn3 a a]; rfl
  unfold ringO
  simp only [List.length_cons, List.length_nil, Nat.zero_add]
  rw [e]
  unfold ring1
  cases wOf ws (3 * a + a) with
  | none => rfl
  | some x =>
    show some ((6 : Int).fdiv 1 * ([x] : List Int).sum) = some (6 * x)
    congr 1
    simp only [List.sum_cons, List.sum_nil]
    have : (6 : Int).fdiv 1 = 6 := by decide
    rw [this]; omega
theorem ringO_2 (ws : List (Option Int)) (a b : Nat) : ringO ws [(a : Int), (b : Int)] = ring2 (wOf ws) (3 * b + a) (3 * a + b) := by
  have e : arcsL ws [(a : Int), (b : Int)] 2 2 = [wOf ws (3 * b + a), wOf ws (3 * a + b)] := by
    show [ws.getD (3 * (b : Int) + (a : Int)).toNat none, ws.getD (3 * (a : Int) + (b : Int)).toNat none] = _
    rw [tn3 b a, tn3 a b]; rfl
  unfold ringO
  simp only [List.length_cons, List.length_nil, Nat.zero_add, Nat.reduceAdd]
  rw [e]
  unfold ring2
  cases wOf ws (3 * b + a) with
  | none => rfl
  | some x =>
    cases wOf ws (3 * a + b) with
    | none => rfl
    | some y =>
      show some ((6 : Int).fdiv 2 * ([x, y] : List Int).sum) = some (3 * (x + y))
      congr 1
      simp only [List.sum_cons, List.sum_nil]
      have : (6 : Int).fdiv 2 = 3 := by decide
      rw [this]; omega
theorem ringO_3 (ws : List (Option Int)) (a b c : Nat) : ringO ws [(a : Int), (b : Int), (c : Int)] = ring3 (wOf ws) (3 * c + a) (3 * a + b) (3 * b + c) := by
  have e : arcsL ws [(a : Int), (b : Int), (c : Int)] 3 3 = [wOf ws (3 * c + a), wOf ws (3 * a + b), wOf ws (3 * b + c)] := by
    show [ws.getD (3 * (c : Int) + (a : Int)).toNat none, ws.getD (3 * (a : Int) + (b : Int)).toNat none, ws.getD (3 * (b : Int) + (c : Int)).toNat none] = _
    rw [tn3 c a, tn3 a b, tn3 b c]; rfl
  unfold ringO
  simp only [List.length_cons, List.length_nil, Nat.zero_add, Nat.reduceAdd]
  rw [e]
  unfold ring3
  cases wOf ws (3 * c + a) with
  | none => rfl
  | some x =>
    cases wOf ws (3 * a + b) with
    | none => rfl
    | some y =>
      cases wOf ws (3 * b + c) with
      | none => rfl
      | some z =>
        show some ((6 : Int).fdiv 3 * ([x, y, z] : List Int).sum) = some (2 * (x + y + z))
        congr 1
        simp only [List.sum_cons, List.sum_nil]
        have : (6 : Int).fdiv 3 = 2 := by decide
        rw [this]; omega
theorem rings_eq (ws : List (Option Int)) : rings8.map (ringO ws) = ringVals (wOf ws) := by
  have a0 := ringO_1 ws 0
  have a1 := ringO_1 ws 1
  have a2 := ringO_1 ws 2
  have b0 := ringO_2 ws 0 1
  have b1 := ringO_2 ws 0 2
  have b2 := ringO_2 ws 1 2
  have c0 := ringO_3 ws 0 1 2
  have c1 := ringO_3 ws 0 2 1
  show [ringO ws [((0 : Nat) : Int)], ringO ws [((1 : Nat) : Int)], ringO ws [((2 : Nat) : Int)], ringO ws [((0 : Nat) : Int), ((1 : Nat) : Int)], ringO ws [((0 : Nat) : Int), ((2 : Nat) : Int)], ringO ws [((1 : Nat) : Int), ((2 : Nat) : Int)], ringO ws [((0 : Nat) : Int), ((1 : Nat) : Int), ((2 : Nat) : Int)], ringO ws [((0 : Nat) : Int), ((2 : Nat) : Int), ((1 : Nat) : Int)]] = _
  rw [a0, a1, a2, b0, b1, b2, c0, c1]
  rfl
theorem nextO_eq (ws rs : List (Option Int)) (j : Nat) : nextO ws rs j = nextR (wOf ws) (fun u => rs.getD u none) j := by
  show bestO (leadsL ws rs j 3) = _
  have e : leadsL ws rs j 3 = [leadO ws rs j 0, leadO ws rs j 1, leadO ws rs j 2] := rfl
  rw [e]
  show maxO (maxO (addO (rs.getD 0 none) (ws.getD (3 * 0 + j) none)) (addO (rs.getD 1 none) (ws.getD (3 * 1 + j) none))) (addO (rs.getD 2 none) (ws.getD (3 * 2 + j) none)) = _
  simp only [Nat.mul_zero, Nat.zero_add, Nat.mul_one, Nat.reduceMul]
  rfl
theorem nextR_congr {W r r' : Nat → Option Int} (h : ∀ u, u < 3 → r u = r' u) (v : Nat) : nextR W r v = nextR W r' v := by
  unfold nextR
  rw [h 0 (by decide), h 1 (by decide), h 2 (by decide)]
theorem rowD_eq (ws : List (Option Int)) : ∀ k v, v < 3 → (rowD ws k).getD v none = Dk (wOf ws) k v
  | 0, v, hv => by
    obtain rfl | rfl | rfl := lt3 (by assumption)
    all_goals rfl
  | k + 1, v, hv => by
    have e : (rowD ws (k + 1)).getD v none = nextO ws (rowD ws k) v := by
      show (rowL ws (rowD ws k) 3).getD v none = _
      obtain rfl | rfl | rfl := lt3 (by assumption)
      all_goals rfl
    rw [e, nextO_eq]
    exact nextR_congr (fun u hu => rowD_eq ws k u hu) v
theorem share_eq (y x : Int) {k : Nat} (hk : k < 3) : shareV y x (0 + (k : Int)) ((y - x + 60 * (3 - (0 + (k : Int)))) / (3 - (0 + (k : Int)))) = (6 / (3 - k : Nat) : Int) * (y - x) := by
  have f1 : (6 : Int).fdiv 1 = 6 := by decide
  have f2 : (6 : Int).fdiv 2 = 3 := by decide
  have f3 : (6 : Int).fdiv 3 = 2 := by decide
  unfold shareV
  obtain rfl | rfl | rfl := lt3 hk
  · rw [show (3 : Int) - (0 + ((0 : Nat) : Int)) = 3 from rfl, f3]; rw [sh3, q20, Int.mul_add]; exact Int.add_sub_cancel _ _
  · rw [show (3 : Int) - (0 + ((1 : Nat) : Int)) = 2 from rfl, f2]; rw [sh2, q31, Int.mul_add]; exact Int.add_sub_cancel _ _
  · rw [show (3 : Int) - (0 + ((2 : Nat) : Int)) = 1 from rfl, f1]; rw [sh1, q61, Int.mul_add]; exact Int.add_sub_cancel _ _
theorem shares_mem (ws : List (Option Int)) (v : Nat) (a : Int) (hv : v < 3) : a ∈ sharesL ws v 3 ↔ ∃ k x y, k < 3 ∧ Dk (wOf ws) 3 v = some y ∧ Dk (wOf ws) k v = some x ∧ a = (6 / (3 - k : Nat) : Int) * (y - x) := by
  unfold sharesL
  rw [List.mem_filterMap]
  constructor
  · rintro ⟨k, hk, e⟩
    have hk := List.mem_range.mp hk
    rw [rowD_eq ws 3 v hv, rowD_eq ws k v hv] at e
    cases hy : Dk (wOf ws) 3 v with
    | none => rw [hy] at e; cases e
    | some y =>
      cases hx : Dk (wOf ws) k v with
      | none => rw [hy, hx] at e; cases e
      | some x =>
        rw [hy, hx] at e
        exact ⟨k, x, y, hk, rfl, hx, by rw [← share_eq y x hk]; exact (Option.some.inj e).symm⟩
  · rintro ⟨k, x, y, hk, hy, hx, e⟩
    refine ⟨k, List.mem_range.mpr hk, ?_⟩
    rw [rowD_eq ws 3 v hv, rowD_eq ws k v hv, hy, hx, e, ← share_eq y x hk]
    rfl
theorem means_mem {ws : List (Option Int)} : ∀ {i ms}, MeansAre ws i ms → (∀ m ∈ ms, ∃ v, v < i ∧ IsMin (sharesL ws v 3) m) ∧ ∀ v, v < i → sharesL ws v 3 ≠ [] → ∃ m ∈ ms, IsMin (sharesL ws v 3) m := by
  intro i ms h
  induction h with
  | zero => exact ⟨fun _ h => (nomatch h), fun _ h => absurd h (Nat.not_lt_zero _)⟩
  | @skip i ms hs _ ih =>
    refine ⟨fun m hm => ?_, fun v hv hne => ?_⟩
    · obtain ⟨v, hv, h⟩ := ih.1 m hm
      exact ⟨v, by omega, h⟩
    · by_cases e : v = i
      · subst e; exact absurd hs hne
      · exact ih.2 v (by omega) hne
  | @add i ms M hM hM' _ ih =>
    refine ⟨fun m hm => ?_, fun v hv hne => ?_⟩
    · rcases List.mem_append.mp hm with hm | hm
      · obtain ⟨v, hv, h⟩ := ih.1 m hm
        exact ⟨v, by omega, h⟩
      · rw [List.mem_singleton.mp hm]
        exact ⟨i, by omega, hM, hM'⟩
    · by_cases e : v = i
      · subst e; exact ⟨M, List.mem_append_right _ (.head _), hM, hM'⟩
      · obtain ⟨m, hm, h⟩ := ih.2 v (by omega) hne
        exact ⟨m, List.mem_append_left _ hm, h⟩
theorem max_ex : ∀ {ks : List Int}, ks ≠ [] → ∃ l ∈ ks, ∀ x ∈ ks, x ≤ l
  | [], h => absurd rfl h
  | [a], _ => ⟨a, .head _, fun x hx => by rw [List.mem_singleton.mp hx]; exact Int.le_refl _⟩
  | a :: b :: r, _ => by
    obtain ⟨l, hl, hm⟩ := max_ex (ks := b :: r) (fun h => nomatch h)
    by_cases h : a ≤ l
    · exact ⟨l, .tail _ hl, fun x hx => by rcases List.mem_cons.mp hx with rfl | hx; exact h; exact hm x hx⟩
    · exact ⟨a, .head _, fun x hx => by rcases List.mem_cons.mp hx with rfl | hx; exact Int.le_refl _; have := hm x hx; omega⟩
theorem wOf_bd {ws : List (Option Int)} (hwb : ∀ v, some v ∈ ws → 0 ≤ v ∧ v ≤ 19) {k : Nat} {v : Int} (h : wOf ws k = some v) : 0 ≤ v ∧ v ≤ 19 := hwb v (getD_mem h)
theorem ringVals_bd {ws : List (Option Int)} (hwb : ∀ v, some v ∈ ws → 0 ≤ v ∧ v ≤ 19) : ∀ l, some l ∈ ringVals (wOf ws) → 0 ≤ l := by
  intro l h
  have one : ∀ a, ring1 (wOf ws) a = some l → 0 ≤ l := fun a h => by obtain ⟨w, hw, e⟩ := ring1_get h; have := wOf_bd hwb hw; omega
  have two : ∀ a b, ring2 (wOf ws) a b = some l → 0 ≤ l := fun a b h => by obtain ⟨w, x, hw, hx, e⟩ := ring2_get h; have := wOf_bd hwb hw; have := wOf_bd hwb hx; omega
  have three : ∀ a b c, ring3 (wOf ws) a b c = some l → 0 ≤ l := fun a b c h => by obtain ⟨w, x, y, hw, hx, hy, e⟩ := ring3_get h; have := wOf_bd hwb hw; have := wOf_bd hwb hx; have := wOf_bd hwb hy; omega
  simp only [ringVals, List.mem_cons, List.not_mem_nil, or_false] at h
  rcases h with h | h | h | h | h | h | h | h
  · exact one _ h.symm
  · exact one _ h.symm
  · exact one _ h.symm
  · exact two _ _ h.symm
  · exact two _ _ h.symm
  · exact two _ _ h.symm
  · exact three _ _ _ h.symm
  · exact three _ _ _ h.symm
theorem end_law {ws : List (Option Int)} (hwb : ∀ v, some v ∈ ws → 0 ≤ v ∧ v ≤ 19) {ms : List Int} (h : MeansAre ws 3 ms) {M : Int} (hM : M ∈ ms ++ [-1]) (hM' : ∀ a ∈ ms ++ [-1], a ≤ M) :
    M = (Builtin.Int.intBits (orBits (knownL (rings8.map (ringO ws)))) : Int) - 1 := by
  obtain ⟨m1, m2⟩ := means_mem h
  obtain ⟨k1, k2⟩ := karp (W := wOf ws) (S := fun v => sharesL ws v 3) (ms := ms) (fun v a hv => shares_mem ws v a hv) m1 m2
  rw [rings_eq]
  by_cases hn : knownL (ringVals (wOf ws)) = []
  · have hms : ms = [] := k1 fun ρ hρ => by
      have := known_mem.mpr hρ
      rw [hn] at this
      cases this
    subst hms
    rw [hn]
    rw [List.nil_append, List.mem_singleton] at hM
    rw [hM]; decide
  · obtain ⟨l, hl, hmax⟩ := max_ex hn
    have hb : ∀ k ∈ knownL (ringVals (wOf ws)), 0 ≤ k := fun k hk => ringVals_bd hwb k (known_mem.mp hk)
    have e := bits_or hb hl hmax
    have e' : (Builtin.Int.intBits (orBits (knownL (ringVals (wOf ws)))) : Int) = l + 1 := e
    obtain ⟨g1, g2⟩ := k2 l (known_mem.mp hl) (fun ρ hρ => hmax ρ (known_mem.mpr hρ))
    have l0 := hb l hl
    have a1 := hM' l (List.mem_append_left _ g1)
    have a2 : M ≤ l := by
      rcases List.mem_append.mp hM with hm | hm
      · exact g2 M hm
      · rw [List.mem_singleton.mp hm]; omega
    omega

end
-- R3
section
example : True := by w_top off; exact trivial
theorem perm9 {α : Type} {a b c d e f g h i x : α} {r : List α} : (a :: b :: c :: d :: e :: f :: g :: h :: i :: x :: r).Perm (x :: a :: b :: c :: d :: e :: f :: g :: h :: i :: r) :=
  List.perm_middle (l₁ := [a, b, c, d, e, f, g, h, i]) (l₂ := r) (a := x)
theorem rings_step {ws : List (Option Int)} {rss : List (List Int)} {i : Nat} {rs : List Int} (h : rss[i]? = some rs) :
    orBits (knownL ((rss.take (i + 1)).map (ringO ws))) = ringStep ws rs (orBits (knownL ((rss.take i).map (ringO ws)))) := by
  rw [List.take_add_one, h, List.map_append]
  show orBits (knownL ((rss.take i).map (ringO ws) ++ [ringO ws rs])) = _
  have e : knownL ((rss.take i).map (ringO ws) ++ [ringO ws rs]) = knownL ((rss.take i).map (ringO ws)) ++ (ringO ws rs).toList := by
    unfold knownL
    rw [List.filterMap_append]
    cases ringO ws rs <;> rfl
  rw [e]
  unfold ringStep
  cases ringO ws rs with
  | none => rw [Option.toList_none, List.append_nil]
  | some x =>
    show orBits (_ ++ [x]) = _
    unfold orBits
    rw [List.foldl_append]; rfl
theorem rings8_ok {i : Nat} {rs : List Int} (h : rings8[i]? = some rs) : 1 ≤ rs.length ∧ rs.length ≤ 3 ∧ ∀ x ∈ rs, 0 ≤ x ∧ x < 3 := by
  have key : ∀ r ∈ rings8, 1 ≤ r.length ∧ r.length ≤ 3 ∧ ∀ x ∈ r, 0 ≤ x ∧ x < 3 := by decide
  exact key rs (List.mem_of_getElem? h)
section
variable {w : World} {p : Program} {loose : List Str} {mean : ExcName → Option Value} {mg mb : Str → Option Value}
theorem t_rloop (ws : List (Option Int)) (al wD mA : Addr) (vs wv : List Value) (nn wn : Nat) (t0 : Tok) (px : Pos) (o1 o3 : Obj) (c3 : Option Value) (nx : Led) (dp un : Nat) (gd : Option (List Code)) (fa : Addr) (ccd : Value) (outer : List Env) (A₀ : Around) (base h₀ : Heap) (L : Addr) (m : Str → Option Value) (s : Shared) (Q : Flow → Shared → Prop) (E : Value → Shared → Prop)
    (B : Below A₀ base outer h₀) (F : Fr h₀ L s.heap m) (X : (Mine.hd.heap_39 w.params).In h₀) (T : Top p loose mean mg mb h₀)
    (N : News h₀ L s.heap ((L + 1 + 1 + 1, o3) :: nx)) (hoff : ∀ p ∈ nx, p.1 ≠ L + 1 + 1 + 1) (hd : dp + 300 < recursionLimit) (hu : un + 3000 < cLine) (hE : PassesOwn (model PySem.Challenge.rw_wo0033_01.row.prog w) (lawA dp un gd L fa ccd outer) (lawEnv L fa ccd) E)
    (m1 : (L + 1, o1) ∈ nx) (d1 : o1.data = .cell (some (.ref wD))) (m3 : (wD, listOf wv.toArray wn) ∈ nx) (d3 : o3.data = .cell c3)
    (hl : (al, listOf vs.toArray nn) ∈ nx) (hvl : vs.length = 8) (hr : ∀ (i : Nat) (v : Value), vs[i]? = some v → ∃ a rv rn rs, v = Value.ref a ∧ (a, listOf rv.toArray rn) ∈ nx ∧ IntsAre rv rs ∧ rings8[i]? = some rs)
    (hw : OvL ws wv) (hwl : ws.length = 9) (hwb : ∀ v, some v ∈ ws → 0 ≤ v ∧ v ≤ 19)
    (hk : ∀ p ∈ [(Str.ofString "means", Value.ref mA), (Str.ofString "rings", Value.int 0 t0)], m p.1 = some p.2)
    (hK : ∀ t o3' m' h' tk', (∀ p ∈ [(Str.ofString "means", Value.ref mA), (Str.ofString "rings", Value.int (orBits (knownL (rings8.map (ringO ws)))) t)], m' p.1 = some p.2) →
      Fr h₀ L h' m' → News h₀ L h' ((L + 1 + 1 + 1, o3') :: nx) → Q .next { s with heap := h', toks := tk' }) :
    wpAny (model PySem.Challenge.rw_wo0033_01.row.prog w) (lawA dp un gd L fa ccd outer) (pyIter (.ref al)) (fun it s₂ => codeAny (model PySem.Challenge.rw_wo0033_01.row.prog w) (lawA dp un gd L fa ccd outer) (.forLoop (.Name (Str.ofString "ring") px) it rgBody [] (lawEnv L fa ccd)) (fun r s' => match r with | .ok f => Q f s' | .error e => cameBackBy (model PySem.Challenge.rw_wo0033_01.row.prog w) (lawA dp un gd L fa ccd outer) (lawEnv L fa ccd) E e s') s₂) E s := by
  refine loopCell (c := L + 1 + 1 + 1) (fun i m₁ nw => nw = nx ∧ ∃ t, ∀ p ∈ [(Str.ofString "means", Value.ref mA), (Str.ofString "rings", Value.int (orBits (knownL ((rings8.take i).map (ringO ws)))) t)], m₁ p.1 = some p.2) rfl rfl (by rfl) (by rfl) d3 hl ?hJl F N hoff ⟨rfl, t0, hk⟩ hE ?turn ?done
  case hJl => rintro i m nw ⟨e, _⟩; rw [e]; exact hl
  case turn =>
    rintro i v m₁ nw h tk I oI o' hv ⟨hnw, t, hk9⟩ hIc hoI hoc dc F9 N9
    subst hnw
    obtain ⟨a, rv, rn, rs, rfl, ha, hi, hrs⟩ := hr i v hv
    obtain ⟨r1, r2, r3⟩ := rings8_ok hrs
    refine t_rg rs _ t ws wD a mA wv rv wn rn o1 o' ((I, oI) :: (L + 1 + 1 + 1, o') :: nw) dp un gd fa ccd outer A₀ base h₀ L _ _ _ E B F9 X T N9 hd hu (.tail _ (.tail _ m1)) d1 (.tail _ (.tail _ m3)) (.tail _ (.head _)) dc (.tail _ (.tail _ ha)) hw hwl hwb hi r1 r2 r3 hk9 ?hQ
    intro t' m' h' tk' hk' F' N'
    exact ⟨rfl, h', tk', m', nw, rfl, F', N', hoI, hoc, rfl, t', by rw [rings_step hrs]; exact hk'⟩
  case done =>
    rintro m' nw' h' tk' o' ⟨hnw, t, hk9⟩ F' N'
    subst hnw
    rw [hvl] at hk9
    exact hK t o' m' h' tk' hk9 F' N'
end
section
variable {w : World} {p : Program} {loose : List Str} {mean : ExcName → Option Value} {mg mb : Str → Option Value}
theorem t_rings (ws : List (Option Int)) (wD mA : Addr) (wv : List Value) (wn : Nat) (o1 o3 : Obj) (c3 : Option Value) (news : Led) (dp un : Nat) (gd : Option (List Code)) (fa : Addr) (ccd : Value) (outer : List Env) (A₀ : Around) (base h₀ : Heap) (L : Addr) (m : Str → Option Value) (s : Shared) (Q : Flow → Shared → Prop) (E : Value → Shared → Prop) (restS : List Stmt)
    (B : Below A₀ base outer h₀) (F : Fr h₀ L s.heap m) (X : (Mine.hd.heap_39 w.params).In h₀) (T : Top p loose mean mg mb h₀)
    (N : News h₀ L s.heap ((L + 1 + 1 + 1, o3) :: news)) (hoff : ∀ p ∈ news, p.1 ≠ L + 1 + 1 + 1) (hd : dp + 300 < recursionLimit) (hu : un + 3000 < cLine) (hE : PassesOwn (model PySem.Challenge.rw_wo0033_01.row.prog w) (lawA dp un gd L fa ccd outer) (lawEnv L fa ccd) E)
    (m1 : (L + 1, o1) ∈ news) (d1 : o1.data = .cell (some (.ref wD))) (m3 : (wD, listOf wv.toArray wn) ∈ news) (d3 : o3.data = .cell c3)
    (hw : OvL ws wv) (hwl : ws.length = 9) (hwb : ∀ v, some v ∈ ws → 0 ≤ v ∧ v ≤ 19)
    (hk : ∀ p ∈ [(Str.ofString "means", Value.ref mA)], m p.1 = some p.2)
    (hK : ∀ t o3' m' h' tk', (∀ p ∈ [(Str.ofString "means", Value.ref mA), (Str.ofString "rings", Value.int (orBits (knownL (rings8.map (ringO ws)))) t)], m' p.1 = some p.2) →
      Fr h₀ L h' m' → News h₀ L h' ((L + 1 + 1 + 1, o3') :: news) →
      wpAny (model PySem.Challenge.rw_wo0033_01.row.prog w) (lawA dp un gd L fa ccd outer) (execs restS (lawEnv L fa ccd)) Q E { s with heap := h', toks := tk' }) :
    wpAny (model PySem.Challenge.rw_wo0033_01.row.prog w) (lawA dp un gd L fa ccd outer) (execs (lawS 5 :: lawS 6 :: restS) (lawEnv L fa ccd)) Q E s := by
  revert X; k_fill; intro X
  change wpAny _ (ktrTop dp un gd _ ⟨_, _, _, _, _⟩ L fa ccd _ outer) (execs (.Assign _ _ _ :: .For _ _ rgBody _ _ :: restS) (envX _ ⟨_, _, _, _, _⟩ _ _ _ _)) _ _ _
  change PassesOwn _ (ktrTop dp un gd _ ⟨_, _, _, _, _⟩ L fa ccd _ outer) (envX _ ⟨_, _, _, _, _⟩ _ _ _ _) _ at hE
  replace F := fr_kst hk F
  dsimp only [kstB] at F
  iterate 6 (first | (k_unfold; (try dsimp only)) | (k_end; wrow_close) | (walk1; (try dsimp only)) | (dsimp only; walk1; (try dsimp only)) | (leave1; walk_say "STEP leave1"; try dsimp only))
  refine' wpAny_For ?k1 ?k2
  case k2 => intro _; rfl
  iterate 65 (first | (k_unfold; (try dsimp only)) | (k_end; wrow_close) | (walk1; (try dsimp only)) | (dsimp only; walk1; (try dsimp only)) | (leave1; walk_say "STEP leave1"; try dsimp only))
  rename Fr _ _ _ _ => F3
  rename News _ _ _ _ => N3
  have N4 := news_perm N3 perm9
  refine t_rloop ws _ wD mA _ wv _ wn s.toks _ o1 o3 c3 _ dp un gd fa ccd outer A₀ base h₀ L _ _ _ E B F3 X T N4 ?ho hd hu hE ?m1 d1 ?m3 d3 (.head _) rfl ?hr hw hwl hwb ?hk ?hK
  case m1 => iterate 9 refine List.Mem.tail _ ?_
             exact m1
  case m3 => iterate 9 refine List.Mem.tail _ ?_
             exact m3
  case hk => kst_all
  case hK =>
    intro t o3' m' h' tk' hk' F' N'
    dsimp only
    refine hK t o3' m' h' tk' hk' F' (cb_drop N' ?_)
    intro p hp
    rcases List.mem_cons.mp hp with rfl | hp
    · exact .head _
    · iterate 10 refine List.Mem.tail _ ?_
      exact hp
  case ho =>
    iterate 9 refine List.forall_mem_cons.mpr ⟨by first | k_ne | omega, ?_⟩
    exact hoff
  case hr =>
    intro i v hv
    match i, hv with
    | 0, hv => cases hv; exact ⟨_, _, _, [0], rfl, by walk_at "my mem", .cons _ _ .nil, rfl⟩
    | 1, hv => cases hv; exact ⟨_, _, _, [1], rfl, by walk_at "my mem", .cons _ _ .nil, rfl⟩
    | 2, hv => cases hv; exact ⟨_, _, _, [2], rfl, by walk_at "my mem", .cons _ _ .nil, rfl⟩
    | 3, hv => cases hv; exact ⟨_, _, _, [0, 1], rfl, by walk_at "my mem", .cons _ _ (.cons _ _ .nil), rfl⟩
    | 4, hv => cases hv; exact ⟨_, _, _, [0, 2], rfl, by walk_at "my mem", .cons _ _ (.cons _ _ .nil), rfl⟩
    | 5, hv => cases hv; exact ⟨_, _, _, [1, 2], rfl, by walk_at "my mem", .cons _ _ (.cons _ _ .nil), rfl⟩
    | 6, hv => cases hv; exact ⟨_, _, _, [0, 1, 2], rfl, by walk_at "my mem", .cons _ _ (.cons _ _ (.cons _ _ .nil)), rfl⟩
    | 7, hv => cases hv; exact ⟨_, _, _, [0, 2, 1], rfl, by walk_at "my mem", .cons _ _ (.cons _ _ (.cons _ _ .nil)), rfl⟩
    | n + 8, hv => cases hv
end

end
-- R4
section
example : True := by w_top off; exact trivial
section
variable {w : World} {p : Program} {loose : List Str} {mean : ExcName → Option Value} {mg mb : Str → Option Value}
theorem t_end (ws : List (Option Int)) (ms : List Int) (mA : Addr) (mv : List Value) (mn : Nat) (tr : Tok) (news : Led) (dp un : Nat) (gd : Option (List Code)) (fa : Addr) (ccd : Value) (outer : List Env) (A₀ : Around) (base h₀ : Heap) (L : Addr) (m : Str → Option Value) (s : Shared) (Q : Flow → Shared → Prop) (E : Value → Shared → Prop) (restS : List Stmt)
    (B : Below A₀ base outer h₀) (F : Fr h₀ L s.heap m) (X : (Mine.hd.heap_39 w.params).In h₀) (T : Top p loose mean mg mb h₀)
    (N : News h₀ L s.heap news) (hd : dp + 300 < recursionLimit) (hu : un + 3000 < cLine)
    (m1 : (mA, listOf mv.toArray mn) ∈ news) (hi : IntsAre mv ms) (hm : MeansAre ws 3 ms) (hwb : ∀ v, some v ∈ ws → 0 ≤ v ∧ v ≤ 19)
    (hk : ∀ p ∈ [(Str.ofString "means", Value.ref mA), (Str.ofString "rings", Value.int (orBits (knownL (rings8.map (ringO ws)))) tr)], m p.1 = some p.2)
    (hK : ∀ m' h' tk', Fr h₀ L h' m' → News h₀ L h' news → Q (.ret (.bool true)) { s with heap := h', toks := tk' }) :
    wpAny (model PySem.Challenge.rw_wo0033_01.row.prog w) (lawA dp un gd L fa ccd outer) (execs (lawS 7 :: restS) (lawEnv L fa ccd)) Q E s := by
  revert X; k_fill; intro X
  change wpAny _ (ktrTop dp un gd _ ⟨_, _, _, _, _⟩ L fa ccd _ outer) (execs (.Return _ _ :: restS) (envX _ ⟨_, _, _, _, _⟩ _ _ _ _)) _ _ _
  replace F := fr_kst hk F
  dsimp only [kstB] at F
  have hml := hm.len
  have hil := hi.length
  iterate 4 (first | (k_unfold; (try dsimp only)) | (k_end; wrow_close) | (walk1; (try dsimp only)) | (dsimp only; walk1; (try dsimp only)) | (leave1; walk_say "STEP leave1"; try dsimp only))
  (first | ((with_reducible ((k_here; (with_reducible show wpAny _ _ (eval _ (envX _ _ _ _ _ _)) _ _ _); k_dflt (first | (refine' nameX_L ?Fz307 ?vz307 ?_ ?az307 ?bz307; (case Fz307 => k_asm); (case az307 => rfl); (case bz307 => rfl); (case vz307 => rfl); k_whole) | (refine' nameX_C ?Nz307 ?cz307 ?mz307 ?dz307 ?_ ?az307 ?bz307; (case az307 => rfl); (case bz307 => rfl); (case Nz307 => k_asm); (case cz307 => rfl); (case mz307 => walk_at "my mem"); (case dz307 => assumption); k_whole) | (refine' nameX_K ?Fz307 ?Xz307 ?Tz307 ?ez307 ?_ ?az307 ?bz307; (case Fz307 => k_asm); (case Xz307 => k_asm); (case Tz307 => k_asm); (case az307 => rfl); (case bz307 => rfl); (case ez307 => k_is); k_whole) | (refine' nameX_B ?Fz307 ?Xz307 ?Tz307 ?ez307 ?vz307 ?nz307 ?_ ?az307 ?bz307; (case Fz307 => k_asm); (case Xz307 => k_asm); (case Tz307 => k_asm); (case az307 => rfl); (case bz307 => rfl); (case ez307 => k_is); (case vz307 => boot_fast); (case nz307 => decide); k_whole))))); (try dsimp only)) | (dsimp only; (with_reducible ((k_here; (with_reducible show wpAny _ _ (eval _ (envX _ _ _ _ _ _)) _ _ _); k_dflt (first | (refine' nameX_L ?Fz307 ?vz307 ?_ ?az307 ?bz307; (case Fz307 => k_asm); (case az307 => rfl); (case bz307 => rfl); (case vz307 => rfl); k_whole) | (refine' nameX_C ?Nz307 ?cz307 ?mz307 ?dz307 ?_ ?az307 ?bz307; (case az307 => rfl); (case bz307 => rfl); (case Nz307 => k_asm); (case cz307 => rfl); (case mz307 => walk_at "my mem"); (case dz307 => assumption); k_whole) | (refine' nameX_K ?Fz307 ?Xz307 ?Tz307 ?ez307 ?_ ?az307 ?bz307; (case Fz307 => k_asm); (case Xz307 => k_asm); (case Tz307 => k_asm); (case az307 => rfl); (case bz307 => rfl); (case ez307 => k_is); k_whole) | (refine' nameX_B ?Fz307 ?Xz307 ?Tz307 ?ez307 ?vz307 ?nz307 ?_ ?az307 ?bz307; (case Fz307 => k_asm); (case Xz307 => k_asm); (case Tz307 => k_asm); (case az307 => rfl); (case bz307 => rfl); (case ez307 => k_is); (case vz307 => boot_fast); (case nz307 => decide); k_whole))))); (try dsimp only)))
  iterate 3 (first | (k_unfold; (try dsimp only)) | (k_end; wrow_close) | (walk1; (try dsimp only)) | (dsimp only; walk1; (try dsimp only)) | (leave1; walk_say "STEP leave1"; try dsimp only))
  (first | ((with_reducible ((k_here; (with_reducible show wpAny _ _ (eval _ (envX _ _ _ _ _ _)) _ _ _); k_dflt (first | (refine' nameX_L ?Fz308 ?vz308 ?_ ?az308 ?bz308; (case Fz308 => k_asm); (case az308 => rfl); (case bz308 => rfl); (case vz308 => rfl); k_whole) | (refine' nameX_C ?Nz308 ?cz308 ?mz308 ?dz308 ?_ ?az308 ?bz308; (case az308 => rfl); (case bz308 => rfl); (case Nz308 => k_asm); (case cz308 => rfl); (case mz308 => walk_at "my mem"); (case dz308 => assumption); k_whole) | (refine' nameX_K ?Fz308 ?Xz308 ?Tz308 ?ez308 ?_ ?az308 ?bz308; (case Fz308 => k_asm); (case Xz308 => k_asm); (case Tz308 => k_asm); (case az308 => rfl); (case bz308 => rfl); (case ez308 => k_is); k_whole) | (refine' nameX_B ?Fz308 ?Xz308 ?Tz308 ?ez308 ?vz308 ?nz308 ?_ ?az308 ?bz308; (case Fz308 => k_asm); (case Xz308 => k_asm); (case Tz308 => k_asm); (case az308 => rfl); (case bz308 => rfl); (case ez308 => k_is); (case vz308 => boot_fast); (case nz308 => decide); k_whole))))); (try dsimp only)) | (dsimp only; (with_reducible ((k_here; (with_reducible show wpAny _ _ (eval _ (envX _ _ _ _ _ _)) _ _ _); k_dflt (first | (refine' nameX_L ?Fz308 ?vz308 ?_ ?az308 ?bz308; (case Fz308 => k_asm); (case az308 => rfl); (case bz308 => rfl); (case vz308 => rfl); k_whole) | (refine' nameX_C ?Nz308 ?cz308 ?mz308 ?dz308 ?_ ?az308 ?bz308; (case az308 => rfl); (case bz308 => rfl); (case Nz308 => k_asm); (case cz308 => rfl); (case mz308 => walk_at "my mem"); (case dz308 => assumption); k_whole) | (refine' nameX_K ?Fz308 ?Xz308 ?Tz308 ?ez308 ?_ ?az308 ?bz308; (case Fz308 => k_asm); (case Xz308 => k_asm); (case Tz308 => k_asm); (case az308 => rfl); (case bz308 => rfl); (case ez308 => k_is); k_whole) | (refine' nameX_B ?Fz308 ?Xz308 ?Tz308 ?ez308 ?vz308 ?nz308 ?_ ?az308 ?bz308; (case Fz308 => k_asm); (case Xz308 => k_asm); (case Tz308 => k_asm); (case az308 => rfl); (case bz308 => rfl); (case ez308 => k_is); (case vz308 => boot_fast); (case nz308 => decide); k_whole))))); (try dsimp only)))
  iterate 7 (first | (k_unfold; (try dsimp only)) | (k_end; wrow_close) | (walk1; (try dsimp only)) | (dsimp only; walk1; (try dsimp only)) | (leave1; walk_say "STEP leave1"; try dsimp only))
  rename Fr _ _ _ _ => F1
  rename News _ _ _ _ => N1
  refine kmk_add_ints (vs := mv) (ns := ms) (ms := [-1]) F1 N1 (N1.isList (.tail _ m1)) (N1.isList (.head _)) hi (.cons (-1) _ .nil) ?_ ?hz
  case hz => exact Nat.le_trans (show ms.length + 1 ≤ 4 by omega) (by decide)
  intro D us h2 F2 N2 l2 hus
  clear F1 N1
  (try dsimp only)
  iterate 1 (first | (k_unfold; (try dsimp only)) | (k_end; wrow_close) | (walk1; (try dsimp only)) | (dsimp only; walk1; (try dsimp only)) | (leave1; walk_say "STEP leave1"; try dsimp only))
  refine kso_max F2 N2 (N2.isList (.head _)) hus (by rw [List.length_append]; exact Nat.succ_pos _) rfl ?_
  intro h3 M t3 tk3 F3 N3 hM hM'
  clear F2 N2
  (try dsimp only)
  iterate 1 (first | (k_unfold; (try dsimp only)) | (k_end; wrow_close) | (walk1; (try dsimp only)) | (dsimp only; walk1; (try dsimp only)) | (leave1; walk_say "STEP leave1"; try dsimp only))
  (first | ((with_reducible ((k_here; (with_reducible show wpAny _ _ (eval _ (envX _ _ _ _ _ _)) _ _ _); k_dflt (first | (refine' nameX_L ?Fz309 ?vz309 ?_ ?az309 ?bz309; (case Fz309 => k_asm); (case az309 => rfl); (case bz309 => rfl); (case vz309 => rfl); k_whole) | (refine' nameX_C ?Nz309 ?cz309 ?mz309 ?dz309 ?_ ?az309 ?bz309; (case az309 => rfl); (case bz309 => rfl); (case Nz309 => k_asm); (case cz309 => rfl); (case mz309 => walk_at "my mem"); (case dz309 => assumption); k_whole) | (refine' nameX_K ?Fz309 ?Xz309 ?Tz309 ?ez309 ?_ ?az309 ?bz309; (case Fz309 => k_asm); (case Xz309 => k_asm); (case Tz309 => k_asm); (case az309 => rfl); (case bz309 => rfl); (case ez309 => k_is); k_whole) | (refine' nameX_B ?Fz309 ?Xz309 ?Tz309 ?ez309 ?vz309 ?nz309 ?_ ?az309 ?bz309; (case Fz309 => k_asm); (case Xz309 => k_asm); (case Tz309 => k_asm); (case az309 => rfl); (case bz309 => rfl); (case ez309 => k_is); (case vz309 => boot_fast); (case nz309 => decide); k_whole))))); (try dsimp only)) | (dsimp only; (with_reducible ((k_here; (with_reducible show wpAny _ _ (eval _ (envX _ _ _ _ _ _)) _ _ _); k_dflt (first | (refine' nameX_L ?Fz309 ?vz309 ?_ ?az309 ?bz309; (case Fz309 => k_asm); (case az309 => rfl); (case bz309 => rfl); (case vz309 => rfl); k_whole) | (refine' nameX_C ?Nz309 ?cz309 ?mz309 ?dz309 ?_ ?az309 ?bz309; (case az309 => rfl); (case bz309 => rfl); (case Nz309 => k_asm); (case cz309 => rfl); (case mz309 => walk_at "my mem"); (case dz309 => assumption); k_whole) | (refine' nameX_K ?Fz309 ?Xz309 ?Tz309 ?ez309 ?_ ?az309 ?bz309; (case Fz309 => k_asm); (case Xz309 => k_asm); (case Tz309 => k_asm); (case az309 => rfl); (case bz309 => rfl); (case ez309 => k_is); k_whole) | (refine' nameX_B ?Fz309 ?Xz309 ?Tz309 ?ez309 ?vz309 ?nz309 ?_ ?az309 ?bz309; (case Fz309 => k_asm); (case Xz309 => k_asm); (case Tz309 => k_asm); (case az309 => rfl); (case bz309 => rfl); (case ez309 => k_is); (case vz309 => boot_fast); (case nz309 => decide); k_whole))))); (try dsimp only)))
  (first | ((with_reducible ((k_here; k_dflt (first | refine' callWith_K ?k1z310 ?k2z310 ?_; (case k1z310 => k_asm); (case k2z310 => k_is); k_whole | refine' callWith_KW ?k1z310 ?k2z310 ?k3z310 ?_; (case k1z310 => k_asm); (case k2z310 => k_is); (case k3z310 => exact rfl); k_whole)))); (try dsimp only)) | (dsimp only; (with_reducible ((k_here; k_dflt (first | refine' callWith_K ?k1z310 ?k2z310 ?_; (case k1z310 => k_asm); (case k2z310 => k_is); k_whole | refine' callWith_KW ?k1z310 ?k2z310 ?k3z310 ?_; (case k1z310 => k_asm); (case k2z310 => k_is); (case k3z310 => exact rfl); k_whole)))); (try dsimp only)))
  iterate 1 (first | (k_unfold; (try dsimp only)) | (k_end; wrow_close) | (walk1; (try dsimp only)) | (dsimp only; walk1; (try dsimp only)) | (leave1; walk_say "STEP leave1"; try dsimp only))
  (first | ((with_reducible ((k_here; (with_reducible show wpAny _ _ (eval _ (envX _ _ _ _ _ _)) _ _ _); k_dflt (first | (refine' nameX_L ?Fz311 ?vz311 ?_ ?az311 ?bz311; (case Fz311 => k_asm); (case az311 => rfl); (case bz311 => rfl); (case vz311 => rfl); k_whole) | (refine' nameX_C ?Nz311 ?cz311 ?mz311 ?dz311 ?_ ?az311 ?bz311; (case az311 => rfl); (case bz311 => rfl); (case Nz311 => k_asm); (case cz311 => rfl); (case mz311 => walk_at "my mem"); (case dz311 => assumption); k_whole) | (refine' nameX_K ?Fz311 ?Xz311 ?Tz311 ?ez311 ?_ ?az311 ?bz311; (case Fz311 => k_asm); (case Xz311 => k_asm); (case Tz311 => k_asm); (case az311 => rfl); (case bz311 => rfl); (case ez311 => k_is); k_whole) | (refine' nameX_B ?Fz311 ?Xz311 ?Tz311 ?ez311 ?vz311 ?nz311 ?_ ?az311 ?bz311; (case Fz311 => k_asm); (case Xz311 => k_asm); (case Tz311 => k_asm); (case az311 => rfl); (case bz311 => rfl); (case ez311 => k_is); (case vz311 => boot_fast); (case nz311 => decide); k_whole))))); (try dsimp only)) | (dsimp only; (with_reducible ((k_here; (with_reducible show wpAny _ _ (eval _ (envX _ _ _ _ _ _)) _ _ _); k_dflt (first | (refine' nameX_L ?Fz311 ?vz311 ?_ ?az311 ?bz311; (case Fz311 => k_asm); (case az311 => rfl); (case bz311 => rfl); (case vz311 => rfl); k_whole) | (refine' nameX_C ?Nz311 ?cz311 ?mz311 ?dz311 ?_ ?az311 ?bz311; (case az311 => rfl); (case bz311 => rfl); (case Nz311 => k_asm); (case cz311 => rfl); (case mz311 => walk_at "my mem"); (case dz311 => assumption); k_whole) | (refine' nameX_K ?Fz311 ?Xz311 ?Tz311 ?ez311 ?_ ?az311 ?bz311; (case Fz311 => k_asm); (case Xz311 => k_asm); (case Tz311 => k_asm); (case az311 => rfl); (case bz311 => rfl); (case ez311 => k_is); k_whole) | (refine' nameX_B ?Fz311 ?Xz311 ?Tz311 ?ez311 ?vz311 ?nz311 ?_ ?az311 ?bz311; (case Fz311 => k_asm); (case Xz311 => k_asm); (case Tz311 => k_asm); (case az311 => rfl); (case bz311 => rfl); (case ez311 => k_is); (case vz311 => boot_fast); (case nz311 => decide); k_whole))))); (try dsimp only)))
  iterate 2 (first | (k_unfold; (try dsimp only)) | (k_end; wrow_close) | (walk1; (try dsimp only)) | (dsimp only; walk1; (try dsimp only)) | (leave1; walk_say "STEP leave1"; try dsimp only))
  rename Fr _ _ _ _ => F4
  rename News _ _ _ _ => N4
  refine c_high_bit _ (orBits (knownL (rings8.map (ringO ws)))) tr _ _ _ _ _ _ _ _ _ _ _ _ _ _ _ _ _ B F4 X N4 T rfl trivial (rm2 hd (by decide)) (rm2 hu (by decide)) ?_
  intro t5 h5 tk5 F5 N5
  clear F4 N4
  rw [← end_law hwb hm hM hM']
  (try dsimp only)
  iterate 1 (first | (k_unfold; (try dsimp only)) | (k_end; wrow_close) | (walk1; (try dsimp only)) | (dsimp only; walk1; (try dsimp only)) | (leave1; walk_say "STEP leave1"; try dsimp only))
  rw [show (M == M) = true from beq_self_eq_true M]
  exact hK _ _ _ F5 (cb_drop N5 fun p hp => .tail _ (.tail _ hp))
end

end
-- R5
section
theorem perm_l1 {α : Type} {a b c d e f g h i : α} : ([a, b, c, d, e, f, g, h, i] : List α).Perm (e :: g :: ([] ++ a :: ([b] ++ [c, d, f, h, i]))) :=
  (List.perm_middle (l₁ := [a, b, c, d]) (l₂ := [f, g, h, i]) (a := e)).trans (.cons e (List.perm_middle (l₁ := [a, b, c, d, f]) (l₂ := [h, i]) (a := g)))
theorem perm_l2 {α : Type} {x y k a b d e f : α} {c r : List α} : (x :: y :: (c ++ k :: (r ++ [a, b, d, e, f]))).Perm (f :: ([] ++ e :: ([] ++ x :: y :: (c ++ k :: (r ++ [a, b, d]))))) := by
  have e1 : x :: y :: (c ++ k :: (r ++ [a, b, d, e, f])) = (x :: y :: (c ++ k :: (r ++ [a, b, d]))) ++ [e, f] := by simp
  rw [e1]
  exact List.perm_append_comm.trans (.swap f e _)
section
variable {w : World} {p : Program} {loose : List Str} {mean : ExcName → Option Value} {mg mb : Str → Option Value}
theorem t_law (l : Addr) (vs : List Value) (ns : List Int) (o1 o2 o3 : Obj) (c1 c2 c3 : Option Value) (dp un : Nat) (gd : Option (List Code)) (fa : Addr) (ccd : Value) (outer : List Env) (A₀ : Around) (base h₀ : Heap) (L : Addr) (m : Str → Option Value) (s : Shared) (Q : Flow → Shared → Prop) (E : Value → Shared → Prop)
    (B : Below A₀ base outer h₀) (F : Fr h₀ L s.heap m) (X : (Mine.hd.heap_39 w.params).In h₀) (T : Top p loose mean mg mb h₀) (C1 : CodeHd base 71 67) (C2 : CodeHd base 78 74) (C3 : CodeHd base 111 107)
    (N : News h₀ L s.heap [(L + 1 + 1 + 1, o3), (L + 1 + 1, o2), (L + 1, o1), (107, tabObj #[]), (74, tabObj #[]), (67, tabObj #[])])
    (hL : (107 : Nat) < L ∧ (74 : Nat) < L ∧ (67 : Nat) < L) (hd : dp + 300 < recursionLimit) (hu : un + 3000 < cLine) (hE : PassesOwn (model PySem.Challenge.rw_wo0033_01.row.prog w) (lawA dp un gd L fa ccd outer) (lawEnv L fa ccd) E)
    (d1 : o1.data = .cell c1) (d2 : o2.data = .cell c2) (d3 : o3.data = .cell c3)
    (hm : m (Str.ofString "script") = some (.ref l)) (hl : h₀.IsList l vs.toArray) (hI : IntsAre vs ns) (hn : ns.length ≤ 63)
    (hQ : ∀ nw ps1 ps2 ps3 m' h' tk', Fr h₀ L h' m' → News h₀ L h' nw → (67, tabObj ps1) ∈ nw → (74, tabObj ps2) ∈ nw → (107, tabObj ps3) ∈ nw → Q (.ret (.bool true)) { s with heap := h', toks := tk' }) :
    wpAny (model PySem.Challenge.rw_wo0033_01.row.prog w) (lawA dp un gd L fa ccd outer) (execs [lawS 0, lawS 1, lawS 2, lawS 3, lawS 4, lawS 5, lawS 6, lawS 7] (lawEnv L fa ccd)) Q E s := by
  refine t_A l .none vs ns o1 o2 o3 c1 c2 c3 dp un gd fa ccd outer A₀ base h₀ L m s Q E _ B F X T N hL hd hu d1 d2 d3 hm hl hI hn ?_
  intro wD wv os wk r0 t1 t2 t3 o1' m1 h1 tk1 hw hwl hwb d1' hwk F1 N1 nd1
  have N1' := news_perm N1 perm_l1
  have nd1' := nd1.perm perm_l1
  refine t_steps os wD wk wv _ 0 o1' o2 c2 #[] [] [(wD, LCg.lst wv), (L + 1 + 1 + 1, o3), (L + 1, o1'), (74, tabObj #[]), (67, tabObj #[])] [(r0, [Value.int 0 t1, Value.int 0 t2, Value.int 0 t3], 0)] dp un gd fa ccd outer A₀ base h₀ L _ _ Q E _ B F1 X T C3 .fresh N1' nd1' hd hu hE (.tail _ (.tail _ (.head _))) d1' d2 (.head _) hw hwl hwb (.zero (.cons (o := some 0) (.cons (o := some 0) (.cons (o := some 0) .nil)))) ?hk ?hK
  case hk => exact List.forall_mem_cons.mpr ⟨hwk, List.forall_mem_nil _⟩
  case hK =>
    intro o2' c2' ps3 codes3 rws wkn m2 h2 tk2 d2' S3 hrw hk2 F2 N2 nd2
    have N2' := news_perm N2 perm_l2
    have nd2' := nd2.perm perm_l2
    have o67 := nd2'.off
    have o74 := nd2'.tail.off
    refine t_means os rws wk wkn #[] #[] [] [] _ dp un gd fa ccd outer A₀ base h₀ L _ _ Q E _ B F2 X T C1 C2 .fresh .fresh N2' (fun _ h => nomatch h) (fun _ h => nomatch h) (fun _ h => nomatch h) ?o4 ?o5 hd hu hE ?m1 ?m2 hrw hwb hk2 ?hK2
    case o4 => exact fun p hp b hb => by rw [List.mem_singleton.mp hb]; exact o67 p (.tail _ hp)
    case o5 => exact fun p hp b hb => by rw [List.mem_singleton.mp hb]; exact o74 p hp
    case m1 => exact .tail _ (.tail _ (List.mem_append_right _ (.head _)))
    case m2 => exact fun p hp => .tail _ (.tail _ (List.mem_append_right _ (.tail _ (List.mem_append_left _ hp))))
    case hK2 =>
      intro mA mv ms mn ps1 ps2 codes1 codes2 m3 h3 tk3 hmv hms S1 S2 hk3 F3 N3
      have mR : ∀ p ∈ [(wD, LCg.lst wv), (L + 1 + 1 + 1, o3), (L + 1, o1')], p ∈ (mA, listOf mv.toArray mn) :: (67, tabObj ps1) :: (codes1 ++ (74, tabObj ps2) :: (codes2 ++ ((L + 1 + 1, o2') :: (107, tabObj ps3) :: (codes3 ++ (wk, listOf (rwVals rws).toArray wkn) :: (rwLed rws ++ [(wD, LCg.lst wv), (L + 1 + 1 + 1, o3), (L + 1, o1')]))))) := fun p hp =>
        .tail _ (.tail _ (List.mem_append_right _ (.tail _ (List.mem_append_right _ (.tail _ (.tail _ (List.mem_append_right _ (.tail _ (List.mem_append_right _ hp)))))))))
      have m107 : (107, tabObj ps3) ∈ (mA, listOf mv.toArray mn) :: (67, tabObj ps1) :: (codes1 ++ (74, tabObj ps2) :: (codes2 ++ ((L + 1 + 1, o2') :: (107, tabObj ps3) :: (codes3 ++ (wk, listOf (rwVals rws).toArray wkn) :: (rwLed rws ++ [(wD, LCg.lst wv), (L + 1 + 1 + 1, o3), (L + 1, o1')]))))) :=
        .tail _ (.tail _ (List.mem_append_right _ (.tail _ (List.mem_append_right _ (.tail _ (.head _))))))
      have N4 : News h₀ L h3 ((L + 1 + 1 + 1, o3) :: [(mA, listOf mv.toArray mn), (67, tabObj ps1), (74, tabObj ps2), (107, tabObj ps3), (L + 1, o1'), (wD, LCg.lst wv)]) :=
        cb_drop N3 (List.forall_mem_cons.mpr ⟨mR _ (.tail _ (.head _)), List.forall_mem_cons.mpr ⟨.head _, List.forall_mem_cons.mpr ⟨.tail _ (.head _), List.forall_mem_cons.mpr ⟨.tail _ (.tail _ (List.mem_append_right _ (.head _))), List.forall_mem_cons.mpr ⟨m107, List.forall_mem_cons.mpr ⟨mR _ (.tail _ (.tail _ (.head _))), List.forall_mem_cons.mpr ⟨mR _ (.head _), List.forall_mem_nil _⟩⟩⟩⟩⟩⟩⟩)
      have nA : mA ≠ L + 1 + 1 + 1 := ne_of_objs N4 (.tail _ (.head _)) (.head _) (fun e => by rw [← e] at d3; cases d3)
      have nD : wD ≠ L + 1 + 1 + 1 := ne_of_objs N4 (.tail _ (.tail _ (.tail _ (.tail _ (.tail _ (.tail _ (.head _))))))) (.head _) (fun e => by rw [← e] at d3; cases d3)
      have b1 : (67 : Nat) ≠ L + 1 + 1 + 1 := by have := hL.2.2; omega
      have b2 : (74 : Nat) ≠ L + 1 + 1 + 1 := by have := hL.2.1; omega
      have b3 : (107 : Nat) ≠ L + 1 + 1 + 1 := by have := hL.1; omega
      have b4 : L + 1 ≠ L + 1 + 1 + 1 := Nat.ne_of_lt (Nat.lt_trans (Nat.lt_succ_self (L + 1)) (Nat.lt_succ_self (L + 1 + 1)))
      refine t_rings os wD mA wv _ o1' o3 c3 _ dp un gd fa ccd outer A₀ base h₀ L _ _ Q E _ B F3 X T N4 ?ho hd hu hE (.tail _ (.tail _ (.tail _ (.tail _ (.head _))))) d1' (.tail _ (.tail _ (.tail _ (.tail _ (.tail _ (.head _)))))) d3 hw hwl hwb hk3 ?hK3
      case ho => exact List.forall_mem_cons.mpr ⟨nA, List.forall_mem_cons.mpr ⟨b1, List.forall_mem_cons.mpr ⟨b2, List.forall_mem_cons.mpr ⟨b3, List.forall_mem_cons.mpr ⟨b4, List.forall_mem_cons.mpr ⟨nD, List.forall_mem_nil _⟩⟩⟩⟩⟩⟩
      case hK3 =>
        intro tr o3' m4 h4 tk4 hk4 F4 N5
        refine t_end os ms mA mv mn tr _ dp un gd fa ccd outer A₀ base h₀ L _ _ Q E _ B F4 X T N5 hd hu (.tail _ (.head _)) hmv hms hwb hk4 ?hK4
        intro m5 h5 tk5 F5 N6
        exact hQ _ ps1 ps2 ps3 m5 h5 tk5 F5 N6 (.tail _ (.tail _ (.head _))) (.tail _ (.tail _ (.tail _ (.head _)))) (.tail _ (.tail _ (.tail _ (.tail _ (.head _)))))
end

end
end
end
end Mine
theorem PySem.Challenge.cw_wo0033_01_holds : PySem.Challenge.rw_wo0033_01.Holds := by
  refine Mine.hd ?_
  w_strict (k_go0; (all_goals try k_fold); (
    rename Below _ _ _ _ => B9
    rename Fr _ _ _ _ => F9
    rename Mine.hd.heap_39 _ |>.In _ => X9
    rename Top _ _ _ _ _ _ => T9
    rename News _ _ _ _ => N9
    rename IntsAre _ _ => hI9
    rename Heap.IsList _ _ _ => hl9
    rename _ < _ ∧ _ < _ ∧ _ < _ => hL9
    rename ¬ (_ < _) => hn9
    show wpAny _ (Mine.lawA _ _ _ _ _ _ _) (execs [Mine.lawS 0, Mine.lawS 1, Mine.lawS 2, Mine.lawS 3, Mine.lawS 4, Mine.lawS 5, Mine.lawS 6, Mine.lawS 7] (Mine.lawEnv _ _ _)) _ _ _
    refine' Mine.t_law _ _ _ _ _ _ _ _ _ _ _ _ _ _ _ _ _ _ _ _ _ _ _ B9 F9 X9 T9 ?C1 ?C2 ?C3 N9 hL9 ?hd ?hu ?hE ?d1 ?d2 ?d3 ?hm hl9 hI9 ?hn ?hQ
    case C1 => assumption
    case C2 => assumption
    case C3 => assumption
    case hd => decide
    case hu => decide
    case hE => exact PassesOwn.leaving
    case d1 => assumption
    case d2 => assumption
    case d3 => assumption
    case hm => rfl
    case hn => omega
    case hQ =>
      intro nw ps1 ps2 ps3 m' h' tk' F' N' m67 m74 m107
      refine ⟨?_, GrownAt.of N' m107, GrownAt.of N' m74, GrownAt.of N' m67, trivial⟩
      k_end
      wrow_close))
