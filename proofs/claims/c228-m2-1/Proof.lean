import JvmDerived
import JvmDerived.Pilot.@@N@@Statement
import JvmDerived.Pilot.@@N@@Code
set_option linter.unusedVariables false
set_option linter.unusedSimpArgs false
namespace Jvm.Pilot.@@N@@
open Jvm Jvm.ClassFile Sem Op Lib Jvm.Free Jvm.Stand Jvm.LawKit Jvm.RoadKit Bundle Jvm.Pilot.@@N@@.Jvm.D
theorem own_pd0 : parseMethodDescriptor "(J)I" = some ⟨[.long], some .int⟩ := by decide +kernel
theorem own_pd1 : parseMethodDescriptor "(JJ)I" = some ⟨[.long, .long], some .int⟩ := by decide +kernel
theorem own_pd2 : parseMethodDescriptor "([JIII)Z" = some ⟨[(.array .long), .int, .int, .int], some .boolean⟩ := by decide +kernel
theorem own_pd3 : parseMethodDescriptor "([J)[J" = some ⟨[(.array .long)], some (.array .long)⟩ := by decide +kernel
theorem own_pd4 : parseMethodDescriptor "([J)I" = some ⟨[(.array .long)], some .int⟩ := by decide +kernel
theorem own_pd5 : parseMethodDescriptor "([J[JJ)Z" = some ⟨[(.array .long), (.array .long), .long], some .boolean⟩ := by decide +kernel
theorem own_pd6 : parseMethodDescriptor "([JI)Z" = some ⟨[(.array .long), .int], some .boolean⟩ := by decide +kernel
def own_hm (v : Int64) : Int32 := ((XT.ushrL v (32 : Int32)).toInt32 &&& (7 : Int32))
def own_pr : Nat → List Int64 → Int32 → Int32
  | 0, _, s => s
  | n + 1, L, s => if L.getD s.toNatClampNeg 0 = 0 then s else own_pr n L ((s + (1 : Int32)) &&& (7 : Int32))
def own_zero : Nat → List Int64 → Int32 → Prop
  | 0, _, _ => False
  | n + 1, L, s => L.getD s.toNatClampNeg 0 = 0 ∨ own_zero n L ((s + (1 : Int32)) &&& (7 : Int32))
def own_ins (L : List Int64) (v : Int64) : List Int64 := if v = 0 then L else L.set (own_pr 8 L (own_hm v)).toNatClampNeg v
theorem own_nx : ∀ k : Nat, k < 8 → ((Int32.ofNat k + (1 : Int32)) &&& (7 : Int32)) = Int32.ofNat ((k + 1) % 8) := by decide +kernel
theorem own_cl : ∀ k : Nat, k < 8 → (Int32.ofNat k).toNatClampNeg = k := by decide +kernel
theorem own_a7 (x : Int32) : ∃ k : Nat, k < 8 ∧ (x &&& (7 : Int32)) = Int32.ofNat k := by
  have h := c_mask x (7 : Int32) 3 (by decide) (by decide)
  have h8 : (((2 ^ 3 : Nat)) : Int) = 8 := by decide
  rw [h8] at h
  refine ⟨(x.toInt % 8).toNat, by omega, ?_⟩
  apply Int32.toInt_inj.mp
  rw [h, Int32.toInt_ofNat_of_lt (by omega)]; omega
theorem own_in8 (x : Int32) : ¬ (x &&& (7 : Int32)) < 0 ∧ (x &&& (7 : Int32)) < (8 : Int32) := by
  have h := c_mask x (7 : Int32) 3 (by decide) (by decide)
  have h8 : (((2 ^ 3 : Nat)) : Int) = 8 := by decide
  rw [h8] at h
  have e0 : (0 : Int32).toInt = 0 := by decide
  have e8 : (8 : Int32).toInt = 8 := by decide
  rw [Int32.lt_iff_toInt_lt, Int32.lt_iff_toInt_lt, h, e0, e8]
  omega
theorem own_lt8 (x : Int32) : (x &&& (7 : Int32)).toNatClampNeg < 8 := by
  obtain ⟨k, hk, e⟩ := own_a7 x
  rw [e, own_cl k hk]; exact hk
/-- the probe in natural numbers: from k on, the first free place, d steps on -/
theorem own_prN (L : List Int64) : ∀ (n k : Nat), k < 8 → own_zero n L (Int32.ofNat k) →
    ∃ d, d < n ∧ own_pr n L (Int32.ofNat k) = Int32.ofNat ((k + d) % 8) ∧ L.getD ((k + d) % 8) 0 = 0 ∧ ∀ j, j < d → ¬ L.getD ((k + j) % 8) 0 = 0
  | 0, _, _, h => h.elim
  | n + 1, k, hk, h => by
    by_cases hz : L.getD k 0 = 0
    · refine ⟨0, by omega, ?_, ?_, fun j hj => absurd hj (by omega)⟩
      · show (if L.getD (Int32.ofNat k).toNatClampNeg 0 = 0 then Int32.ofNat k else _) = _
        rw [own_cl k hk, if_pos hz, Nat.add_zero, Nat.mod_eq_of_lt hk]
      · rw [Nat.add_zero, Nat.mod_eq_of_lt hk]; exact hz
    · have h' : own_zero n L (Int32.ofNat ((k + 1) % 8)) := by
        rcases h with h | h
        · rw [own_cl k hk] at h; exact absurd h hz
        · rw [own_nx k hk] at h; exact h
      obtain ⟨d, h1, h2, h3, h4⟩ := own_prN L n ((k + 1) % 8) (Nat.mod_lt _ (by decide)) h'
      have e : ∀ j, ((k + 1) % 8 + j) % 8 = (k + (j + 1)) % 8 := fun j => by omega
      refine ⟨d + 1, by omega, ?_, ?_, fun j hj => ?_⟩
      · show (if L.getD (Int32.ofNat k).toNatClampNeg 0 = 0 then Int32.ofNat k else own_pr n L ((Int32.ofNat k + (1 : Int32)) &&& (7 : Int32))) = _
        rw [own_cl k hk, if_neg hz, own_nx k hk, h2, e]
      · rw [← e]; exact h3
      · cases j with
        | zero => rw [Nat.add_zero, Nat.mod_eq_of_lt hk]; exact hz
        | succ j => rw [← e]; exact h4 j (by omega)
theorem own_zeroN (L : List Int64) : ∀ (n k d : Nat), k < 8 → d < n → L.getD ((k + d) % 8) 0 = 0 → own_zero n L (Int32.ofNat k)
  | 0, _, _, _, h, _ => absurd h (by omega)
  | n + 1, k, 0, hk, _, hz => Or.inl (by rw [own_cl k hk]; rw [Nat.add_zero, Nat.mod_eq_of_lt hk] at hz; exact hz)
  | n + 1, k, d + 1, hk, hd, hz => Or.inr (by
      rw [own_nx k hk]
      refine own_zeroN L n ((k + 1) % 8) d (Nat.mod_lt _ (by decide)) (by omega) ?_
      rw [show ((k + 1) % 8 + d) % 8 = (k + (d + 1)) % 8 from by omega]; exact hz)
def own_hN (v : Int64) : Nat := (own_hm v).toNatClampNeg
theorem own_hmN (v : Int64) : own_hN v < 8 ∧ own_hm v = Int32.ofNat (own_hN v) := by
  obtain ⟨k, hk, e⟩ := own_a7 ((XT.ushrL v (32 : Int32)).toInt32)
  have e' : own_hm v = Int32.ofNat k := e
  have e2 : own_hN v = k := by show (own_hm v).toNatClampNeg = k; rw [e', own_cl k hk]
  rw [e2]; exact ⟨hk, e'⟩
def own_Inv (L : List Int64) : Prop := L.length = 8 ∧ ∀ p, p < 8 → ¬ L.getD p 0 = 0 → ∀ j, j < (p + 8 - own_hN (L.getD p 0)) % 8 → ¬ L.getD ((own_hN (L.getD p 0) + j) % 8) 0 = 0
def own_sum (f : Int64 → Nat) (L : List Int64) : Nat := f (L.getD 0 0) + f (L.getD 1 0) + f (L.getD 2 0) + f (L.getD 3 0) + f (L.getD 4 0) + f (L.getD 5 0) + f (L.getD 6 0) + f (L.getD 7 0)
def own_one (x : Int64) : Nat := if x = 0 then 0 else 1
theorem own_setD (L : List Int64) (p q : Nat) (v : Int64) (hp : p < L.length) : (L.set p v).getD q 0 = if p = q then v else L.getD q 0 := by
  simp only [List.getD_eq_getElem?_getD, List.getElem?_set]
  by_cases h : p = q
  · subst h; simp [hp]
  · simp [h]
theorem own_sumset (f : Int64 → Nat) (hf : f 0 = 0) (L : List Int64) (p : Nat) (v : Int64) (hl : L.length = 8) (hp : p < 8) (hz : L.getD p 0 = 0) : own_sum f (L.set p v) = own_sum f L + f v := by
  have hp' : p < L.length := by omega
  have h8 : p = 0 ∨ p = 1 ∨ p = 2 ∨ p = 3 ∨ p = 4 ∨ p = 5 ∨ p = 6 ∨ p = 7 := by omega
  unfold own_sum
  simp only [own_setD L p _ v hp']
  rcases h8 with rfl | rfl | rfl | rfl | rfl | rfl | rfl | rfl <;> simp [-List.getD_eq_getElem?_getD] <;> rw [hz, hf] <;> omega
theorem own_some0 (L : List Int64) (h : own_sum own_one L < 8) (k : Nat) (hk : k < 8) : own_zero 8 L (Int32.ofNat k) := by
  by_cases h0 : ∃ d, d < 8 ∧ L.getD ((k + d) % 8) 0 = 0
  · obtain ⟨d, h1, h2⟩ := h0; exact own_zeroN L 8 k d hk h1 h2
  · exfalso
    have ha : ∀ q, q < 8 → own_one (L.getD q 0) = 1 := fun q hq => by
      unfold own_one
      rw [if_neg]
      intro hz
      refine h0 ⟨(q + 8 - k) % 8, Nat.mod_lt _ (by decide), ?_⟩
      rw [show (k + (q + 8 - k) % 8) % 8 = q from by omega]; exact hz
    unfold own_sum at h
    rw [ha 0 (by decide), ha 1 (by decide), ha 2 (by decide), ha 3 (by decide), ha 4 (by decide), ha 5 (by decide), ha 6 (by decide), ha 7 (by decide)] at h
    omega
theorem own_step (L : List Int64) (v : Int64) (hI : own_Inv L) (hs : own_sum own_one L < 8) : own_Inv (own_ins L v) ∧ (∀ f : Int64 → Nat, f 0 = 0 → own_sum f (own_ins L v) = own_sum f L + f v) ∧ own_zero 8 L (own_hm v) := by
  obtain ⟨hl, hi⟩ := hI
  obtain ⟨g1, g2⟩ := own_hmN v
  have hz := own_some0 L hs (own_hN v) g1
  rw [← g2] at hz
  refine ⟨?_, ?_, hz⟩
  · unfold own_ins
    by_cases hv : v = 0
    · rw [if_pos hv]; exact ⟨hl, hi⟩
    · rw [if_neg hv]
      rw [g2] at hz ⊢
      obtain ⟨d, h1, h2, h3, h4⟩ := own_prN L 8 (own_hN v) g1 hz
      have hq : (own_hN v + d) % 8 < 8 := Nat.mod_lt _ (by decide)
      rw [h2, own_cl _ hq]
      refine ⟨by rw [List.length_set]; exact hl, fun p hp hn j hj => ?_⟩
      have hq' : (own_hN v + d) % 8 < L.length := by omega
      rw [own_setD L _ p v hq'] at hn hj ⊢
      rw [own_setD L _ _ v hq']
      by_cases e : (own_hN v + d) % 8 = p
      · rw [if_pos e] at hj ⊢
        by_cases e2 : (own_hN v + d) % 8 = (own_hN v + j) % 8
        · rw [if_pos e2]; exact hv
        · rw [if_neg e2]; exact h4 j (by omega)
      · rw [if_neg e] at hn hj ⊢
        by_cases e2 : (own_hN v + d) % 8 = (own_hN (L.getD p 0) + j) % 8
        · rw [if_pos e2]; exact hv
        · rw [if_neg e2]; exact hi p hp hn j hj
  · intro f hf
    unfold own_ins
    by_cases hv : v = 0
    · rw [if_pos hv, hv, hf, Nat.add_zero]
    · rw [if_neg hv]
      rw [g2] at hz ⊢
      obtain ⟨d, h1, h2, h3, h4⟩ := own_prN L 8 (own_hN v) g1 hz
      have hq : (own_hN v + d) % 8 < 8 := Nat.mod_lt _ (by decide)
      rw [h2, own_cl _ hq]
      exact own_sumset f hf L _ v hl hq h3
def own_nil : List Int64 := [0, 0, 0, 0, 0, 0, 0, 0]
def own_L1 (v0 : Int64) : List Int64 := own_ins own_nil v0
def own_L2 (v0 v1 : Int64) : List Int64 := own_ins (own_L1 v0) v1
def own_L3 (v0 v1 v2 : Int64) : List Int64 := own_ins (own_L2 v0 v1) v2
def own_L4 (v0 v1 v2 v3 : Int64) : List Int64 := own_ins (own_L3 v0 v1 v2) v3
theorem own_one_le (x : Int64) : own_one x ≤ 1 := by unfold own_one; split <;> omega
theorem own_nilI : own_Inv own_nil := ⟨rfl, fun p hp hn => by
  exfalso; apply hn
  have h8 : p = 0 ∨ p = 1 ∨ p = 2 ∨ p = 3 ∨ p = 4 ∨ p = 5 ∨ p = 6 ∨ p = 7 := by omega
  rcases h8 with rfl | rfl | rfl | rfl | rfl | rfl | rfl | rfl <;> rfl⟩
theorem own_nilS (f : Int64 → Nat) (hf : f 0 = 0) : own_sum f own_nil = 0 := by
  show f 0 + f 0 + f 0 + f 0 + f 0 + f 0 + f 0 + f 0 = 0
  rw [hf]
theorem own_law (v0 v1 v2 v3 : Int64) : own_Inv (own_L4 v0 v1 v2 v3) ∧ (∀ f : Int64 → Nat, f 0 = 0 → own_sum f (own_L4 v0 v1 v2 v3) = f v0 + f v1 + f v2 + f v3) ∧
    (own_zero 8 own_nil (own_hm v0) ∧ own_zero 8 (own_L1 v0) (own_hm v1) ∧ own_zero 8 (own_L2 v0 v1) (own_hm v2) ∧ own_zero 8 (own_L3 v0 v1 v2) (own_hm v3)) ∧ ((own_L1 v0).length = 8 ∧ (own_L2 v0 v1).length = 8 ∧ (own_L3 v0 v1 v2).length = 8) := by
  have hone : own_one 0 = 0 := by unfold own_one; rw [if_pos rfl]
  have n0 := own_nilS own_one hone
  have a0 := own_one_le v0
  have a1 := own_one_le v1
  have a2 := own_one_le v2
  obtain ⟨i1, s1, z1⟩ := own_step own_nil v0 own_nilI (by omega)
  have m1 := s1 own_one hone
  obtain ⟨i2, s2, z2⟩ := own_step (own_L1 v0) v1 i1 (by show own_sum own_one (own_ins own_nil v0) < 8; omega)
  have m2 := s2 own_one hone
  have m1' : own_sum own_one (own_L1 v0) = own_sum own_one own_nil + own_one v0 := m1
  obtain ⟨i3, s3, z3⟩ := own_step (own_L2 v0 v1) v2 i2 (by show own_sum own_one (own_ins (own_L1 v0) v1) < 8; omega)
  have m3 := s3 own_one hone
  have m2' : own_sum own_one (own_L2 v0 v1) = own_sum own_one (own_L1 v0) + own_one v1 := m2
  obtain ⟨i4, s4, z4⟩ := own_step (own_L3 v0 v1 v2) v3 i3 (by show own_sum own_one (own_ins (own_L2 v0 v1) v2) < 8; omega)
  refine ⟨i4, fun f hf => ?_, ⟨z1, z2, z3, z4⟩, i1.1, i2.1, i3.1⟩
  have t4 : own_sum f (own_L4 v0 v1 v2 v3) = own_sum f (own_L3 v0 v1 v2) + f v3 := s4 f hf
  have t3 : own_sum f (own_L3 v0 v1 v2) = own_sum f (own_L2 v0 v1) + f v2 := s3 f hf
  have t2 : own_sum f (own_L2 v0 v1) = own_sum f (own_L1 v0) + f v1 := s2 f hf
  have t1 : own_sum f (own_L1 v0) = own_sum f own_nil + f v0 := s1 f hf
  have t0 := own_nilS f hf
  omega

theorem own_mg (L : List Int64) (j : Nat) : (L.map Value.long).getD j (.long (0 : Int64)) = .long (L.getD j 0) := by
  simp only [List.getD_eq_getElem?_getD, List.getElem?_map]
  cases L[j]? <;> rfl
theorem own_prIn (L : List Int64) (v : Int64) (h : own_zero 8 L (own_hm v)) : (¬ (own_pr 8 L (own_hm v)) < 0 ∧ (own_pr 8 L (own_hm v)) < (8 : Int32)) ∧ (own_pr 8 L (own_hm v)).toNatClampNeg < 8 := by
  obtain ⟨g1, g2⟩ := own_hmN v
  rw [g2] at h ⊢
  obtain ⟨d, -, h2, -, -⟩ := own_prN L 8 (own_hN v) g1 h
  have hq : (own_hN v + d) % 8 < 8 := Nat.mod_lt _ (by decide)
  rw [h2, own_cl _ hq]
  refine ⟨?_, hq⟩
  have key : ∀ q : Nat, q < 8 → ¬ Int32.ofNat q < 0 ∧ Int32.ofNat q < (8 : Int32) := by decide +kernel
  exact key _ hq
def own_nz (v : Int64) : Int32 := if v = 0 then (0 : Int32) else (1 : Int32)
def own_eqv (x v : Int64) : Int32 := if x = v then (1 : Int32) else (0 : Int32)
theorem own_cnt (g : Int64 → Int32) (f : Int64 → Nat) (hg : ∀ x, g x = Int32.ofNat (f x)) (v0 v1 v2 v3 x0 x1 x2 x3 x4 x5 x6 x7 : Int64) (hs : f x0 + f x1 + f x2 + f x3 + f x4 + f x5 + f x6 + f x7 = f v0 + f v1 + f v2 + f v3) :
    g v0 + g v1 + g v2 + g v3 = g x0 + g x1 + g x2 + g x3 + g x4 + g x5 + g x6 + g x7 := by
  simp only [hg, ← Int32.ofNat_add, hs]
theorem own_eight (L : List Int64) (h : L.length = 8) : ∃ x0 x1 x2 x3 x4 x5 x6 x7 : Int64, L = [x0, x1, x2, x3, x4, x5, x6, x7] := by
  match L, h with
  | [x0, x1, x2, x3, x4, x5, x6, x7], _ => exact ⟨x0, x1, x2, x3, x4, x5, x6, x7, rfl⟩
theorem own_nzs (v0 v1 v2 v3 x0 x1 x2 x3 x4 x5 x6 x7 : Int64) (hS : ∀ f : Int64 → Nat, f 0 = 0 → own_sum f [x0, x1, x2, x3, x4, x5, x6, x7] = f v0 + f v1 + f v2 + f v3) :
    own_nz v0 + own_nz v1 + own_nz v2 + own_nz v3 = own_nz x0 + own_nz x1 + own_nz x2 + own_nz x3 + own_nz x4 + own_nz x5 + own_nz x6 + own_nz x7 := by
  refine own_cnt own_nz own_one (fun x => ?_) v0 v1 v2 v3 x0 x1 x2 x3 x4 x5 x6 x7 (hS own_one (by unfold own_one; rw [if_pos rfl]))
  unfold own_nz own_one
  by_cases h : x = 0
  · rw [if_pos h, if_pos h]; rfl
  · rw [if_neg h, if_neg h]; rfl
theorem own_eqs (w v0 v1 v2 v3 x0 x1 x2 x3 x4 x5 x6 x7 : Int64) (hS : ∀ f : Int64 → Nat, f 0 = 0 → own_sum f [x0, x1, x2, x3, x4, x5, x6, x7] = f v0 + f v1 + f v2 + f v3) (hw : ¬ w = 0) :
    own_eqv v0 w + own_eqv v1 w + own_eqv v2 w + own_eqv v3 w = own_eqv x0 w + own_eqv x1 w + own_eqv x2 w + own_eqv x3 w + own_eqv x4 w + own_eqv x5 w + own_eqv x6 w + own_eqv x7 w := by
  refine own_cnt (fun x => own_eqv x w) (fun x => if x = w then 1 else 0) (fun x => ?_) v0 v1 v2 v3 x0 x1 x2 x3 x4 x5 x6 x7 (hS (fun x => if x = w then 1 else 0) (by show (if (0 : Int64) = w then 1 else 0) = 0; rw [if_neg (fun e => hw e.symm)]))
  show own_eqv x w = Int32.ofNat (if x = w then 1 else 0)
  unfold own_eqv
  by_cases h : x = w
  · rw [if_pos h, if_pos h]; rfl
  · rw [if_neg h, if_neg h]; rfl
theorem own_dist : ∀ p h k : Nat, p < 8 → h < 8 → k < 8 → Int32.ofNat k < ((Int32.ofNat p - Int32.ofNat h) &&& (7 : Int32)) → k < (p + 8 - h) % 8 := by
  have key : ∀ p : Nat, p < 8 → ∀ h : Nat, h < 8 → ∀ k : Nat, k < 8 → Int32.ofNat k < ((Int32.ofNat p - Int32.ofNat h) &&& (7 : Int32)) → k < (p + 8 - h) % 8 := by decide +kernel
  intro p h k hp hh hk; exact key p hp h hh k hk
theorem own_plus : ∀ h k : Nat, h < 8 → k < 8 → ((Int32.ofNat h + Int32.ofNat k) &&& (7 : Int32)) = Int32.ofNat ((h + k) % 8) := by
  have key : ∀ h : Nat, h < 8 → ∀ k : Nat, k < 8 → ((Int32.ofNat h + Int32.ofNat k) &&& (7 : Int32)) = Int32.ofNat ((h + k) % 8) := by decide +kernel
  intro h k hh hk; exact key h hh k hk
theorem own_reach (L : List Int64) (hI : own_Inv L) (p k : Nat) (hp : p < 8) (hk : k < 8) (x : Int64) (hx : L.getD p 0 = x) (hn : ¬ x = 0) (hlt : Int32.ofNat k < ((Int32.ofNat p - own_hm x) &&& (7 : Int32))) :
    ¬ L.getD (((own_hm x + Int32.ofNat k) &&& (7 : Int32))).toNatClampNeg 0 = 0 := by
  obtain ⟨g1, g2⟩ := own_hmN x
  rw [g2] at hlt ⊢
  rw [own_plus _ k g1 hk, own_cl _ (Nat.mod_lt _ (by decide))]
  have hd := own_dist p _ k hp g1 hk hlt
  have := hI.2 p hp (by rw [hx]; exact hn) k (by rw [hx]; exact hd)
  rw [hx] at this; exact this

theorem own_d1_0 : decode prog_76_method_16_code 0 = .ok (.iconst 2, 1) := by decide +kernel
theorem own_d1_1 : decode prog_76_method_16_code 1 = .ok (.aload_n 0, 1) := by decide +kernel
theorem own_d1_2 : decode prog_76_method_16_code 2 = .ok (.arraylength, 1) := by decide +kernel
theorem own_d1_3 : decode prog_76_method_16_code 3 = .ok (.imul, 1) := by decide +kernel
theorem own_d1_4 : decode prog_76_method_16_code 4 = .ok (.newarray .long, 2) := by decide +kernel
theorem own_d1_6 : decode prog_76_method_16_code 6 = .ok (.astore_n 1, 1) := by decide +kernel
theorem own_d1_7 : decode prog_76_method_16_code 7 = .ok (.aload_n 1, 1) := by decide +kernel
theorem own_d1_8 : decode prog_76_method_16_code 8 = .ok (.arraylength, 1) := by decide +kernel
theorem own_d1_9 : decode prog_76_method_16_code 9 = .ok (.iconst 1, 1) := by decide +kernel
theorem own_d1_10 : decode prog_76_method_16_code 10 = .ok (.isub, 1) := by decide +kernel
theorem own_d1_11 : decode prog_76_method_16_code 11 = .ok (.istore_n 2, 1) := by decide +kernel
theorem own_d1_12 : decode prog_76_method_16_code 12 = .ok (.aload_n 0, 1) := by decide +kernel
theorem own_d1_13 : decode prog_76_method_16_code 13 = .ok (.astore_n 3, 1) := by decide +kernel
theorem own_d1_14 : decode prog_76_method_16_code 14 = .ok (.aload_n 3, 1) := by decide +kernel
theorem own_d1_15 : decode prog_76_method_16_code 15 = .ok (.arraylength, 1) := by decide +kernel
theorem own_d1_16 : decode prog_76_method_16_code 16 = .ok (.istore 4, 2) := by decide +kernel
theorem own_d1_18 : decode prog_76_method_16_code 18 = .ok (.iconst 0, 1) := by decide +kernel
theorem own_d1_19 : decode prog_76_method_16_code 19 = .ok (.istore 5, 2) := by decide +kernel
theorem own_d1_21 : decode prog_76_method_16_code 21 = .ok (.iload 5, 2) := by decide +kernel
theorem own_d1_23 : decode prog_76_method_16_code 23 = .ok (.iload 4, 2) := by decide +kernel
theorem own_d1_25 : decode prog_76_method_16_code 25 = .ok (.if_icmp .ge 58, 3) := by decide +kernel
theorem own_d1_28 : decode prog_76_method_16_code 28 = .ok (.aload_n 3, 1) := by decide +kernel
theorem own_d1_29 : decode prog_76_method_16_code 29 = .ok (.iload 5, 2) := by decide +kernel
theorem own_d1_31 : decode prog_76_method_16_code 31 = .ok (.laload, 1) := by decide +kernel
theorem own_d1_32 : decode prog_76_method_16_code 32 = .ok (.lstore 6, 2) := by decide +kernel
theorem own_d1_34 : decode prog_76_method_16_code 34 = .ok (.lload 6, 2) := by decide +kernel
theorem own_d1_36 : decode prog_76_method_16_code 36 = .ok (.lconst 0, 1) := by decide +kernel
theorem own_d1_37 : decode prog_76_method_16_code 37 = .ok (.lcmp, 1) := by decide +kernel
theorem own_d1_38 : decode prog_76_method_16_code 38 = .ok (.ifCond .eq 39, 3) := by decide +kernel
theorem own_d1_41 : decode prog_76_method_16_code 41 = .ok (.lload 6, 2) := by decide +kernel
theorem own_d1_43 : decode prog_76_method_16_code 43 = .ok (.bipush 32, 2) := by decide +kernel
theorem own_d1_45 : decode prog_76_method_16_code 45 = .ok (.lushr, 1) := by decide +kernel
theorem own_d1_46 : decode prog_76_method_16_code 46 = .ok (.l2i, 1) := by decide +kernel
theorem own_d1_47 : decode prog_76_method_16_code 47 = .ok (.iload_n 2, 1) := by decide +kernel
theorem own_d1_48 : decode prog_76_method_16_code 48 = .ok (.iand, 1) := by decide +kernel
theorem own_d1_49 : decode prog_76_method_16_code 49 = .ok (.istore 8, 2) := by decide +kernel
theorem own_d1_51 : decode prog_76_method_16_code 51 = .ok (.aload_n 1, 1) := by decide +kernel
theorem own_d1_52 : decode prog_76_method_16_code 52 = .ok (.iload 8, 2) := by decide +kernel
theorem own_d1_54 : decode prog_76_method_16_code 54 = .ok (.laload, 1) := by decide +kernel
theorem own_d1_55 : decode prog_76_method_16_code 55 = .ok (.lconst 0, 1) := by decide +kernel
theorem own_d1_56 : decode prog_76_method_16_code 56 = .ok (.lcmp, 1) := by decide +kernel
theorem own_d1_57 : decode prog_76_method_16_code 57 = .ok (.ifCond .eq 14, 3) := by decide +kernel
theorem own_d1_60 : decode prog_76_method_16_code 60 = .ok (.iload 8, 2) := by decide +kernel
theorem own_d1_62 : decode prog_76_method_16_code 62 = .ok (.iconst 1, 1) := by decide +kernel
theorem own_d1_63 : decode prog_76_method_16_code 63 = .ok (.iadd, 1) := by decide +kernel
theorem own_d1_64 : decode prog_76_method_16_code 64 = .ok (.iload_n 2, 1) := by decide +kernel
theorem own_d1_65 : decode prog_76_method_16_code 65 = .ok (.iand, 1) := by decide +kernel
theorem own_d1_66 : decode prog_76_method_16_code 66 = .ok (.istore 8, 2) := by decide +kernel
theorem own_d1_68 : decode prog_76_method_16_code 68 = .ok (.goto (-17), 3) := by decide +kernel
theorem own_d1_71 : decode prog_76_method_16_code 71 = .ok (.aload_n 1, 1) := by decide +kernel
theorem own_d1_72 : decode prog_76_method_16_code 72 = .ok (.iload 8, 2) := by decide +kernel
theorem own_d1_74 : decode prog_76_method_16_code 74 = .ok (.lload 6, 2) := by decide +kernel
theorem own_d1_76 : decode prog_76_method_16_code 76 = .ok (.lastore, 1) := by decide +kernel
theorem own_d1_77 : decode prog_76_method_16_code 77 = .ok (.iinc 5 1, 3) := by decide +kernel
theorem own_d1_80 : decode prog_76_method_16_code 80 = .ok (.goto (-59), 3) := by decide +kernel
theorem own_d1_83 : decode prog_76_method_16_code 83 = .ok (.aload_n 1, 1) := by decide +kernel
theorem own_d1_84 : decode prog_76_method_16_code 84 = .ok (.areturn, 1) := by decide +kernel
theorem own_pn1 : plainName "com/example/tracegauge/tracegauge/MarkingSet" = true := by first | (simp [plainName, overriddenIn]; done) | decide +kernel
set_option maxRecDepth 65536 in
set_option maxHeartbeats 40000000 in
theorem own_probe {p : Program} {l : Launch} {e : Env} {R : Room} {s : State} {m : MethodId} {args : Array Value} {below : List Frame} {meth : Method} {c : Code} {T0 : State} {locs : List Loc} {cells slots : Nat} {Z : State} {a0 : Array Value} {h0 : Heap} (a1 o1 : Addr) (ka kd : ClassId) (v0 v1 v2 v3 : Int64) (LL : List Int64) (i1 : Int32) (vv : Int64) (X0 : Stand p l e R s m args below meth c T0 locs cells slots) (hx : p.tables.exec = Jvm.exec) (hZ : Z.Warmed39 s.vm) (hw : ∀ d ∈ tables_1, d.before a0 Z = true) (hby : c.code = prog_76_method_16_code) (hml : c.maxLocals = 9) (hown : s.vm.findClass "com/example/tracegauge/tracegauge/MarkingSet" = some m.cls) (e0 : T0.heap = h0) (P_V_o1 : Arv Z h0 o1 kd .long (8 : Int32) (LL.map Value.long) (.long (0 : Int64))) : ∀ (n : Nat) (s1 : Int32), (¬ s1 < 0 ∧ s1 < (8 : Int32)) → own_zero n LL s1 → ∀ t, Steps p.tables e below (T0.setTop (mkF m 71 #[.val (.ref a1), .val (.ref o1), .val (.int (7 : Int32)), .val (.ref a1), .val (.int (4 : Int32)), .val (.int i1), .val (.long vv), .second, .val (.int (own_pr n LL s1))] [])) t → Steps p.tables e below (T0.setTop (mkF m 51 #[.val (.ref a1), .val (.ref o1), .val (.int (7 : Int32)), .val (.ref a1), .val (.int (4 : Int32)), .val (.int i1), .val (.long vv), .second, .val (.int s1)] [])) t := by
  intro n
  induction n with
  | zero => intro s1 _ h; exact h.elim
  | succ n ih =>
    intro s1 hs h t k
    obtain ⟨cl, Ar, Q, Sz, Nn, Ha, Gf⟩ := P_V_o1
    have hin : ¬ (s1 < 0 ∨ cl.slots.size ≤ s1.toNatClampNeg) := inb_of Sz hs
    have hat : cl.slots[s1.toNatClampNeg]? = some (.long (LL.getD s1.toNatClampNeg 0)) := Ha.at hin (own_mg LL _)
    by_cases hz : LL.getD s1.toNatClampNeg 0 = 0
    · have e1 : own_pr (n + 1) LL s1 = s1 := if_pos hz
      rw [e1] at k
      show Steps p.tables e below (T0.setTop (mkF m 51 #[.val (.ref a1), .val (.ref o1), .val (.int (7 : Int32)), .val (.ref a1), .val (.int (4 : Int32)), .val (.int i1), .val (.long vv), .second, .val (.int s1)] [])) _
      refine XS.aloadN X0.here hx rfl (hb hby own_d1_51) rfl rfl ?_
      show Steps p.tables e below (T0.setTop (mkF m 52 #[.val (.ref a1), .val (.ref o1), .val (.int (7 : Int32)), .val (.ref a1), .val (.int (4 : Int32)), .val (.int i1), .val (.long vv), .second, .val (.int s1)] [(.ref o1)])) _
      refine XS.iload X0.here hx rfl (hb hby own_d1_52) rfl ?_
      show Steps p.tables e below (T0.setTop (mkF m 54 #[.val (.ref a1), .val (.ref o1), .val (.int (7 : Int32)), .val (.ref a1), .val (.int (4 : Int32)), .val (.int i1), .val (.long vv), .second, .val (.int s1)] [(.int s1), (.ref o1)])) _
      refine X0.laload hx (j := s1) (v := (.long (LL.getD s1.toNatClampNeg 0))) (by rw [e0]; exact Ar.1) (State.isArrayOf_alike hZ.alike Ar.2.1) Ar.2.2 hin hat (g := (mkF m 54 #[.val (.ref a1), .val (.ref o1), .val (.int (7 : Int32)), .val (.ref a1), .val (.int (4 : Int32)), .val (.int i1), .val (.long vv), .second, .val (.int s1)] [(.int s1), (.ref o1)])) rfl rfl (hb hby own_d1_54) _ ?_
      show Steps p.tables e below (T0.setTop (mkF m 55 #[.val (.ref a1), .val (.ref o1), .val (.int (7 : Int32)), .val (.ref a1), .val (.int (4 : Int32)), .val (.int i1), .val (.long vv), .second, .val (.int s1)] [(.long (LL.getD s1.toNatClampNeg 0))])) _
      refine XT.lconstV X0.here hx rfl (0 : Int64) (hb hby own_d1_55) rfl ?_
      show Steps p.tables e below (T0.setTop (mkF m 56 #[.val (.ref a1), .val (.ref o1), .val (.int (7 : Int32)), .val (.ref a1), .val (.int (4 : Int32)), .val (.int i1), .val (.long vv), .second, .val (.int s1)] [(.long (0 : Int64)), (.long (LL.getD s1.toNatClampNeg 0))])) _
      refine XT.lcmp X0.here hx rfl (hb hby own_d1_56) rfl ?_
      show Steps p.tables e below (T0.setTop (mkF m 57 #[.val (.ref a1), .val (.ref o1), .val (.int (7 : Int32)), .val (.ref a1), .val (.int (4 : Int32)), .val (.int i1), .val (.long vv), .second, .val (.int s1)] [(.int (XT.cmpL (LL.getD s1.toNatClampNeg 0) (0 : Int64)))])) _
      refine XS.ifYes X0.here hx rfl (pc0 := 57) (pc' := 71) rfl (hb hby own_d1_57) rfl (XT.ll_eq_t hz) (by decide) (by decide) ?_
      exact k
    · have e1 : own_pr (n + 1) LL s1 = own_pr n LL ((s1 + (1 : Int32)) &&& (7 : Int32)) := if_neg hz
      rw [e1] at k
      show Steps p.tables e below (T0.setTop (mkF m 51 #[.val (.ref a1), .val (.ref o1), .val (.int (7 : Int32)), .val (.ref a1), .val (.int (4 : Int32)), .val (.int i1), .val (.long vv), .second, .val (.int s1)] [])) _
      refine XS.aloadN X0.here hx rfl (hb hby own_d1_51) rfl rfl ?_
      show Steps p.tables e below (T0.setTop (mkF m 52 #[.val (.ref a1), .val (.ref o1), .val (.int (7 : Int32)), .val (.ref a1), .val (.int (4 : Int32)), .val (.int i1), .val (.long vv), .second, .val (.int s1)] [(.ref o1)])) _
      refine XS.iload X0.here hx rfl (hb hby own_d1_52) rfl ?_
      show Steps p.tables e below (T0.setTop (mkF m 54 #[.val (.ref a1), .val (.ref o1), .val (.int (7 : Int32)), .val (.ref a1), .val (.int (4 : Int32)), .val (.int i1), .val (.long vv), .second, .val (.int s1)] [(.int s1), (.ref o1)])) _
      refine X0.laload hx (j := s1) (v := (.long (LL.getD s1.toNatClampNeg 0))) (by rw [e0]; exact Ar.1) (State.isArrayOf_alike hZ.alike Ar.2.1) Ar.2.2 hin hat (g := (mkF m 54 #[.val (.ref a1), .val (.ref o1), .val (.int (7 : Int32)), .val (.ref a1), .val (.int (4 : Int32)), .val (.int i1), .val (.long vv), .second, .val (.int s1)] [(.int s1), (.ref o1)])) rfl rfl (hb hby own_d1_54) _ ?_
      show Steps p.tables e below (T0.setTop (mkF m 55 #[.val (.ref a1), .val (.ref o1), .val (.int (7 : Int32)), .val (.ref a1), .val (.int (4 : Int32)), .val (.int i1), .val (.long vv), .second, .val (.int s1)] [(.long (LL.getD s1.toNatClampNeg 0))])) _
      refine XT.lconstV X0.here hx rfl (0 : Int64) (hb hby own_d1_55) rfl ?_
      show Steps p.tables e below (T0.setTop (mkF m 56 #[.val (.ref a1), .val (.ref o1), .val (.int (7 : Int32)), .val (.ref a1), .val (.int (4 : Int32)), .val (.int i1), .val (.long vv), .second, .val (.int s1)] [(.long (0 : Int64)), (.long (LL.getD s1.toNatClampNeg 0))])) _
      refine XT.lcmp X0.here hx rfl (hb hby own_d1_56) rfl ?_
      show Steps p.tables e below (T0.setTop (mkF m 57 #[.val (.ref a1), .val (.ref o1), .val (.int (7 : Int32)), .val (.ref a1), .val (.int (4 : Int32)), .val (.int i1), .val (.long vv), .second, .val (.int s1)] [(.int (XT.cmpL (LL.getD s1.toNatClampNeg 0) (0 : Int64)))])) _
      refine XS.ifNo X0.here hx rfl (hb hby own_d1_57) rfl (XT.ll_eq_f hz) ?_
      show Steps p.tables e below (T0.setTop (mkF m 60 #[.val (.ref a1), .val (.ref o1), .val (.int (7 : Int32)), .val (.ref a1), .val (.int (4 : Int32)), .val (.int i1), .val (.long vv), .second, .val (.int s1)] [])) _
      refine XS.iload X0.here hx rfl (hb hby own_d1_60) rfl ?_
      show Steps p.tables e below (T0.setTop (mkF m 62 #[.val (.ref a1), .val (.ref o1), .val (.int (7 : Int32)), .val (.ref a1), .val (.int (4 : Int32)), .val (.int i1), .val (.long vv), .second, .val (.int s1)] [(.int s1)])) _
      refine XT.iconstV X0.here hx rfl (1 : Int32) (hb hby own_d1_62) rfl ?_
      show Steps p.tables e below (T0.setTop (mkF m 63 #[.val (.ref a1), .val (.ref o1), .val (.int (7 : Int32)), .val (.ref a1), .val (.int (4 : Int32)), .val (.int i1), .val (.long vv), .second, .val (.int s1)] [(.int (1 : Int32)), (.int s1)])) _
      refine XS.iadd X0.here hx rfl (hb hby own_d1_63) rfl ?_
      show Steps p.tables e below (T0.setTop (mkF m 64 #[.val (.ref a1), .val (.ref o1), .val (.int (7 : Int32)), .val (.ref a1), .val (.int (4 : Int32)), .val (.int i1), .val (.long vv), .second, .val (.int s1)] [(.int (s1 + (1 : Int32)))])) _
      refine XS.iloadN X0.here hx rfl (hb hby own_d1_64) rfl ?_
      show Steps p.tables e below (T0.setTop (mkF m 65 #[.val (.ref a1), .val (.ref o1), .val (.int (7 : Int32)), .val (.ref a1), .val (.int (4 : Int32)), .val (.int i1), .val (.long vv), .second, .val (.int s1)] [(.int (7 : Int32)), (.int (s1 + (1 : Int32)))])) _
      refine XS.iand X0.here hx rfl (hb hby own_d1_65) rfl ?_
      show Steps p.tables e below (T0.setTop (mkF m 66 #[.val (.ref a1), .val (.ref o1), .val (.int (7 : Int32)), .val (.ref a1), .val (.int (4 : Int32)), .val (.int i1), .val (.long vv), .second, .val (.int s1)] [(.int ((s1 + (1 : Int32)) &&& (7 : Int32)))])) _
      refine XS.istore X0.here hx rfl (hb hby own_d1_66) rfl (l' := #[.val (.ref a1), .val (.ref o1), .val (.int (7 : Int32)), .val (.ref a1), .val (.int (4 : Int32)), .val (.int i1), .val (.long vv), .second, .val (.int ((s1 + (1 : Int32)) &&& (7 : Int32)))]) rfl ?_
      show Steps p.tables e below (T0.setTop (mkF m 68 #[.val (.ref a1), .val (.ref o1), .val (.int (7 : Int32)), .val (.ref a1), .val (.int (4 : Int32)), .val (.int i1), .val (.long vv), .second, .val (.int ((s1 + (1 : Int32)) &&& (7 : Int32)))] [])) _
      refine XS.goto X0.here hx rfl (pc0 := 68) (pc' := 51) rfl (hb hby own_d1_68) (by decide) (by decide) ?_
      exact ih _ (own_in8 _) (h.resolve_left hz) t k
theorem own_os {a1 o1 : Addr} {i1 : Int32} {vv : Int64} {s8 : Slot} {x : Int32} (h : One s8) : storeLocals #[.val (.ref a1), .val (.ref o1), .val (.int (7 : Int32)), .val (.ref a1), .val (.int (4 : Int32)), .val (.int i1), .val (.long vv), .second, s8] 8 (.int x) = some #[.val (.ref a1), .val (.ref o1), .val (.int (7 : Int32)), .val (.ref a1), .val (.int (4 : Int32)), .val (.int i1), .val (.long vv), .second, .val (.int x)] := by
  rcases h with rfl | ⟨w, rfl, hw⟩
  · rfl
  · cases w <;> first | rfl | (simp [Value.category] at hw)
set_option maxRecDepth 65536 in
set_option maxHeartbeats 40000000 in
theorem own_turnA {p : Program} {l : Launch} {e : Env} {R : Room} {s : State} {m : MethodId} {args : Array Value} {below : List Frame} {meth : Method} {c : Code} {T0 : State} {locs : List Loc} {cells slots : Nat} {Z : State} {a0 : Array Value} {h0 : Heap} (a1 o1 : Addr) (ka kd : ClassId) (v0 v1 v2 v3 : Int64) (LL : List Int64) (i1 : Int32) (vv : Int64) (s8 : Slot) (n0 : Nat)  (X0 : Stand p l e R s m args below meth c T0 locs cells slots) (hx : p.tables.exec = Jvm.exec) (hZ : Z.Warmed39 s.vm) (hw : ∀ d ∈ tables_1, d.before a0 Z = true) (hby : c.code = prog_76_method_16_code) (hml : c.maxLocals = 9) (hown : s.vm.findClass "com/example/tracegauge/tracegauge/MarkingSet" = some m.cls) (e0 : T0.heap = h0) (P_V_a1 : Arv Z h0 a1 ka .long (4 : Int32) [(.long v0), (.long v1), (.long v2), (.long v3)] (.long (0 : Int64))) (P_V_o1 : Arv Z h0 o1 kd .long (8 : Int32) (LL.map Value.long) (.long (0 : Int64))) (hlen : LL.length = 8) (hi : ¬ i1 < 0 ∧ i1 < (4 : Int32)) (hat : ([(.long v0), (.long v1), (.long v2), (.long v3)] : List Value).getD (i1).toNatClampNeg (.long (0 : Int64)) = .long vv) (hz : own_zero 8 LL (own_hm vv)) (hne : a1 ≠ o1) (ho : One s8) (g_o1 : n0 ≤ o1) (N0 : Fr n0 locs) :
    ∃ (T' : State) (h' : Heap) (lo' : List Loc) (s8' : Slot), Stand p l e R s m args below meth c T' lo' cells slots ∧ T'.heap = h' ∧ One s8' ∧ Keep h0 h' [o1] ∧ Arv Z h' o1 kd .long (8 : Int32) ((own_ins LL vv).map Value.long) (.long (0 : Int64)) ∧ Fr n0 lo' ∧ ∀ t, Steps p.tables e below (T'.setTop (mkF m 21 #[.val (.ref a1), .val (.ref o1), .val (.int (7 : Int32)), .val (.ref a1), .val (.int (4 : Int32)), .val (.int (i1 + (1 : Int32))), .val (.long vv), .second, s8'] [])) t → Steps p.tables e below (T0.setTop (mkF m 21 #[.val (.ref a1), .val (.ref o1), .val (.int (7 : Int32)), .val (.ref a1), .val (.int (4 : Int32)), .val (.int i1), .unset, .unset, s8] [])) t := by
  have pre0 : ∀ t, Steps p.tables e below (T0.setTop (mkF m 21 #[.val (.ref a1), .val (.ref o1), .val (.int (7 : Int32)), .val (.ref a1), .val (.int (4 : Int32)), .val (.int i1), .unset, .unset, s8] [])) t → Steps p.tables e below (T0.setTop (mkF m 21 #[.val (.ref a1), .val (.ref o1), .val (.int (7 : Int32)), .val (.ref a1), .val (.int (4 : Int32)), .val (.int i1), .unset, .unset, s8] [])) t := fun t k => k
  obtain ⟨cl1, Ar1, Q1, Sz1, Nn1, Ha1, Gf1⟩ := id P_V_a1
  have ghin1 : ¬ (i1 < 0 ∨ cl1.slots.size ≤ (i1).toNatClampNeg) := inb_of Sz1 hi
  have ghat1 : cl1.slots[(i1).toNatClampNeg]? = some (.long vv) := Ha1.at ghin1 hat
  have pre2 : ∀ t, Steps p.tables e below (T0.setTop (mkF m 38 #[.val (.ref a1), .val (.ref o1), .val (.int (7 : Int32)), .val (.ref a1), .val (.int (4 : Int32)), .val (.int i1), .val (.long vv), .second, s8] [(.int (XT.cmpL vv (0 : Int64)))])) t → Steps p.tables e below (T0.setTop (mkF m 21 #[.val (.ref a1), .val (.ref o1), .val (.int (7 : Int32)), .val (.ref a1), .val (.int (4 : Int32)), .val (.int i1), .unset, .unset, s8] [])) t := fun t k => pre0 t (by
    show Steps p.tables e below (T0.setTop (mkF m 21 #[.val (.ref a1), .val (.ref o1), .val (.int (7 : Int32)), .val (.ref a1), .val (.int (4 : Int32)), .val (.int i1), .unset, .unset, s8] [])) _
    refine XS.iload X0.here hx rfl (hb hby own_d1_21) rfl ?_
    show Steps p.tables e below (T0.setTop (mkF m 23 #[.val (.ref a1), .val (.ref o1), .val (.int (7 : Int32)), .val (.ref a1), .val (.int (4 : Int32)), .val (.int i1), .unset, .unset, s8] [(.int i1)])) _
    refine XS.iload X0.here hx rfl (hb hby own_d1_23) rfl ?_
    show Steps p.tables e below (T0.setTop (mkF m 25 #[.val (.ref a1), .val (.ref o1), .val (.int (7 : Int32)), .val (.ref a1), .val (.int (4 : Int32)), .val (.int i1), .unset, .unset, s8] [(.int (4 : Int32)), (.int i1)])) _
    refine XS.icmpNo X0.here hx rfl (hb hby own_d1_25) rfl (XT.ii_ge_f hi.2) ?_
    show Steps p.tables e below (T0.setTop (mkF m 28 #[.val (.ref a1), .val (.ref o1), .val (.int (7 : Int32)), .val (.ref a1), .val (.int (4 : Int32)), .val (.int i1), .unset, .unset, s8] [])) _
    refine XS.aloadN X0.here hx rfl (hb hby own_d1_28) rfl rfl ?_
    show Steps p.tables e below (T0.setTop (mkF m 29 #[.val (.ref a1), .val (.ref o1), .val (.int (7 : Int32)), .val (.ref a1), .val (.int (4 : Int32)), .val (.int i1), .unset, .unset, s8] [(.ref a1)])) _
    refine XS.iload X0.here hx rfl (hb hby own_d1_29) rfl ?_
    show Steps p.tables e below (T0.setTop (mkF m 31 #[.val (.ref a1), .val (.ref o1), .val (.int (7 : Int32)), .val (.ref a1), .val (.int (4 : Int32)), .val (.int i1), .unset, .unset, s8] [(.int i1), (.ref a1)])) _
    refine X0.laload hx (j := i1) (v := (.long vv)) (by rw [e0]; exact Ar1.1) (State.isArrayOf_alike hZ.alike Ar1.2.1) Ar1.2.2 ghin1 ghat1 (g := (mkF m 31 #[.val (.ref a1), .val (.ref o1), .val (.int (7 : Int32)), .val (.ref a1), .val (.int (4 : Int32)), .val (.int i1), .unset, .unset, s8] [(.int i1), (.ref a1)])) rfl rfl (hb hby own_d1_31) _ ?_
    show Steps p.tables e below (T0.setTop (mkF m 32 #[.val (.ref a1), .val (.ref o1), .val (.int (7 : Int32)), .val (.ref a1), .val (.int (4 : Int32)), .val (.int i1), .unset, .unset, s8] [(.long vv)])) _
    refine XT.lstore X0.here hx rfl (hb hby own_d1_32) rfl (l' := #[.val (.ref a1), .val (.ref o1), .val (.int (7 : Int32)), .val (.ref a1), .val (.int (4 : Int32)), .val (.int i1), .val (.long vv), .second, s8]) rfl ?_
    show Steps p.tables e below (T0.setTop (mkF m 34 #[.val (.ref a1), .val (.ref o1), .val (.int (7 : Int32)), .val (.ref a1), .val (.int (4 : Int32)), .val (.int i1), .val (.long vv), .second, s8] [])) _
    refine XT.lload X0.here hx rfl (hb hby own_d1_34) rfl ?_
    show Steps p.tables e below (T0.setTop (mkF m 36 #[.val (.ref a1), .val (.ref o1), .val (.int (7 : Int32)), .val (.ref a1), .val (.int (4 : Int32)), .val (.int i1), .val (.long vv), .second, s8] [(.long vv)])) _
    refine XT.lconstV X0.here hx rfl (0 : Int64) (hb hby own_d1_36) rfl ?_
    show Steps p.tables e below (T0.setTop (mkF m 37 #[.val (.ref a1), .val (.ref o1), .val (.int (7 : Int32)), .val (.ref a1), .val (.int (4 : Int32)), .val (.int i1), .val (.long vv), .second, s8] [(.long (0 : Int64)), (.long vv)])) _
    refine XT.lcmp X0.here hx rfl (hb hby own_d1_37) rfl ?_
    exact k)
  by_cases hv : vv = (0 : Int64)
  · have pre3 : ∀ t, Steps p.tables e below (T0.setTop (mkF m 21 #[.val (.ref a1), .val (.ref o1), .val (.int (7 : Int32)), .val (.ref a1), .val (.int (4 : Int32)), .val (.int (i1 + (1 : Int32))), .val (.long vv), .second, s8] [])) t → Steps p.tables e below (T0.setTop (mkF m 21 #[.val (.ref a1), .val (.ref o1), .val (.int (7 : Int32)), .val (.ref a1), .val (.int (4 : Int32)), .val (.int i1), .unset, .unset, s8] [])) t := fun t k => pre2 t (by
      show Steps p.tables e below (T0.setTop (mkF m 38 #[.val (.ref a1), .val (.ref o1), .val (.int (7 : Int32)), .val (.ref a1), .val (.int (4 : Int32)), .val (.int i1), .val (.long vv), .second, s8] [(.int (XT.cmpL vv (0 : Int64)))])) _
      refine XS.ifYes X0.here hx rfl (pc0 := 38) (pc' := 77) rfl (hb hby own_d1_38) rfl (XT.ll_eq_t hv) (by decide) (by decide) ?_
      show Steps p.tables e below (T0.setTop (mkF m 77 #[.val (.ref a1), .val (.ref o1), .val (.int (7 : Int32)), .val (.ref a1), .val (.int (4 : Int32)), .val (.int i1), .val (.long vv), .second, s8] [])) _
      refine XT.iincV X0.here hx rfl (1 : Int32) (hb hby own_d1_77) rfl rfl (l' := #[.val (.ref a1), .val (.ref o1), .val (.int (7 : Int32)), .val (.ref a1), .val (.int (4 : Int32)), .val (.int (i1 + (1 : Int32))), .val (.long vv), .second, s8]) rfl ?_
      show Steps p.tables e below (T0.setTop (mkF m 80 #[.val (.ref a1), .val (.ref o1), .val (.int (7 : Int32)), .val (.ref a1), .val (.int (4 : Int32)), .val (.int (i1 + (1 : Int32))), .val (.long vv), .second, s8] [])) _
      refine XS.goto X0.here hx rfl (pc0 := 80) (pc' := 21) rfl (hb hby own_d1_80) (by decide) (by decide) ?_
      exact k)
    exact ⟨_, _, _, _, X0, e0, ho, Keep.refl _ _, (by unfold own_ins; rw [if_pos hv]; exact P_V_o1), N0, pre3⟩
  · obtain ⟨cl4, Ar4, Q4, Sz4, Nn4, Ha4, Gf4⟩ := id P_V_o1
    have ghin4 : ¬ ((own_pr 8 LL (own_hm vv)) < 0 ∨ cl4.slots.size ≤ ((own_pr 8 LL (own_hm vv))).toNatClampNeg) := inb_of Sz4 (own_prIn LL vv hz).1
    obtain ⟨T5, h5, X5, e5, W5, st5⟩ := stJ X0 hx hZ e0 Ar4 (j := (own_pr 8 LL (own_hm vv))) ghin4 (g := (mkF m 76 #[.val (.ref a1), .val (.ref o1), .val (.int (7 : Int32)), .val (.ref a1), .val (.int (4 : Int32)), .val (.int i1), .val (.long vv), .second, .val (.int (own_pr 8 LL (own_hm vv)))] [(.long vv), (.int (own_pr 8 LL (own_hm vv))), (.ref o1)])) rfl rfl (hb hby own_d1_76)
    have V5 : Arv Z h5 o1 kd .long (8 : Int32) ((LL.map Value.long).set ((own_pr 8 LL (own_hm vv))).toNatClampNeg (.long vv)) (.long (0 : Int64)) := Arv.set Ar4 Q4 Sz4 Nn4 Ha4 Gf4 rfl W5 _ rfl (by rw [List.length_map, hlen]; exact (own_prIn LL vv hz).2)
    have K5 : Keep h0 h5 [o1] := (Keep.refl h0 [o1]).wr W5 (Or.inl (List.mem_of_getElem? (i := 0) rfl))
    have N5 := Fr.snoc X5 N0 g_o1
    have pre6 : ∀ t, Steps p.tables e below (T5.setTop (mkF m 21 #[.val (.ref a1), .val (.ref o1), .val (.int (7 : Int32)), .val (.ref a1), .val (.int (4 : Int32)), .val (.int (i1 + (1 : Int32))), .val (.long vv), .second, .val (.int (own_pr 8 LL (own_hm vv)))] [])) t → Steps p.tables e below (T0.setTop (mkF m 21 #[.val (.ref a1), .val (.ref o1), .val (.int (7 : Int32)), .val (.ref a1), .val (.int (4 : Int32)), .val (.int i1), .unset, .unset, s8] [])) t := fun t k => pre2 t (by
      show Steps p.tables e below (T0.setTop (mkF m 38 #[.val (.ref a1), .val (.ref o1), .val (.int (7 : Int32)), .val (.ref a1), .val (.int (4 : Int32)), .val (.int i1), .val (.long vv), .second, s8] [(.int (XT.cmpL vv (0 : Int64)))])) _
      refine XS.ifNo X0.here hx rfl (hb hby own_d1_38) rfl (XT.ll_eq_f hv) ?_
      show Steps p.tables e below (T0.setTop (mkF m 41 #[.val (.ref a1), .val (.ref o1), .val (.int (7 : Int32)), .val (.ref a1), .val (.int (4 : Int32)), .val (.int i1), .val (.long vv), .second, s8] [])) _
      refine XT.lload X0.here hx rfl (hb hby own_d1_41) rfl ?_
      show Steps p.tables e below (T0.setTop (mkF m 43 #[.val (.ref a1), .val (.ref o1), .val (.int (7 : Int32)), .val (.ref a1), .val (.int (4 : Int32)), .val (.int i1), .val (.long vv), .second, s8] [(.long vv)])) _
      refine XT.bipushV X0.here hx rfl (32 : Int32) (hb hby own_d1_43) rfl ?_
      show Steps p.tables e below (T0.setTop (mkF m 45 #[.val (.ref a1), .val (.ref o1), .val (.int (7 : Int32)), .val (.ref a1), .val (.int (4 : Int32)), .val (.int i1), .val (.long vv), .second, s8] [(.int (32 : Int32)), (.long vv)])) _
      refine XT.lushr X0.here hx rfl (hb hby own_d1_45) rfl ?_
      show Steps p.tables e below (T0.setTop (mkF m 46 #[.val (.ref a1), .val (.ref o1), .val (.int (7 : Int32)), .val (.ref a1), .val (.int (4 : Int32)), .val (.int i1), .val (.long vv), .second, s8] [(.long (XT.ushrL vv (32 : Int32)))])) _
      refine XT.l2i X0.here hx rfl (hb hby own_d1_46) rfl ?_
      show Steps p.tables e below (T0.setTop (mkF m 47 #[.val (.ref a1), .val (.ref o1), .val (.int (7 : Int32)), .val (.ref a1), .val (.int (4 : Int32)), .val (.int i1), .val (.long vv), .second, s8] [(.int ((XT.ushrL vv (32 : Int32)).toInt32))])) _
      refine XS.iloadN X0.here hx rfl (hb hby own_d1_47) rfl ?_
      show Steps p.tables e below (T0.setTop (mkF m 48 #[.val (.ref a1), .val (.ref o1), .val (.int (7 : Int32)), .val (.ref a1), .val (.int (4 : Int32)), .val (.int i1), .val (.long vv), .second, s8] [(.int (7 : Int32)), (.int ((XT.ushrL vv (32 : Int32)).toInt32))])) _
      refine XS.iand X0.here hx rfl (hb hby own_d1_48) rfl ?_
      show Steps p.tables e below (T0.setTop (mkF m 49 #[.val (.ref a1), .val (.ref o1), .val (.int (7 : Int32)), .val (.ref a1), .val (.int (4 : Int32)), .val (.int i1), .val (.long vv), .second, s8] [(.int (((XT.ushrL vv (32 : Int32)).toInt32) &&& (7 : Int32)))])) _
      refine XS.istore X0.here hx rfl (hb hby own_d1_49) rfl (l' := #[.val (.ref a1), .val (.ref o1), .val (.int (7 : Int32)), .val (.ref a1), .val (.int (4 : Int32)), .val (.int i1), .val (.long vv), .second, .val (.int (((XT.ushrL vv (32 : Int32)).toInt32) &&& (7 : Int32)))]) (own_os ho) ?_
      refine own_probe a1 o1 ka kd v0 v1 v2 v3 LL i1 vv X0 hx hZ hw hby hml hown e0 P_V_o1 8 (own_hm vv) (own_in8 _) hz t ?_
      show Steps p.tables e below (T0.setTop (mkF m 71 #[.val (.ref a1), .val (.ref o1), .val (.int (7 : Int32)), .val (.ref a1), .val (.int (4 : Int32)), .val (.int i1), .val (.long vv), .second, .val (.int (own_pr 8 LL (own_hm vv)))] [])) _
      refine XS.aloadN X0.here hx rfl (hb hby own_d1_71) rfl rfl ?_
      show Steps p.tables e below (T0.setTop (mkF m 72 #[.val (.ref a1), .val (.ref o1), .val (.int (7 : Int32)), .val (.ref a1), .val (.int (4 : Int32)), .val (.int i1), .val (.long vv), .second, .val (.int (own_pr 8 LL (own_hm vv)))] [(.ref o1)])) _
      refine XS.iload X0.here hx rfl (hb hby own_d1_72) rfl ?_
      show Steps p.tables e below (T0.setTop (mkF m 74 #[.val (.ref a1), .val (.ref o1), .val (.int (7 : Int32)), .val (.ref a1), .val (.int (4 : Int32)), .val (.int i1), .val (.long vv), .second, .val (.int (own_pr 8 LL (own_hm vv)))] [(.int (own_pr 8 LL (own_hm vv))), (.ref o1)])) _
      refine XT.lload X0.here hx rfl (hb hby own_d1_74) rfl ?_
      show Steps p.tables e below (T0.setTop (mkF m 76 #[.val (.ref a1), .val (.ref o1), .val (.int (7 : Int32)), .val (.ref a1), .val (.int (4 : Int32)), .val (.int i1), .val (.long vv), .second, .val (.int (own_pr 8 LL (own_hm vv)))] [(.long vv), (.int (own_pr 8 LL (own_hm vv))), (.ref o1)])) _
      refine st5 _ ?_
      show Steps p.tables e below (T5.setTop (mkF m 77 #[.val (.ref a1), .val (.ref o1), .val (.int (7 : Int32)), .val (.ref a1), .val (.int (4 : Int32)), .val (.int i1), .val (.long vv), .second, .val (.int (own_pr 8 LL (own_hm vv)))] [])) _
      refine XT.iincV X5.here hx rfl (1 : Int32) (hb hby own_d1_77) rfl rfl (l' := #[.val (.ref a1), .val (.ref o1), .val (.int (7 : Int32)), .val (.ref a1), .val (.int (4 : Int32)), .val (.int (i1 + (1 : Int32))), .val (.long vv), .second, .val (.int (own_pr 8 LL (own_hm vv)))]) rfl ?_
      show Steps p.tables e below (T5.setTop (mkF m 80 #[.val (.ref a1), .val (.ref o1), .val (.int (7 : Int32)), .val (.ref a1), .val (.int (4 : Int32)), .val (.int (i1 + (1 : Int32))), .val (.long vv), .second, .val (.int (own_pr 8 LL (own_hm vv)))] [])) _
      refine XS.goto X5.here hx rfl (pc0 := 80) (pc' := 21) rfl (hb hby own_d1_80) (by decide) (by decide) ?_
      exact k)
    exact ⟨_, _, _, _, X5, e5, One.val rfl, K5, (by unfold own_ins; rw [if_neg hv, List.map_set]; exact V5), N5, pre6⟩
set_option maxRecDepth 65536 in
set_option maxHeartbeats 40000000 in
theorem own_turnB {p : Program} {l : Launch} {e : Env} {R : Room} {s : State} {m : MethodId} {args : Array Value} {below : List Frame} {meth : Method} {c : Code} {T0 : State} {locs : List Loc} {cells slots : Nat} {Z : State} {a0 : Array Value} {h0 : Heap} (a1 o1 : Addr) (ka kd : ClassId) (v0 v1 v2 v3 : Int64) (LL : List Int64) (i1 : Int32) (vv : Int64) (s8 : Slot) (n0 : Nat) (w6 : Int64) (X0 : Stand p l e R s m args below meth c T0 locs cells slots) (hx : p.tables.exec = Jvm.exec) (hZ : Z.Warmed39 s.vm) (hw : ∀ d ∈ tables_1, d.before a0 Z = true) (hby : c.code = prog_76_method_16_code) (hml : c.maxLocals = 9) (hown : s.vm.findClass "com/example/tracegauge/tracegauge/MarkingSet" = some m.cls) (e0 : T0.heap = h0) (P_V_a1 : Arv Z h0 a1 ka .long (4 : Int32) [(.long v0), (.long v1), (.long v2), (.long v3)] (.long (0 : Int64))) (P_V_o1 : Arv Z h0 o1 kd .long (8 : Int32) (LL.map Value.long) (.long (0 : Int64))) (hlen : LL.length = 8) (hi : ¬ i1 < 0 ∧ i1 < (4 : Int32)) (hat : ([(.long v0), (.long v1), (.long v2), (.long v3)] : List Value).getD (i1).toNatClampNeg (.long (0 : Int64)) = .long vv) (hz : own_zero 8 LL (own_hm vv)) (hne : a1 ≠ o1) (ho : One s8) (g_o1 : n0 ≤ o1) (N0 : Fr n0 locs) :
    ∃ (T' : State) (h' : Heap) (lo' : List Loc) (s8' : Slot), Stand p l e R s m args below meth c T' lo' cells slots ∧ T'.heap = h' ∧ One s8' ∧ Keep h0 h' [o1] ∧ Arv Z h' o1 kd .long (8 : Int32) ((own_ins LL vv).map Value.long) (.long (0 : Int64)) ∧ Fr n0 lo' ∧ ∀ t, Steps p.tables e below (T'.setTop (mkF m 21 #[.val (.ref a1), .val (.ref o1), .val (.int (7 : Int32)), .val (.ref a1), .val (.int (4 : Int32)), .val (.int (i1 + (1 : Int32))), .val (.long vv), .second, s8'] [])) t → Steps p.tables e below (T0.setTop (mkF m 21 #[.val (.ref a1), .val (.ref o1), .val (.int (7 : Int32)), .val (.ref a1), .val (.int (4 : Int32)), .val (.int i1), .val (.long w6), .second, s8] [])) t := by
  have pre0 : ∀ t, Steps p.tables e below (T0.setTop (mkF m 21 #[.val (.ref a1), .val (.ref o1), .val (.int (7 : Int32)), .val (.ref a1), .val (.int (4 : Int32)), .val (.int i1), .val (.long w6), .second, s8] [])) t → Steps p.tables e below (T0.setTop (mkF m 21 #[.val (.ref a1), .val (.ref o1), .val (.int (7 : Int32)), .val (.ref a1), .val (.int (4 : Int32)), .val (.int i1), .val (.long w6), .second, s8] [])) t := fun t k => k
  obtain ⟨cl1, Ar1, Q1, Sz1, Nn1, Ha1, Gf1⟩ := id P_V_a1
  have ghin1 : ¬ (i1 < 0 ∨ cl1.slots.size ≤ (i1).toNatClampNeg) := inb_of Sz1 hi
  have ghat1 : cl1.slots[(i1).toNatClampNeg]? = some (.long vv) := Ha1.at ghin1 hat
  have pre2 : ∀ t, Steps p.tables e below (T0.setTop (mkF m 38 #[.val (.ref a1), .val (.ref o1), .val (.int (7 : Int32)), .val (.ref a1), .val (.int (4 : Int32)), .val (.int i1), .val (.long vv), .second, s8] [(.int (XT.cmpL vv (0 : Int64)))])) t → Steps p.tables e below (T0.setTop (mkF m 21 #[.val (.ref a1), .val (.ref o1), .val (.int (7 : Int32)), .val (.ref a1), .val (.int (4 : Int32)), .val (.int i1), .val (.long w6), .second, s8] [])) t := fun t k => pre0 t (by
    show Steps p.tables e below (T0.setTop (mkF m 21 #[.val (.ref a1), .val (.ref o1), .val (.int (7 : Int32)), .val (.ref a1), .val (.int (4 : Int32)), .val (.int i1), .val (.long w6), .second, s8] [])) _
    refine XS.iload X0.here hx rfl (hb hby own_d1_21) rfl ?_
    show Steps p.tables e below (T0.setTop (mkF m 23 #[.val (.ref a1), .val (.ref o1), .val (.int (7 : Int32)), .val (.ref a1), .val (.int (4 : Int32)), .val (.int i1), .val (.long w6), .second, s8] [(.int i1)])) _
    refine XS.iload X0.here hx rfl (hb hby own_d1_23) rfl ?_
    show Steps p.tables e below (T0.setTop (mkF m 25 #[.val (.ref a1), .val (.ref o1), .val (.int (7 : Int32)), .val (.ref a1), .val (.int (4 : Int32)), .val (.int i1), .val (.long w6), .second, s8] [(.int (4 : Int32)), (.int i1)])) _
    refine XS.icmpNo X0.here hx rfl (hb hby own_d1_25) rfl (XT.ii_ge_f hi.2) ?_
    show Steps p.tables e below (T0.setTop (mkF m 28 #[.val (.ref a1), .val (.ref o1), .val (.int (7 : Int32)), .val (.ref a1), .val (.int (4 : Int32)), .val (.int i1), .val (.long w6), .second, s8] [])) _
    refine XS.aloadN X0.here hx rfl (hb hby own_d1_28) rfl rfl ?_
    show Steps p.tables e below (T0.setTop (mkF m 29 #[.val (.ref a1), .val (.ref o1), .val (.int (7 : Int32)), .val (.ref a1), .val (.int (4 : Int32)), .val (.int i1), .val (.long w6), .second, s8] [(.ref a1)])) _
    refine XS.iload X0.here hx rfl (hb hby own_d1_29) rfl ?_
    show Steps p.tables e below (T0.setTop (mkF m 31 #[.val (.ref a1), .val (.ref o1), .val (.int (7 : Int32)), .val (.ref a1), .val (.int (4 : Int32)), .val (.int i1), .val (.long w6), .second, s8] [(.int i1), (.ref a1)])) _
    refine X0.laload hx (j := i1) (v := (.long vv)) (by rw [e0]; exact Ar1.1) (State.isArrayOf_alike hZ.alike Ar1.2.1) Ar1.2.2 ghin1 ghat1 (g := (mkF m 31 #[.val (.ref a1), .val (.ref o1), .val (.int (7 : Int32)), .val (.ref a1), .val (.int (4 : Int32)), .val (.int i1), .val (.long w6), .second, s8] [(.int i1), (.ref a1)])) rfl rfl (hb hby own_d1_31) _ ?_
    show Steps p.tables e below (T0.setTop (mkF m 32 #[.val (.ref a1), .val (.ref o1), .val (.int (7 : Int32)), .val (.ref a1), .val (.int (4 : Int32)), .val (.int i1), .val (.long w6), .second, s8] [(.long vv)])) _
    refine XT.lstore X0.here hx rfl (hb hby own_d1_32) rfl (l' := #[.val (.ref a1), .val (.ref o1), .val (.int (7 : Int32)), .val (.ref a1), .val (.int (4 : Int32)), .val (.int i1), .val (.long vv), .second, s8]) rfl ?_
    show Steps p.tables e below (T0.setTop (mkF m 34 #[.val (.ref a1), .val (.ref o1), .val (.int (7 : Int32)), .val (.ref a1), .val (.int (4 : Int32)), .val (.int i1), .val (.long vv), .second, s8] [])) _
    refine XT.lload X0.here hx rfl (hb hby own_d1_34) rfl ?_
    show Steps p.tables e below (T0.setTop (mkF m 36 #[.val (.ref a1), .val (.ref o1), .val (.int (7 : Int32)), .val (.ref a1), .val (.int (4 : Int32)), .val (.int i1), .val (.long vv), .second, s8] [(.long vv)])) _
    refine XT.lconstV X0.here hx rfl (0 : Int64) (hb hby own_d1_36) rfl ?_
    show Steps p.tables e below (T0.setTop (mkF m 37 #[.val (.ref a1), .val (.ref o1), .val (.int (7 : Int32)), .val (.ref a1), .val (.int (4 : Int32)), .val (.int i1), .val (.long vv), .second, s8] [(.long (0 : Int64)), (.long vv)])) _
    refine XT.lcmp X0.here hx rfl (hb hby own_d1_37) rfl ?_
    exact k)
  by_cases hv : vv = (0 : Int64)
  · have pre3 : ∀ t, Steps p.tables e below (T0.setTop (mkF m 21 #[.val (.ref a1), .val (.ref o1), .val (.int (7 : Int32)), .val (.ref a1), .val (.int (4 : Int32)), .val (.int (i1 + (1 : Int32))), .val (.long vv), .second, s8] [])) t → Steps p.tables e below (T0.setTop (mkF m 21 #[.val (.ref a1), .val (.ref o1), .val (.int (7 : Int32)), .val (.ref a1), .val (.int (4 : Int32)), .val (.int i1), .val (.long w6), .second, s8] [])) t := fun t k => pre2 t (by
      show Steps p.tables e below (T0.setTop (mkF m 38 #[.val (.ref a1), .val (.ref o1), .val (.int (7 : Int32)), .val (.ref a1), .val (.int (4 : Int32)), .val (.int i1), .val (.long vv), .second, s8] [(.int (XT.cmpL vv (0 : Int64)))])) _
      refine XS.ifYes X0.here hx rfl (pc0 := 38) (pc' := 77) rfl (hb hby own_d1_38) rfl (XT.ll_eq_t hv) (by decide) (by decide) ?_
      show Steps p.tables e below (T0.setTop (mkF m 77 #[.val (.ref a1), .val (.ref o1), .val (.int (7 : Int32)), .val (.ref a1), .val (.int (4 : Int32)), .val (.int i1), .val (.long vv), .second, s8] [])) _
      refine XT.iincV X0.here hx rfl (1 : Int32) (hb hby own_d1_77) rfl rfl (l' := #[.val (.ref a1), .val (.ref o1), .val (.int (7 : Int32)), .val (.ref a1), .val (.int (4 : Int32)), .val (.int (i1 + (1 : Int32))), .val (.long vv), .second, s8]) rfl ?_
      show Steps p.tables e below (T0.setTop (mkF m 80 #[.val (.ref a1), .val (.ref o1), .val (.int (7 : Int32)), .val (.ref a1), .val (.int (4 : Int32)), .val (.int (i1 + (1 : Int32))), .val (.long vv), .second, s8] [])) _
      refine XS.goto X0.here hx rfl (pc0 := 80) (pc' := 21) rfl (hb hby own_d1_80) (by decide) (by decide) ?_
      exact k)
    exact ⟨_, _, _, _, X0, e0, ho, Keep.refl _ _, (by unfold own_ins; rw [if_pos hv]; exact P_V_o1), N0, pre3⟩
  · obtain ⟨cl4, Ar4, Q4, Sz4, Nn4, Ha4, Gf4⟩ := id P_V_o1
    have ghin4 : ¬ ((own_pr 8 LL (own_hm vv)) < 0 ∨ cl4.slots.size ≤ ((own_pr 8 LL (own_hm vv))).toNatClampNeg) := inb_of Sz4 (own_prIn LL vv hz).1
    obtain ⟨T5, h5, X5, e5, W5, st5⟩ := stJ X0 hx hZ e0 Ar4 (j := (own_pr 8 LL (own_hm vv))) ghin4 (g := (mkF m 76 #[.val (.ref a1), .val (.ref o1), .val (.int (7 : Int32)), .val (.ref a1), .val (.int (4 : Int32)), .val (.int i1), .val (.long vv), .second, .val (.int (own_pr 8 LL (own_hm vv)))] [(.long vv), (.int (own_pr 8 LL (own_hm vv))), (.ref o1)])) rfl rfl (hb hby own_d1_76)
    have V5 : Arv Z h5 o1 kd .long (8 : Int32) ((LL.map Value.long).set ((own_pr 8 LL (own_hm vv))).toNatClampNeg (.long vv)) (.long (0 : Int64)) := Arv.set Ar4 Q4 Sz4 Nn4 Ha4 Gf4 rfl W5 _ rfl (by rw [List.length_map, hlen]; exact (own_prIn LL vv hz).2)
    have K5 : Keep h0 h5 [o1] := (Keep.refl h0 [o1]).wr W5 (Or.inl (List.mem_of_getElem? (i := 0) rfl))
    have N5 := Fr.snoc X5 N0 g_o1
    have pre6 : ∀ t, Steps p.tables e below (T5.setTop (mkF m 21 #[.val (.ref a1), .val (.ref o1), .val (.int (7 : Int32)), .val (.ref a1), .val (.int (4 : Int32)), .val (.int (i1 + (1 : Int32))), .val (.long vv), .second, .val (.int (own_pr 8 LL (own_hm vv)))] [])) t → Steps p.tables e below (T0.setTop (mkF m 21 #[.val (.ref a1), .val (.ref o1), .val (.int (7 : Int32)), .val (.ref a1), .val (.int (4 : Int32)), .val (.int i1), .val (.long w6), .second, s8] [])) t := fun t k => pre2 t (by
      show Steps p.tables e below (T0.setTop (mkF m 38 #[.val (.ref a1), .val (.ref o1), .val (.int (7 : Int32)), .val (.ref a1), .val (.int (4 : Int32)), .val (.int i1), .val (.long vv), .second, s8] [(.int (XT.cmpL vv (0 : Int64)))])) _
      refine XS.ifNo X0.here hx rfl (hb hby own_d1_38) rfl (XT.ll_eq_f hv) ?_
      show Steps p.tables e below (T0.setTop (mkF m 41 #[.val (.ref a1), .val (.ref o1), .val (.int (7 : Int32)), .val (.ref a1), .val (.int (4 : Int32)), .val (.int i1), .val (.long vv), .second, s8] [])) _
      refine XT.lload X0.here hx rfl (hb hby own_d1_41) rfl ?_
      show Steps p.tables e below (T0.setTop (mkF m 43 #[.val (.ref a1), .val (.ref o1), .val (.int (7 : Int32)), .val (.ref a1), .val (.int (4 : Int32)), .val (.int i1), .val (.long vv), .second, s8] [(.long vv)])) _
      refine XT.bipushV X0.here hx rfl (32 : Int32) (hb hby own_d1_43) rfl ?_
      show Steps p.tables e below (T0.setTop (mkF m 45 #[.val (.ref a1), .val (.ref o1), .val (.int (7 : Int32)), .val (.ref a1), .val (.int (4 : Int32)), .val (.int i1), .val (.long vv), .second, s8] [(.int (32 : Int32)), (.long vv)])) _
      refine XT.lushr X0.here hx rfl (hb hby own_d1_45) rfl ?_
      show Steps p.tables e below (T0.setTop (mkF m 46 #[.val (.ref a1), .val (.ref o1), .val (.int (7 : Int32)), .val (.ref a1), .val (.int (4 : Int32)), .val (.int i1), .val (.long vv), .second, s8] [(.long (XT.ushrL vv (32 : Int32)))])) _
      refine XT.l2i X0.here hx rfl (hb hby own_d1_46) rfl ?_
      show Steps p.tables e below (T0.setTop (mkF m 47 #[.val (.ref a1), .val (.ref o1), .val (.int (7 : Int32)), .val (.ref a1), .val (.int (4 : Int32)), .val (.int i1), .val (.long vv), .second, s8] [(.int ((XT.ushrL vv (32 : Int32)).toInt32))])) _
      refine XS.iloadN X0.here hx rfl (hb hby own_d1_47) rfl ?_
      show Steps p.tables e below (T0.setTop (mkF m 48 #[.val (.ref a1), .val (.ref o1), .val (.int (7 : Int32)), .val (.ref a1), .val (.int (4 : Int32)), .val (.int i1), .val (.long vv), .second, s8] [(.int (7 : Int32)), (.int ((XT.ushrL vv (32 : Int32)).toInt32))])) _
      refine XS.iand X0.here hx rfl (hb hby own_d1_48) rfl ?_
      show Steps p.tables e below (T0.setTop (mkF m 49 #[.val (.ref a1), .val (.ref o1), .val (.int (7 : Int32)), .val (.ref a1), .val (.int (4 : Int32)), .val (.int i1), .val (.long vv), .second, s8] [(.int (((XT.ushrL vv (32 : Int32)).toInt32) &&& (7 : Int32)))])) _
      refine XS.istore X0.here hx rfl (hb hby own_d1_49) rfl (l' := #[.val (.ref a1), .val (.ref o1), .val (.int (7 : Int32)), .val (.ref a1), .val (.int (4 : Int32)), .val (.int i1), .val (.long vv), .second, .val (.int (((XT.ushrL vv (32 : Int32)).toInt32) &&& (7 : Int32)))]) (own_os ho) ?_
      refine own_probe a1 o1 ka kd v0 v1 v2 v3 LL i1 vv X0 hx hZ hw hby hml hown e0 P_V_o1 8 (own_hm vv) (own_in8 _) hz t ?_
      show Steps p.tables e below (T0.setTop (mkF m 71 #[.val (.ref a1), .val (.ref o1), .val (.int (7 : Int32)), .val (.ref a1), .val (.int (4 : Int32)), .val (.int i1), .val (.long vv), .second, .val (.int (own_pr 8 LL (own_hm vv)))] [])) _
      refine XS.aloadN X0.here hx rfl (hb hby own_d1_71) rfl rfl ?_
      show Steps p.tables e below (T0.setTop (mkF m 72 #[.val (.ref a1), .val (.ref o1), .val (.int (7 : Int32)), .val (.ref a1), .val (.int (4 : Int32)), .val (.int i1), .val (.long vv), .second, .val (.int (own_pr 8 LL (own_hm vv)))] [(.ref o1)])) _
      refine XS.iload X0.here hx rfl (hb hby own_d1_72) rfl ?_
      show Steps p.tables e below (T0.setTop (mkF m 74 #[.val (.ref a1), .val (.ref o1), .val (.int (7 : Int32)), .val (.ref a1), .val (.int (4 : Int32)), .val (.int i1), .val (.long vv), .second, .val (.int (own_pr 8 LL (own_hm vv)))] [(.int (own_pr 8 LL (own_hm vv))), (.ref o1)])) _
      refine XT.lload X0.here hx rfl (hb hby own_d1_74) rfl ?_
      show Steps p.tables e below (T0.setTop (mkF m 76 #[.val (.ref a1), .val (.ref o1), .val (.int (7 : Int32)), .val (.ref a1), .val (.int (4 : Int32)), .val (.int i1), .val (.long vv), .second, .val (.int (own_pr 8 LL (own_hm vv)))] [(.long vv), (.int (own_pr 8 LL (own_hm vv))), (.ref o1)])) _
      refine st5 _ ?_
      show Steps p.tables e below (T5.setTop (mkF m 77 #[.val (.ref a1), .val (.ref o1), .val (.int (7 : Int32)), .val (.ref a1), .val (.int (4 : Int32)), .val (.int i1), .val (.long vv), .second, .val (.int (own_pr 8 LL (own_hm vv)))] [])) _
      refine XT.iincV X5.here hx rfl (1 : Int32) (hb hby own_d1_77) rfl rfl (l' := #[.val (.ref a1), .val (.ref o1), .val (.int (7 : Int32)), .val (.ref a1), .val (.int (4 : Int32)), .val (.int (i1 + (1 : Int32))), .val (.long vv), .second, .val (.int (own_pr 8 LL (own_hm vv)))]) rfl ?_
      show Steps p.tables e below (T5.setTop (mkF m 80 #[.val (.ref a1), .val (.ref o1), .val (.int (7 : Int32)), .val (.ref a1), .val (.int (4 : Int32)), .val (.int (i1 + (1 : Int32))), .val (.long vv), .second, .val (.int (own_pr 8 LL (own_hm vv)))] [])) _
      refine XS.goto X5.here hx rfl (pc0 := 80) (pc' := 21) rfl (hb hby own_d1_80) (by decide) (by decide) ?_
      exact k)
    exact ⟨_, _, _, _, X5, e5, One.val rfl, K5, (by unfold own_ins; rw [if_neg hv, List.map_set]; exact V5), N5, pre6⟩
theorem own_ef1 (m : MethodId) (a1 : Addr) : entryFrame m #[(.ref a1)] 9 = mkF m 0 #[.val (.ref a1), .unset, .unset, .unset, .unset, .unset, .unset, .unset, .unset] [] := by first | (simp [entryFrame, mkF, argsToLocals, Value.category]; done) | rfl
def own_Q1 (Z : State) (a1 : Addr) (ka : ClassId) (v0 : Int64) (v1 : Int64) (v2 : Int64) (v3 : Int64) (h0 : Heap) (n0 : Nat) (v : Option Value) (h : Heap) (L : List Loc) : Prop := ∃ o1 : Addr, ∃ kd : ClassId, (v = some (.ref o1)) ∧ (Fr n0 L) ∧ (Keep h0 h []) ∧ (Arv Z h o1 kd .long (8 : Int32) ((own_L4 v0 v1 v2 v3).map Value.long) (.long (0 : Int64))) ∧ (h0.size ≤ o1)
set_option maxRecDepth 65536 in
set_option maxHeartbeats 40000000 in
theorem own_rm1 (l : Launch) (Z : State) (a0 : Array Value) (hw : ∀ d ∈ tables_1, d.before a0 Z = true) (ws : List Jvm.Cond) (a1 : Addr) (ka : ClassId) (v0 : Int64) (v1 : Int64) (v2 : Int64) (v3 : Int64) (h0 : Heap) (n0 : Nat) (Z0 : n0 ≤ h0.size) (P_V_a1 : Arv Z h0 a1 ka .long (4 : Int32) [(.long v0), (.long v1), (.long v2), (.long v3)] (.long (0 : Int64))) :
    MetFree l (⟨"com/example/tracegauge/tracegauge/MarkingSet", "doubled", "([J)[J"⟩ : MethodName) (head1 (Jvm.Cond.code (⟨"com/example/tracegauge/tracegauge/MarkingSet", "doubled", "([J)[J"⟩ : MethodName) prog_76_method_16_code 9 (some (.array .long)) :: ws) ({ frames := 0, cells := 1, slots := 8, locals := 0 } : Room)) (fun ar_ U_ => ar_ = #[(.ref a1)] ∧ Z.Warmed39 U_.vm ∧ U_.heap = h0) (fun _ _ _ _ _ => True) (fun _ U_ o_ U_' => ∃ v_ L_, o_ = .returned v_ ∧ own_Q1 Z a1 ka v0 v1 v2 v3 h0 n0 v_ U_'.heap L_ ∧ FrameEnd U_ o_ U_' L_ ({ frames := 0, cells := 1, slots := 8, locals := 0 } : Room).cells ({ frames := 0, cells := 1, slots := 8, locals := 0 } : Room).slots) := by
  refine MetFree.of_bodySF (plainFor_of_name own_pn1) hisR ?_
  intro p e s m args below meth c s₁ Bd hml0 hP hK
  obtain ⟨rfl, hZ, hh⟩ := hP
  have hx := Bd.exec
  have hby := Bd.bytes
  have hml : c.maxLocals = 9 := hml0
  have hown : s.vm.findClass "com/example/tracegauge/tracegauge/MarkingSet" = some m.cls := findClass_of_methodNamed Bd.named
  have hnm := (name_of_methodNamed Bd.named Bd.method).1
  have X0 : Stand p l e ({ frames := 0, cells := 1, slots := 8, locals := 0 } : Room) s m #[(.ref a1)] below meth c s₁ [] 0 0 := Stand.of_body Bd
  have e0 : s₁.heap = h0 := by rw [← hh, Bd.state]; rfl
  have N0 := Fr.nil n0
  have pre0 : ∀ t, Steps p.tables e below (s₁.setTop (mkF m 0 #[.val (.ref a1), .unset, .unset, .unset, .unset, .unset, .unset, .unset, .unset] [])) t → Steps p.tables e below (s₁.setTop (entryFrame m #[(.ref a1)] 9)) t := fun t k => castTop (own_ef1 m a1) k
  obtain ⟨cl1, Ar1, -, Sz1, Nn1, -, -⟩ := id P_V_a1
  obtain ⟨T2, h2, kc2, X2, e2, E2, A2, st2⟩ := newP X0 hx hZ (hw _ (List.mem_of_getElem? (i := 0) rfl)) e0 (g := (mkF m 4 #[.val (.ref a1), .unset, .unset, .unset, .unset, .unset, .unset, .unset, .unset] [(.int (8 : Int32))])) rfl (hb hby own_d1_4) rfl (by decide) (cap := 8) (by decide) (by decide) (by decide) (by decide)
  obtain ⟨ob2, g2⟩ : ∃ z, z = h0.size := ⟨_, rfl⟩
  rw [← g2] at A2 st2
  have ne_a1_ob2 : a1 ≠ ob2 := Nat.ne_of_lt (Nat.lt_of_lt_of_le P_V_a1.lt (Nat.le_of_eq g2.symm))
  have sz2 : n0 ≤ h2.size := Nat.le_trans Z0 E2.1
  have gn_ob2 : n0 ≤ ob2 := Nat.le_trans Z0 (Nat.le_of_eq g2.symm)
  have bo_ob2 : h0.size ≤ ob2 := Nat.le_trans (Keep.refl h0 []).1 (Nat.le_of_eq g2.symm)
  have K2 : Keep h0 h2 [] := (Keep.refl h0 []).ext E2
  have V_ob2 : Arv Z h2 ob2 kc2 .long (8 : Int32) [(.long (0 : Int64)), (.long (0 : Int64)), (.long (0 : Int64)), (.long (0 : Int64)), (.long (0 : Int64)), (.long (0 : Int64)), (.long (0 : Int64)), (.long (0 : Int64))] (.long (0 : Int64)) := (Arv.new A2 (by decide)).pad (pad_rep [] (.long (0 : Int64)) 8)
  obtain ⟨cl3, Ar3, -, Sz3, Nn3, -, -⟩ := id V_ob2
  have FV_a1_4 : Arv Z h2 a1 ka .long (4 : Int32) [(.long v0), (.long v1), (.long v2), (.long v3)] (.long (0 : Int64)) := (P_V_a1.ext E2)
  obtain ⟨cl5, Ar5, -, Sz5, Nn5, -, -⟩ := id FV_a1_4
  have pre6 : ∀ t, Steps p.tables e below (T2.setTop (mkF m 21 #[.val (.ref a1), .val (.ref ob2), .val (.int (7 : Int32)), .val (.ref a1), .val (.int (4 : Int32)), .val (.int (0 : Int32)), .unset, .unset, .unset] [])) t → Steps p.tables e below (s₁.setTop (entryFrame m #[(.ref a1)] 9)) t := fun t k => pre0 t (by
    show Steps p.tables e below (s₁.setTop (mkF m 0 #[.val (.ref a1), .unset, .unset, .unset, .unset, .unset, .unset, .unset, .unset] [])) _
    refine XT.iconstV X0.here hx rfl (2 : Int32) (hb hby own_d1_0) rfl ?_
    show Steps p.tables e below (s₁.setTop (mkF m 1 #[.val (.ref a1), .unset, .unset, .unset, .unset, .unset, .unset, .unset, .unset] [(.int (2 : Int32))])) _
    refine XS.aloadN X0.here hx rfl (hb hby own_d1_1) rfl rfl ?_
    show Steps p.tables e below (s₁.setTop (mkF m 2 #[.val (.ref a1), .unset, .unset, .unset, .unset, .unset, .unset, .unset, .unset] [(.ref a1), (.int (2 : Int32))])) _
    refine X0.arraylength hx (by rw [e0]; exact Ar1.1) (State.isArrayOf_alike hZ.alike Ar1.2.1) (g := (mkF m 2 #[.val (.ref a1), .unset, .unset, .unset, .unset, .unset, .unset, .unset, .unset] [(.ref a1), (.int (2 : Int32))])) rfl rfl (hb hby own_d1_2) _ ?_
    rw [len_of Sz1 Nn1]
    show Steps p.tables e below (s₁.setTop (mkF m 3 #[.val (.ref a1), .unset, .unset, .unset, .unset, .unset, .unset, .unset, .unset] [(.int (4 : Int32)), (.int (2 : Int32))])) _
    refine XS.imul X0.here hx rfl (hb hby own_d1_3) rfl ?_
    show Steps p.tables e below (s₁.setTop (mkF m 4 #[.val (.ref a1), .unset, .unset, .unset, .unset, .unset, .unset, .unset, .unset] [(.int (8 : Int32))])) _
    refine st2 _ ?_
    show Steps p.tables e below (T2.setTop (mkF m 6 #[.val (.ref a1), .unset, .unset, .unset, .unset, .unset, .unset, .unset, .unset] [(.ref ob2)])) _
    refine XS.astoreN X2.here hx rfl (hb hby own_d1_6) rfl rfl (l' := #[.val (.ref a1), .val (.ref ob2), .unset, .unset, .unset, .unset, .unset, .unset, .unset]) rfl ?_
    show Steps p.tables e below (T2.setTop (mkF m 7 #[.val (.ref a1), .val (.ref ob2), .unset, .unset, .unset, .unset, .unset, .unset, .unset] [])) _
    refine XS.aloadN X2.here hx rfl (hb hby own_d1_7) rfl rfl ?_
    show Steps p.tables e below (T2.setTop (mkF m 8 #[.val (.ref a1), .val (.ref ob2), .unset, .unset, .unset, .unset, .unset, .unset, .unset] [(.ref ob2)])) _
    refine X2.arraylength hx (by rw [e2]; exact Ar3.1) (State.isArrayOf_alike hZ.alike Ar3.2.1) (g := (mkF m 8 #[.val (.ref a1), .val (.ref ob2), .unset, .unset, .unset, .unset, .unset, .unset, .unset] [(.ref ob2)])) rfl rfl (hb hby own_d1_8) _ ?_
    rw [len_of Sz3 Nn3]
    show Steps p.tables e below (T2.setTop (mkF m 9 #[.val (.ref a1), .val (.ref ob2), .unset, .unset, .unset, .unset, .unset, .unset, .unset] [(.int (8 : Int32))])) _
    refine XT.iconstV X2.here hx rfl (1 : Int32) (hb hby own_d1_9) rfl ?_
    show Steps p.tables e below (T2.setTop (mkF m 10 #[.val (.ref a1), .val (.ref ob2), .unset, .unset, .unset, .unset, .unset, .unset, .unset] [(.int (1 : Int32)), (.int (8 : Int32))])) _
    refine XS.isub X2.here hx rfl (hb hby own_d1_10) rfl ?_
    show Steps p.tables e below (T2.setTop (mkF m 11 #[.val (.ref a1), .val (.ref ob2), .unset, .unset, .unset, .unset, .unset, .unset, .unset] [(.int (7 : Int32))])) _
    refine XS.istoreN X2.here hx rfl (hb hby own_d1_11) rfl (l' := #[.val (.ref a1), .val (.ref ob2), .val (.int (7 : Int32)), .unset, .unset, .unset, .unset, .unset, .unset]) rfl ?_
    show Steps p.tables e below (T2.setTop (mkF m 12 #[.val (.ref a1), .val (.ref ob2), .val (.int (7 : Int32)), .unset, .unset, .unset, .unset, .unset, .unset] [])) _
    refine XS.aloadN X2.here hx rfl (hb hby own_d1_12) rfl rfl ?_
    show Steps p.tables e below (T2.setTop (mkF m 13 #[.val (.ref a1), .val (.ref ob2), .val (.int (7 : Int32)), .unset, .unset, .unset, .unset, .unset, .unset] [(.ref a1)])) _
    refine XS.astoreN X2.here hx rfl (hb hby own_d1_13) rfl rfl (l' := #[.val (.ref a1), .val (.ref ob2), .val (.int (7 : Int32)), .val (.ref a1), .unset, .unset, .unset, .unset, .unset]) rfl ?_
    show Steps p.tables e below (T2.setTop (mkF m 14 #[.val (.ref a1), .val (.ref ob2), .val (.int (7 : Int32)), .val (.ref a1), .unset, .unset, .unset, .unset, .unset] [])) _
    refine XS.aloadN X2.here hx rfl (hb hby own_d1_14) rfl rfl ?_
    show Steps p.tables e below (T2.setTop (mkF m 15 #[.val (.ref a1), .val (.ref ob2), .val (.int (7 : Int32)), .val (.ref a1), .unset, .unset, .unset, .unset, .unset] [(.ref a1)])) _
    refine X2.arraylength hx (by rw [e2]; exact Ar5.1) (State.isArrayOf_alike hZ.alike Ar5.2.1) (g := (mkF m 15 #[.val (.ref a1), .val (.ref ob2), .val (.int (7 : Int32)), .val (.ref a1), .unset, .unset, .unset, .unset, .unset] [(.ref a1)])) rfl rfl (hb hby own_d1_15) _ ?_
    rw [len_of Sz5 Nn5]
    show Steps p.tables e below (T2.setTop (mkF m 16 #[.val (.ref a1), .val (.ref ob2), .val (.int (7 : Int32)), .val (.ref a1), .unset, .unset, .unset, .unset, .unset] [(.int (4 : Int32))])) _
    refine XS.istore X2.here hx rfl (hb hby own_d1_16) rfl (l' := #[.val (.ref a1), .val (.ref ob2), .val (.int (7 : Int32)), .val (.ref a1), .val (.int (4 : Int32)), .unset, .unset, .unset, .unset]) rfl ?_
    show Steps p.tables e below (T2.setTop (mkF m 18 #[.val (.ref a1), .val (.ref ob2), .val (.int (7 : Int32)), .val (.ref a1), .val (.int (4 : Int32)), .unset, .unset, .unset, .unset] [])) _
    refine XT.iconstV X2.here hx rfl (0 : Int32) (hb hby own_d1_18) rfl ?_
    show Steps p.tables e below (T2.setTop (mkF m 19 #[.val (.ref a1), .val (.ref ob2), .val (.int (7 : Int32)), .val (.ref a1), .val (.int (4 : Int32)), .unset, .unset, .unset, .unset] [(.int (0 : Int32))])) _
    refine XS.istore X2.here hx rfl (hb hby own_d1_19) rfl (l' := #[.val (.ref a1), .val (.ref ob2), .val (.int (7 : Int32)), .val (.ref a1), .val (.int (4 : Int32)), .val (.int (0 : Int32)), .unset, .unset, .unset]) rfl ?_
    exact k)
  have Vn7 : Arv Z h2 ob2 kc2 .long (8 : Int32) (own_nil.map Value.long) (.long (0 : Int64)) := V_ob2
  obtain ⟨-, -, ⟨hz0, hz1, hz2, hz3⟩, hl1, hl2, hl3⟩ := own_law v0 v1 v2 v3
  obtain ⟨T8, h8, lo8, s8_8, X8, e8, ho8, Kt8, V8, N8, st8⟩ := own_turnA a1 ob2 ka kc2 v0 v1 v2 v3 own_nil (0 : Int32) v0 .unset n0  X2 hx hZ hw hby hml hown e2 FV_a1_4 Vn7 rfl ⟨by decide, by decide⟩ rfl hz0 ne_a1_ob2 One.u gn_ob2 N0
  have K8 : Keep h0 h8 [] := K2.trans Kt8 (allS (Or.inr bo_ob2) all0)
  have pre9 : ∀ t, Steps p.tables e below (T8.setTop (mkF m 21 #[.val (.ref a1), .val (.ref ob2), .val (.int (7 : Int32)), .val (.ref a1), .val (.int (4 : Int32)), .val (.int (1 : Int32)), .val (.long v0), .second, s8_8] [])) t → Steps p.tables e below (s₁.setTop (entryFrame m #[(.ref a1)] 9)) t := fun t k => pre6 t (by
    show Steps p.tables e below (T2.setTop (mkF m 21 #[.val (.ref a1), .val (.ref ob2), .val (.int (7 : Int32)), .val (.ref a1), .val (.int (4 : Int32)), .val (.int (0 : Int32)), .unset, .unset, .unset] [])) _
    refine st8 _ ?_
    exact k)
  have FV_a1_10 : Arv Z h8 a1 ka .long (4 : Int32) [(.long v0), (.long v1), (.long v2), (.long v3)] (.long (0 : Int64)) := (FV_a1_4.keep Kt8 (ninS ne_a1_ob2 nin0))
  obtain ⟨T11, h11, lo11, s8_11, X11, e11, ho11, Kt11, V11, N11, st11⟩ := own_turnB a1 ob2 ka kc2 v0 v1 v2 v3 (own_L1 v0) (1 : Int32) v1 s8_8 n0 v0 X8 hx hZ hw hby hml hown e8 FV_a1_10 V8 hl1 ⟨by decide, by decide⟩ rfl hz1 ne_a1_ob2 ho8 gn_ob2 N8
  have K11 : Keep h0 h11 [] := K8.trans Kt11 (allS (Or.inr bo_ob2) all0)
  have pre12 : ∀ t, Steps p.tables e below (T11.setTop (mkF m 21 #[.val (.ref a1), .val (.ref ob2), .val (.int (7 : Int32)), .val (.ref a1), .val (.int (4 : Int32)), .val (.int (2 : Int32)), .val (.long v1), .second, s8_11] [])) t → Steps p.tables e below (s₁.setTop (entryFrame m #[(.ref a1)] 9)) t := fun t k => pre9 t (by
    show Steps p.tables e below (T8.setTop (mkF m 21 #[.val (.ref a1), .val (.ref ob2), .val (.int (7 : Int32)), .val (.ref a1), .val (.int (4 : Int32)), .val (.int (1 : Int32)), .val (.long v0), .second, s8_8] [])) _
    refine st11 _ ?_
    exact k)
  have FV_a1_13 : Arv Z h11 a1 ka .long (4 : Int32) [(.long v0), (.long v1), (.long v2), (.long v3)] (.long (0 : Int64)) := (FV_a1_10.keep Kt11 (ninS ne_a1_ob2 nin0))
  obtain ⟨T14, h14, lo14, s8_14, X14, e14, ho14, Kt14, V14, N14, st14⟩ := own_turnB a1 ob2 ka kc2 v0 v1 v2 v3 (own_L2 v0 v1) (2 : Int32) v2 s8_11 n0 v1 X11 hx hZ hw hby hml hown e11 FV_a1_13 V11 hl2 ⟨by decide, by decide⟩ rfl hz2 ne_a1_ob2 ho11 gn_ob2 N11
  have K14 : Keep h0 h14 [] := K11.trans Kt14 (allS (Or.inr bo_ob2) all0)
  have pre15 : ∀ t, Steps p.tables e below (T14.setTop (mkF m 21 #[.val (.ref a1), .val (.ref ob2), .val (.int (7 : Int32)), .val (.ref a1), .val (.int (4 : Int32)), .val (.int (3 : Int32)), .val (.long v2), .second, s8_14] [])) t → Steps p.tables e below (s₁.setTop (entryFrame m #[(.ref a1)] 9)) t := fun t k => pre12 t (by
    show Steps p.tables e below (T11.setTop (mkF m 21 #[.val (.ref a1), .val (.ref ob2), .val (.int (7 : Int32)), .val (.ref a1), .val (.int (4 : Int32)), .val (.int (2 : Int32)), .val (.long v1), .second, s8_11] [])) _
    refine st14 _ ?_
    exact k)
  have FV_a1_16 : Arv Z h14 a1 ka .long (4 : Int32) [(.long v0), (.long v1), (.long v2), (.long v3)] (.long (0 : Int64)) := (FV_a1_13.keep Kt14 (ninS ne_a1_ob2 nin0))
  obtain ⟨T17, h17, lo17, s8_17, X17, e17, ho17, Kt17, V17, N17, st17⟩ := own_turnB a1 ob2 ka kc2 v0 v1 v2 v3 (own_L3 v0 v1 v2) (3 : Int32) v3 s8_14 n0 v2 X14 hx hZ hw hby hml hown e14 FV_a1_16 V14 hl3 ⟨by decide, by decide⟩ rfl hz3 ne_a1_ob2 ho14 gn_ob2 N14
  have K17 : Keep h0 h17 [] := K14.trans Kt17 (allS (Or.inr bo_ob2) all0)
  obtain ⟨fs, hr, hrun, hended, hW, hsame⟩ := X17.leave (v := some (.ref ob2)) (fun h => by rw [Bd.returns] at h; cases h)
  refine ⟨_, _, pre15 _ ?_, hrun, hended, _, _, rfl, ?_, ⟨_, rfl⟩, hW, hsame.mono (by decide) (by decide)⟩
  · show Steps p.tables e below (T14.setTop (mkF m 21 #[.val (.ref a1), .val (.ref ob2), .val (.int (7 : Int32)), .val (.ref a1), .val (.int (4 : Int32)), .val (.int (3 : Int32)), .val (.long v2), .second, s8_14] [])) _
    refine st17 _ ?_
    show Steps p.tables e below (T17.setTop (mkF m 21 #[.val (.ref a1), .val (.ref ob2), .val (.int (7 : Int32)), .val (.ref a1), .val (.int (4 : Int32)), .val (.int (4 : Int32)), .val (.long v3), .second, s8_17] [])) _
    refine XS.iload X17.here hx rfl (hb hby own_d1_21) rfl ?_
    show Steps p.tables e below (T17.setTop (mkF m 23 #[.val (.ref a1), .val (.ref ob2), .val (.int (7 : Int32)), .val (.ref a1), .val (.int (4 : Int32)), .val (.int (4 : Int32)), .val (.long v3), .second, s8_17] [(.int (4 : Int32))])) _
    refine XS.iload X17.here hx rfl (hb hby own_d1_23) rfl ?_
    show Steps p.tables e below (T17.setTop (mkF m 25 #[.val (.ref a1), .val (.ref ob2), .val (.int (7 : Int32)), .val (.ref a1), .val (.int (4 : Int32)), .val (.int (4 : Int32)), .val (.long v3), .second, s8_17] [(.int (4 : Int32)), (.int (4 : Int32))])) _
    refine XS.icmpYes X17.here hx rfl (pc0 := 25) (pc' := 83) rfl (hb hby own_d1_25) rfl (XT.ii_ge_t (by decide)) (by decide) (by decide) ?_
    show Steps p.tables e below (T17.setTop (mkF m 83 #[.val (.ref a1), .val (.ref ob2), .val (.int (7 : Int32)), .val (.ref a1), .val (.int (4 : Int32)), .val (.int (4 : Int32)), .val (.long v3), .second, s8_17] [])) _
    refine XS.aloadN X17.here hx rfl (hb hby own_d1_83) rfl rfl ?_
    show Steps p.tables e below (T17.setTop (mkF m 84 #[.val (.ref a1), .val (.ref ob2), .val (.int (7 : Int32)), .val (.ref a1), .val (.int (4 : Int32)), .val (.int (4 : Int32)), .val (.long v3), .second, s8_17] [(.ref ob2)])) _
    exact retOut X17 hx Bd.returns rfl (Or.inr (Or.inr (Or.inr (Or.inr ⟨rfl, rfl, rfl⟩)))) (hb hby own_d1_84) hr
  · show own_Q1 Z a1 ka v0 v1 v2 v3 h0 n0 _ T17.heap _
    rw [e17]
    exact ⟨ob2, kc2, rfl, N17, K17, V17, bo_ob2⟩
theorem own_d3_0 : decode method_3_code 0 = .ok (.lload_n 0, 1) := by decide +kernel
theorem own_d3_1 : decode method_3_code 1 = .ok (.lconst 0, 1) := by decide +kernel
theorem own_d3_2 : decode method_3_code 2 = .ok (.lcmp, 1) := by decide +kernel
theorem own_d3_3 : decode method_3_code 3 = .ok (.ifCond .eq 7, 3) := by decide +kernel
theorem own_d3_6 : decode method_3_code 6 = .ok (.iconst 1, 1) := by decide +kernel
theorem own_d3_7 : decode method_3_code 7 = .ok (.goto 4, 3) := by decide +kernel
theorem own_d3_10 : decode method_3_code 10 = .ok (.iconst 0, 1) := by decide +kernel
theorem own_d3_11 : decode method_3_code 11 = .ok (.ireturn, 1) := by decide +kernel
theorem own_pn3 : plainName "com/example/tracegauge/tracegauge/MarkingSetDoubledPinLaw" = true := by first | (simp [plainName, overriddenIn]; done) | decide +kernel
theorem own_ef3 (m : MethodId) (j1 : Int64) : entryFrame m #[(.long j1)] 2 = mkF m 0 #[.val (.long j1), .second] [] := by first | (simp [entryFrame, mkF, argsToLocals, Value.category]; done) | rfl
def own_Q3 (Z : State) (j1 : Int64) (h0 : Heap) (n0 : Nat) (v : Option Value) (h : Heap) (L : List Loc) : Prop := (v = some (.int (own_nz j1))) ∧ (Fr n0 L) ∧ (h = h0)
set_option maxRecDepth 65536 in
set_option maxHeartbeats 40000000 in
theorem own_rm3 (l : Launch) (Z : State) (a0 : Array Value) (hw : ∀ d ∈ tables_1, d.before a0 Z = true) (ws : List Jvm.Cond) (j1 : Int64) (h0 : Heap) (n0 : Nat) (Z0 : n0 ≤ h0.size)  :
    MetFree l (⟨"com/example/tracegauge/tracegauge/MarkingSetDoubledPinLaw", "nz", "(J)I"⟩ : MethodName) (head1 (Jvm.Cond.code (⟨"com/example/tracegauge/tracegauge/MarkingSetDoubledPinLaw", "nz", "(J)I"⟩ : MethodName) method_3_code 2 (some .int) :: ws) ({ frames := 0, cells := 0, slots := 0, locals := 0 } : Room)) (fun ar_ U_ => ar_ = #[(.long j1)] ∧ Z.Warmed39 U_.vm ∧ U_.heap = h0) (fun _ _ _ _ _ => True) (fun _ U_ o_ U_' => ∃ v_ L_, o_ = .returned v_ ∧ own_Q3 Z j1 h0 n0 v_ U_'.heap L_ ∧ FrameEnd U_ o_ U_' L_ ({ frames := 0, cells := 0, slots := 0, locals := 0 } : Room).cells ({ frames := 0, cells := 0, slots := 0, locals := 0 } : Room).slots) := by
  refine MetFree.of_bodySF (plainFor_of_name own_pn3) hisR ?_
  intro p e s m args below meth c s₁ Bd hml0 hP hK
  obtain ⟨rfl, hZ, hh⟩ := hP
  have hx := Bd.exec
  have hby := Bd.bytes
  have hml : c.maxLocals = 2 := hml0
  have hown : s.vm.findClass "com/example/tracegauge/tracegauge/MarkingSetDoubledPinLaw" = some m.cls := findClass_of_methodNamed Bd.named
  have hnm := (name_of_methodNamed Bd.named Bd.method).1
  have X0 : Stand p l e ({ frames := 0, cells := 0, slots := 0, locals := 0 } : Room) s m #[(.long j1)] below meth c s₁ [] 0 0 := Stand.of_body Bd
  have e0 : s₁.heap = h0 := by rw [← hh, Bd.state]; rfl
  have N0 := Fr.nil n0
  have pre0 : ∀ t, Steps p.tables e below (s₁.setTop (mkF m 0 #[.val (.long j1), .second] [])) t → Steps p.tables e below (s₁.setTop (entryFrame m #[(.long j1)] 2)) t := fun t k => castTop (own_ef3 m j1) k
  have pre1 : ∀ t, Steps p.tables e below (s₁.setTop (mkF m 3 #[.val (.long j1), .second] [(.int (XT.cmpL j1 (0 : Int64)))])) t → Steps p.tables e below (s₁.setTop (entryFrame m #[(.long j1)] 2)) t := fun t k => pre0 t (by
    show Steps p.tables e below (s₁.setTop (mkF m 0 #[.val (.long j1), .second] [])) _
    refine XT.lloadN X0.here hx rfl (hb hby own_d3_0) rfl ?_
    show Steps p.tables e below (s₁.setTop (mkF m 1 #[.val (.long j1), .second] [(.long j1)])) _
    refine XT.lconstV X0.here hx rfl (0 : Int64) (hb hby own_d3_1) rfl ?_
    show Steps p.tables e below (s₁.setTop (mkF m 2 #[.val (.long j1), .second] [(.long (0 : Int64)), (.long j1)])) _
    refine XT.lcmp X0.here hx rfl (hb hby own_d3_2) rfl ?_
    exact k)
  by_cases h3 : j1 = (0 : Int64)
  · obtain ⟨fs, hr, hrun, hended, hW, hsame⟩ := X0.leave (v := some (.int (0 : Int32))) (fun h => by rw [Bd.returns] at h; cases h)
    refine ⟨_, _, pre1 _ ?_, hrun, hended, _, _, rfl, ?_, ⟨_, rfl⟩, hW, hsame.mono (by decide) (by decide)⟩
    · show Steps p.tables e below (s₁.setTop (mkF m 3 #[.val (.long j1), .second] [(.int (XT.cmpL j1 (0 : Int64)))])) _
      refine XS.ifYes X0.here hx rfl (pc0 := 3) (pc' := 10) rfl (hb hby own_d3_3) rfl (XT.ll_eq_t h3) (by decide) (by decide) ?_
      show Steps p.tables e below (s₁.setTop (mkF m 10 #[.val (.long j1), .second] [])) _
      refine XT.iconstV X0.here hx rfl (0 : Int32) (hb hby own_d3_10) rfl ?_
      show Steps p.tables e below (s₁.setTop (mkF m 11 #[.val (.long j1), .second] [(.int (0 : Int32))])) _
      exact retOut X0 hx (t := .int) Bd.returns rfl (Or.inl ⟨rfl, Or.inl rfl, _, rfl⟩) (hb hby own_d3_11) hr
    · show own_Q3 Z j1 h0 n0 _ s₁.heap _
      exact ⟨by unfold own_nz; rw [if_pos h3], N0, e0⟩
  · obtain ⟨fs, hr, hrun, hended, hW, hsame⟩ := X0.leave (v := some (.int (1 : Int32))) (fun h => by rw [Bd.returns] at h; cases h)
    refine ⟨_, _, pre1 _ ?_, hrun, hended, _, _, rfl, ?_, ⟨_, rfl⟩, hW, hsame.mono (by decide) (by decide)⟩
    · show Steps p.tables e below (s₁.setTop (mkF m 3 #[.val (.long j1), .second] [(.int (XT.cmpL j1 (0 : Int64)))])) _
      refine XS.ifNo X0.here hx rfl (hb hby own_d3_3) rfl (XT.ll_eq_f h3) ?_
      show Steps p.tables e below (s₁.setTop (mkF m 6 #[.val (.long j1), .second] [])) _
      refine XT.iconstV X0.here hx rfl (1 : Int32) (hb hby own_d3_6) rfl ?_
      show Steps p.tables e below (s₁.setTop (mkF m 7 #[.val (.long j1), .second] [(.int (1 : Int32))])) _
      refine XS.goto X0.here hx rfl (pc0 := 7) (pc' := 11) rfl (hb hby own_d3_7) (by decide) (by decide) ?_
      show Steps p.tables e below (s₁.setTop (mkF m 11 #[.val (.long j1), .second] [(.int (1 : Int32))])) _
      exact retOut X0 hx (t := .int) Bd.returns rfl (Or.inl ⟨rfl, Or.inl rfl, _, rfl⟩) (hb hby own_d3_11) hr
    · show own_Q3 Z j1 h0 n0 _ s₁.heap _
      exact ⟨by unfold own_nz; rw [if_neg h3], N0, e0⟩
theorem own_d6_0 : decode method_6_code 0 = .ok (.lload_n 0, 1) := by decide +kernel
theorem own_d6_1 : decode method_6_code 1 = .ok (.lload_n 2, 1) := by decide +kernel
theorem own_d6_2 : decode method_6_code 2 = .ok (.lcmp, 1) := by decide +kernel
theorem own_d6_3 : decode method_6_code 3 = .ok (.ifCond .ne 7, 3) := by decide +kernel
theorem own_d6_6 : decode method_6_code 6 = .ok (.iconst 1, 1) := by decide +kernel
theorem own_d6_7 : decode method_6_code 7 = .ok (.goto 4, 3) := by decide +kernel
theorem own_d6_10 : decode method_6_code 10 = .ok (.iconst 0, 1) := by decide +kernel
theorem own_d6_11 : decode method_6_code 11 = .ok (.ireturn, 1) := by decide +kernel
theorem own_pn6 : plainName "com/example/tracegauge/tracegauge/MarkingSetDoubledPinLaw" = true := by first | (simp [plainName, overriddenIn]; done) | decide +kernel
theorem own_ef6 (m : MethodId) (j1 : Int64) (j2 : Int64) : entryFrame m #[(.long j1), (.long j2)] 4 = mkF m 0 #[.val (.long j1), .second, .val (.long j2), .second] [] := by first | (simp [entryFrame, mkF, argsToLocals, Value.category]; done) | rfl
def own_Q6 (Z : State) (j1 : Int64) (j2 : Int64) (h0 : Heap) (n0 : Nat) (v : Option Value) (h : Heap) (L : List Loc) : Prop := (v = some (.int (own_eqv j1 j2))) ∧ (Fr n0 L) ∧ (h = h0)
set_option maxRecDepth 65536 in
set_option maxHeartbeats 40000000 in
theorem own_rm6 (l : Launch) (Z : State) (a0 : Array Value) (hw : ∀ d ∈ tables_1, d.before a0 Z = true) (ws : List Jvm.Cond) (j1 : Int64) (j2 : Int64) (h0 : Heap) (n0 : Nat) (Z0 : n0 ≤ h0.size)  :
    MetFree l (⟨"com/example/tracegauge/tracegauge/MarkingSetDoubledPinLaw", "eq", "(JJ)I"⟩ : MethodName) (head1 (Jvm.Cond.code (⟨"com/example/tracegauge/tracegauge/MarkingSetDoubledPinLaw", "eq", "(JJ)I"⟩ : MethodName) method_6_code 4 (some .int) :: ws) ({ frames := 0, cells := 0, slots := 0, locals := 0 } : Room)) (fun ar_ U_ => ar_ = #[(.long j1), (.long j2)] ∧ Z.Warmed39 U_.vm ∧ U_.heap = h0) (fun _ _ _ _ _ => True) (fun _ U_ o_ U_' => ∃ v_ L_, o_ = .returned v_ ∧ own_Q6 Z j1 j2 h0 n0 v_ U_'.heap L_ ∧ FrameEnd U_ o_ U_' L_ ({ frames := 0, cells := 0, slots := 0, locals := 0 } : Room).cells ({ frames := 0, cells := 0, slots := 0, locals := 0 } : Room).slots) := by
  refine MetFree.of_bodySF (plainFor_of_name own_pn6) hisR ?_
  intro p e s m args below meth c s₁ Bd hml0 hP hK
  obtain ⟨rfl, hZ, hh⟩ := hP
  have hx := Bd.exec
  have hby := Bd.bytes
  have hml : c.maxLocals = 4 := hml0
  have hown : s.vm.findClass "com/example/tracegauge/tracegauge/MarkingSetDoubledPinLaw" = some m.cls := findClass_of_methodNamed Bd.named
  have hnm := (name_of_methodNamed Bd.named Bd.method).1
  have X0 : Stand p l e ({ frames := 0, cells := 0, slots := 0, locals := 0 } : Room) s m #[(.long j1), (.long j2)] below meth c s₁ [] 0 0 := Stand.of_body Bd
  have e0 : s₁.heap = h0 := by rw [← hh, Bd.state]; rfl
  have N0 := Fr.nil n0
  have pre0 : ∀ t, Steps p.tables e below (s₁.setTop (mkF m 0 #[.val (.long j1), .second, .val (.long j2), .second] [])) t → Steps p.tables e below (s₁.setTop (entryFrame m #[(.long j1), (.long j2)] 4)) t := fun t k => castTop (own_ef6 m j1 j2) k
  have pre1 : ∀ t, Steps p.tables e below (s₁.setTop (mkF m 3 #[.val (.long j1), .second, .val (.long j2), .second] [(.int (XT.cmpL j1 j2))])) t → Steps p.tables e below (s₁.setTop (entryFrame m #[(.long j1), (.long j2)] 4)) t := fun t k => pre0 t (by
    show Steps p.tables e below (s₁.setTop (mkF m 0 #[.val (.long j1), .second, .val (.long j2), .second] [])) _
    refine XT.lloadN X0.here hx rfl (hb hby own_d6_0) rfl ?_
    show Steps p.tables e below (s₁.setTop (mkF m 1 #[.val (.long j1), .second, .val (.long j2), .second] [(.long j1)])) _
    refine XT.lloadN X0.here hx rfl (hb hby own_d6_1) rfl ?_
    show Steps p.tables e below (s₁.setTop (mkF m 2 #[.val (.long j1), .second, .val (.long j2), .second] [(.long j2), (.long j1)])) _
    refine XT.lcmp X0.here hx rfl (hb hby own_d6_2) rfl ?_
    exact k)
  by_cases h3 : j1 = j2
  · obtain ⟨fs, hr, hrun, hended, hW, hsame⟩ := X0.leave (v := some (.int (1 : Int32))) (fun h => by rw [Bd.returns] at h; cases h)
    refine ⟨_, _, pre1 _ ?_, hrun, hended, _, _, rfl, ?_, ⟨_, rfl⟩, hW, hsame.mono (by decide) (by decide)⟩
    · show Steps p.tables e below (s₁.setTop (mkF m 3 #[.val (.long j1), .second, .val (.long j2), .second] [(.int (XT.cmpL j1 j2))])) _
      refine XS.ifNo X0.here hx rfl (hb hby own_d6_3) rfl (XT.ll_ne_f h3) ?_
      show Steps p.tables e below (s₁.setTop (mkF m 6 #[.val (.long j1), .second, .val (.long j2), .second] [])) _
      refine XT.iconstV X0.here hx rfl (1 : Int32) (hb hby own_d6_6) rfl ?_
      show Steps p.tables e below (s₁.setTop (mkF m 7 #[.val (.long j1), .second, .val (.long j2), .second] [(.int (1 : Int32))])) _
      refine XS.goto X0.here hx rfl (pc0 := 7) (pc' := 11) rfl (hb hby own_d6_7) (by decide) (by decide) ?_
      show Steps p.tables e below (s₁.setTop (mkF m 11 #[.val (.long j1), .second, .val (.long j2), .second] [(.int (1 : Int32))])) _
      exact retOut X0 hx (t := .int) Bd.returns rfl (Or.inl ⟨rfl, Or.inl rfl, _, rfl⟩) (hb hby own_d6_11) hr
    · show own_Q6 Z j1 j2 h0 n0 _ s₁.heap _
      exact ⟨by unfold own_eqv; rw [if_pos h3], N0, e0⟩
  · obtain ⟨fs, hr, hrun, hended, hW, hsame⟩ := X0.leave (v := some (.int (0 : Int32))) (fun h => by rw [Bd.returns] at h; cases h)
    refine ⟨_, _, pre1 _ ?_, hrun, hended, _, _, rfl, ?_, ⟨_, rfl⟩, hW, hsame.mono (by decide) (by decide)⟩
    · show Steps p.tables e below (s₁.setTop (mkF m 3 #[.val (.long j1), .second, .val (.long j2), .second] [(.int (XT.cmpL j1 j2))])) _
      refine XS.ifYes X0.here hx rfl (pc0 := 3) (pc' := 10) rfl (hb hby own_d6_3) rfl (XT.ll_ne_t h3) (by decide) (by decide) ?_
      show Steps p.tables e below (s₁.setTop (mkF m 10 #[.val (.long j1), .second, .val (.long j2), .second] [])) _
      refine XT.iconstV X0.here hx rfl (0 : Int32) (hb hby own_d6_10) rfl ?_
      show Steps p.tables e below (s₁.setTop (mkF m 11 #[.val (.long j1), .second, .val (.long j2), .second] [(.int (0 : Int32))])) _
      exact retOut X0 hx (t := .int) Bd.returns rfl (Or.inl ⟨rfl, Or.inl rfl, _, rfl⟩) (hb hby own_d6_11) hr
    · show own_Q6 Z j1 j2 h0 n0 _ s₁.heap _
      exact ⟨by unfold own_eqv; rw [if_neg h3], N0, e0⟩
theorem own_d2_0 : decode method_4_code 0 = .ok (.aload_n 0, 1) := by decide +kernel
theorem own_d2_1 : decode method_4_code 1 = .ok (.iconst 0, 1) := by decide +kernel
theorem own_d2_2 : decode method_4_code 2 = .ok (.laload, 1) := by decide +kernel
theorem own_d2_3 : decode method_4_code 3 = .ok (.invokestatic 30, 3) := by decide +kernel
theorem own_d2_6 : decode method_4_code 6 = .ok (.aload_n 0, 1) := by decide +kernel
theorem own_d2_7 : decode method_4_code 7 = .ok (.iconst 1, 1) := by decide +kernel
theorem own_d2_8 : decode method_4_code 8 = .ok (.laload, 1) := by decide +kernel
theorem own_d2_9 : decode method_4_code 9 = .ok (.invokestatic 30, 3) := by decide +kernel
theorem own_d2_12 : decode method_4_code 12 = .ok (.iadd, 1) := by decide +kernel
theorem own_d2_13 : decode method_4_code 13 = .ok (.aload_n 0, 1) := by decide +kernel
theorem own_d2_14 : decode method_4_code 14 = .ok (.iconst 2, 1) := by decide +kernel
theorem own_d2_15 : decode method_4_code 15 = .ok (.laload, 1) := by decide +kernel
theorem own_d2_16 : decode method_4_code 16 = .ok (.invokestatic 30, 3) := by decide +kernel
theorem own_d2_19 : decode method_4_code 19 = .ok (.iadd, 1) := by decide +kernel
theorem own_d2_20 : decode method_4_code 20 = .ok (.aload_n 0, 1) := by decide +kernel
theorem own_d2_21 : decode method_4_code 21 = .ok (.iconst 3, 1) := by decide +kernel
theorem own_d2_22 : decode method_4_code 22 = .ok (.laload, 1) := by decide +kernel
theorem own_d2_23 : decode method_4_code 23 = .ok (.invokestatic 30, 3) := by decide +kernel
theorem own_d2_26 : decode method_4_code 26 = .ok (.iadd, 1) := by decide +kernel
theorem own_d2_27 : decode method_4_code 27 = .ok (.ireturn, 1) := by decide +kernel
theorem own_pn2 : plainName "com/example/tracegauge/tracegauge/MarkingSetDoubledPinLaw" = true := by first | (simp [plainName, overriddenIn]; done) | decide +kernel
theorem own_ef2 (m : MethodId) (a1 : Addr) : entryFrame m #[(.ref a1)] 1 = mkF m 0 #[.val (.ref a1)] [] := by first | (simp [entryFrame, mkF, argsToLocals, Value.category]; done) | rfl
def own_Q2 (Z : State) (a1 : Addr) (ka : ClassId) (v0 : Int64) (v1 : Int64) (v2 : Int64) (v3 : Int64) (h0 : Heap) (n0 : Nat) (v : Option Value) (h : Heap) (L : List Loc) : Prop := (v = some (.int ((((own_nz v0) + (own_nz v1)) + (own_nz v2)) + (own_nz v3)))) ∧ (Fr n0 L) ∧ (h = h0)
set_option maxRecDepth 65536 in
set_option maxHeartbeats 40000000 in
theorem own_rm2 (l : Launch) (Z : State) (a0 : Array Value) (hw : ∀ d ∈ tables_1, d.before a0 Z = true) (ws : List Jvm.Cond) (a1 : Addr) (ka : ClassId) (v0 : Int64) (v1 : Int64) (v2 : Int64) (v3 : Int64) (h0 : Heap) (n0 : Nat) (Z0 : n0 ≤ h0.size) (P_V_a1 : Arv Z h0 a1 ka .long (4 : Int32) [(.long v0), (.long v1), (.long v2), (.long v3)] (.long (0 : Int64))) :
    MetFree l (⟨"com/example/tracegauge/tracegauge/MarkingSetDoubledPinLaw", "nonZero4", "([J)I"⟩ : MethodName) (head1 (Jvm.Cond.code (⟨"com/example/tracegauge/tracegauge/MarkingSetDoubledPinLaw", "nonZero4", "([J)I"⟩ : MethodName) method_4_code 1 (some .int) :: ws) ({ frames := 1, cells := 0, slots := 0, locals := 14 } : Room)) (fun ar_ U_ => ar_ = #[(.ref a1)] ∧ Z.Warmed39 U_.vm ∧ U_.heap = h0) (fun _ _ _ _ _ => True) (fun _ U_ o_ U_' => ∃ v_ L_, o_ = .returned v_ ∧ own_Q2 Z a1 ka v0 v1 v2 v3 h0 n0 v_ U_'.heap L_ ∧ FrameEnd U_ o_ U_' L_ ({ frames := 1, cells := 0, slots := 0, locals := 14 } : Room).cells ({ frames := 1, cells := 0, slots := 0, locals := 14 } : Room).slots) := by
  refine MetFree.of_bodySF (plainFor_of_name own_pn2) hisR ?_
  intro p e s m args below meth c s₁ Bd hml0 hP hK
  obtain ⟨rfl, hZ, hh⟩ := hP
  have hx := Bd.exec
  have hby := Bd.bytes
  have hml : c.maxLocals = 1 := hml0
  have hown : s.vm.findClass "com/example/tracegauge/tracegauge/MarkingSetDoubledPinLaw" = some m.cls := findClass_of_methodNamed Bd.named
  have hnm := (name_of_methodNamed Bd.named Bd.method).1
  have X0 : Stand p l e ({ frames := 1, cells := 0, slots := 0, locals := 14 } : Room) s m #[(.ref a1)] below meth c s₁ [] 0 0 := Stand.of_body Bd
  have e0 : s₁.heap = h0 := by rw [← hh, Bd.state]; rfl
  have N0 := Fr.nil n0
  have pre0 : ∀ t, Steps p.tables e below (s₁.setTop (mkF m 0 #[.val (.ref a1)] [])) t → Steps p.tables e below (s₁.setTop (entryFrame m #[(.ref a1)] 1)) t := fun t k => castTop (own_ef2 m a1) k
  obtain ⟨cl1, Ar1, Q1, Sz1, Nn1, Ha1, Gf1⟩ := id P_V_a1
  have ghin1 : ¬ ((0 : Int32) < 0 ∨ cl1.slots.size ≤ ((0 : Int32)).toNatClampNeg) := inb_of Sz1 ⟨by decide, by decide⟩
  have ghat1 : cl1.slots[((0 : Int32)).toNatClampNeg]? = some (.long v0) := Ha1.at ghin1 rfl
  obtain ⟨_, _, ⟨T2, tL2, tk2, tn2⟩, -, X2, ⟨Lc2, hQ2, tl2, ty2, tz2⟩, st2⟩ := Jvm.LawKit.callS X0 hx (y := (⟨"com/example/tracegauge/tracegauge/MarkingSetDoubledPinLaw", "nz", "(J)I"⟩ : MethodName)) hown (mvT hZ (hw _ (List.mem_of_getElem? (i := 9) rfl))) (mvT hZ (hw _ (List.mem_of_getElem? (i := 10) rfl))) (mvT hZ (hw _ (List.mem_of_getElem? (i := 7) rfl))) (mvT hZ (hw _ (List.mem_of_getElem? (i := 11) rfl))) (by decide) (backOf (W := 0) (own_rm3 l Z a0 hw [] v0 h0 n0 Z0 ) hZ (hw _ (List.mem_of_getElem? (i := 11) rfl)) (hw _ (List.mem_of_getElem? (i := 7) rfl)) (by decide) (by decide)) (g := (mkF m 3 #[.val (.ref a1)] [(.long v0)])) rfl (by rw [hml]; rfl) (argsL := [(.long v0)]) (rest := []) (lenOf own_pd0 rfl) rfl (by show 2 * 0 + _ ≤ _; exact Nat.le_of_eq rfl) (hb hby own_d2_3) (fun _ _ => ⟨rfl, e0, (by decide : 0 + 0 ≤ _), (by decide : 0 + 0 ≤ _)⟩)
  dsimp only [Pt.U, Pt.locs, Pt.cells, Pt.slots] at X2 tl2 ty2 tz2 st2 hQ2
  rw [tl2, ty2, tz2] at X2
  obtain ⟨rfl, Nq2, K2⟩ := hQ2
  have N2 := Fr.app N0 Nq2
  obtain ⟨cl3, Ar3, Q3, Sz3, Nn3, Ha3, Gf3⟩ := id P_V_a1
  have ghin3 : ¬ ((1 : Int32) < 0 ∨ cl3.slots.size ≤ ((1 : Int32)).toNatClampNeg) := inb_of Sz3 ⟨by decide, by decide⟩
  have ghat3 : cl3.slots[((1 : Int32)).toNatClampNeg]? = some (.long v1) := Ha3.at ghin3 rfl
  obtain ⟨_, _, ⟨T4, tL4, tk4, tn4⟩, -, X4, ⟨Lc4, hQ4, tl4, ty4, tz4⟩, st4⟩ := Jvm.LawKit.callS X2 hx (y := (⟨"com/example/tracegauge/tracegauge/MarkingSetDoubledPinLaw", "nz", "(J)I"⟩ : MethodName)) hown (mvT hZ (hw _ (List.mem_of_getElem? (i := 9) rfl))) (mvT hZ (hw _ (List.mem_of_getElem? (i := 10) rfl))) (mvT hZ (hw _ (List.mem_of_getElem? (i := 7) rfl))) (mvT hZ (hw _ (List.mem_of_getElem? (i := 11) rfl))) (by decide) (backOf (W := 1) (own_rm3 l Z a0 hw [] v1 h0 n0 Z0 ) hZ (hw _ (List.mem_of_getElem? (i := 11) rfl)) (hw _ (List.mem_of_getElem? (i := 7) rfl)) (by decide) (by decide)) (g := (mkF m 9 #[.val (.ref a1)] [(.long v1), (.int (own_nz v0))])) rfl (by rw [hml]; rfl) (argsL := [(.long v1)]) (rest := [(.int (own_nz v0))]) (lenOf own_pd0 rfl) rfl (by show 2 * 0 + _ ≤ _; exact Nat.le_of_eq rfl) (hb hby own_d2_9) (fun _ _ => ⟨rfl, K2, (by decide : 0 + 0 ≤ _), (by decide : 0 + 0 ≤ _)⟩)
  dsimp only [Pt.U, Pt.locs, Pt.cells, Pt.slots] at X4 tl4 ty4 tz4 st4 hQ4
  rw [tl4, ty4, tz4] at X4
  obtain ⟨rfl, Nq4, K4⟩ := hQ4
  have N4 := Fr.app N2 Nq4
  obtain ⟨cl5, Ar5, Q5, Sz5, Nn5, Ha5, Gf5⟩ := id P_V_a1
  have ghin5 : ¬ ((2 : Int32) < 0 ∨ cl5.slots.size ≤ ((2 : Int32)).toNatClampNeg) := inb_of Sz5 ⟨by decide, by decide⟩
  have ghat5 : cl5.slots[((2 : Int32)).toNatClampNeg]? = some (.long v2) := Ha5.at ghin5 rfl
  obtain ⟨_, _, ⟨T6, tL6, tk6, tn6⟩, -, X6, ⟨Lc6, hQ6, tl6, ty6, tz6⟩, st6⟩ := Jvm.LawKit.callS X4 hx (y := (⟨"com/example/tracegauge/tracegauge/MarkingSetDoubledPinLaw", "nz", "(J)I"⟩ : MethodName)) hown (mvT hZ (hw _ (List.mem_of_getElem? (i := 9) rfl))) (mvT hZ (hw _ (List.mem_of_getElem? (i := 10) rfl))) (mvT hZ (hw _ (List.mem_of_getElem? (i := 7) rfl))) (mvT hZ (hw _ (List.mem_of_getElem? (i := 11) rfl))) (by decide) (backOf (W := 1) (own_rm3 l Z a0 hw [] v2 h0 n0 Z0 ) hZ (hw _ (List.mem_of_getElem? (i := 11) rfl)) (hw _ (List.mem_of_getElem? (i := 7) rfl)) (by decide) (by decide)) (g := (mkF m 16 #[.val (.ref a1)] [(.long v2), (.int ((own_nz v0) + (own_nz v1)))])) rfl (by rw [hml]; rfl) (argsL := [(.long v2)]) (rest := [(.int ((own_nz v0) + (own_nz v1)))]) (lenOf own_pd0 rfl) rfl (by show 2 * 0 + _ ≤ _; exact Nat.le_of_eq rfl) (hb hby own_d2_16) (fun _ _ => ⟨rfl, K4, (by decide : 0 + 0 ≤ _), (by decide : 0 + 0 ≤ _)⟩)
  dsimp only [Pt.U, Pt.locs, Pt.cells, Pt.slots] at X6 tl6 ty6 tz6 st6 hQ6
  rw [tl6, ty6, tz6] at X6
  obtain ⟨rfl, Nq6, K6⟩ := hQ6
  have N6 := Fr.app N4 Nq6
  obtain ⟨cl7, Ar7, Q7, Sz7, Nn7, Ha7, Gf7⟩ := id P_V_a1
  have ghin7 : ¬ ((3 : Int32) < 0 ∨ cl7.slots.size ≤ ((3 : Int32)).toNatClampNeg) := inb_of Sz7 ⟨by decide, by decide⟩
  have ghat7 : cl7.slots[((3 : Int32)).toNatClampNeg]? = some (.long v3) := Ha7.at ghin7 rfl
  obtain ⟨_, _, ⟨T8, tL8, tk8, tn8⟩, -, X8, ⟨Lc8, hQ8, tl8, ty8, tz8⟩, st8⟩ := Jvm.LawKit.callS X6 hx (y := (⟨"com/example/tracegauge/tracegauge/MarkingSetDoubledPinLaw", "nz", "(J)I"⟩ : MethodName)) hown (mvT hZ (hw _ (List.mem_of_getElem? (i := 9) rfl))) (mvT hZ (hw _ (List.mem_of_getElem? (i := 10) rfl))) (mvT hZ (hw _ (List.mem_of_getElem? (i := 7) rfl))) (mvT hZ (hw _ (List.mem_of_getElem? (i := 11) rfl))) (by decide) (backOf (W := 1) (own_rm3 l Z a0 hw [] v3 h0 n0 Z0 ) hZ (hw _ (List.mem_of_getElem? (i := 11) rfl)) (hw _ (List.mem_of_getElem? (i := 7) rfl)) (by decide) (by decide)) (g := (mkF m 23 #[.val (.ref a1)] [(.long v3), (.int (((own_nz v0) + (own_nz v1)) + (own_nz v2)))])) rfl (by rw [hml]; rfl) (argsL := [(.long v3)]) (rest := [(.int (((own_nz v0) + (own_nz v1)) + (own_nz v2)))]) (lenOf own_pd0 rfl) rfl (by show 2 * 0 + _ ≤ _; exact Nat.le_of_eq rfl) (hb hby own_d2_23) (fun _ _ => ⟨rfl, K6, (by decide : 0 + 0 ≤ _), (by decide : 0 + 0 ≤ _)⟩)
  dsimp only [Pt.U, Pt.locs, Pt.cells, Pt.slots] at X8 tl8 ty8 tz8 st8 hQ8
  rw [tl8, ty8, tz8] at X8
  obtain ⟨rfl, Nq8, K8⟩ := hQ8
  have N8 := Fr.app N6 Nq8
  obtain ⟨fs, hr, hrun, hended, hW, hsame⟩ := X8.leave (v := some (.int ((((own_nz v0) + (own_nz v1)) + (own_nz v2)) + (own_nz v3)))) (fun h => by rw [Bd.returns] at h; cases h)
  refine ⟨_, _, pre0 _ ?_, hrun, hended, _, _, rfl, ?_, ⟨_, rfl⟩, hW, hsame.mono (by decide) (by decide)⟩
  · show Steps p.tables e below (s₁.setTop (mkF m 0 #[.val (.ref a1)] [])) _
    refine XS.aloadN X0.here hx rfl (hb hby own_d2_0) rfl rfl ?_
    show Steps p.tables e below (s₁.setTop (mkF m 1 #[.val (.ref a1)] [(.ref a1)])) _
    refine XT.iconstV X0.here hx rfl (0 : Int32) (hb hby own_d2_1) rfl ?_
    show Steps p.tables e below (s₁.setTop (mkF m 2 #[.val (.ref a1)] [(.int (0 : Int32)), (.ref a1)])) _
    refine X0.laload hx (j := (0 : Int32)) (v := (.long v0)) (by rw [e0]; exact Ar1.1) (State.isArrayOf_alike hZ.alike Ar1.2.1) Ar1.2.2 ghin1 ghat1 (g := (mkF m 2 #[.val (.ref a1)] [(.int (0 : Int32)), (.ref a1)])) rfl rfl (hb hby own_d2_2) _ ?_
    show Steps p.tables e below (s₁.setTop (mkF m 3 #[.val (.ref a1)] [(.long v0)])) _
    refine st2 _ ?_
    show Steps p.tables e below (T2.setTop (mkF m 6 #[.val (.ref a1)] [(.int (own_nz v0))])) _
    refine XS.aloadN X2.here hx rfl (hb hby own_d2_6) rfl rfl ?_
    show Steps p.tables e below (T2.setTop (mkF m 7 #[.val (.ref a1)] [(.ref a1), (.int (own_nz v0))])) _
    refine XT.iconstV X2.here hx rfl (1 : Int32) (hb hby own_d2_7) rfl ?_
    show Steps p.tables e below (T2.setTop (mkF m 8 #[.val (.ref a1)] [(.int (1 : Int32)), (.ref a1), (.int (own_nz v0))])) _
    refine X2.laload hx (j := (1 : Int32)) (v := (.long v1)) (by rw [K2]; exact Ar3.1) (State.isArrayOf_alike hZ.alike Ar3.2.1) Ar3.2.2 ghin3 ghat3 (g := (mkF m 8 #[.val (.ref a1)] [(.int (1 : Int32)), (.ref a1), (.int (own_nz v0))])) rfl rfl (hb hby own_d2_8) _ ?_
    show Steps p.tables e below (T2.setTop (mkF m 9 #[.val (.ref a1)] [(.long v1), (.int (own_nz v0))])) _
    refine st4 _ ?_
    show Steps p.tables e below (T4.setTop (mkF m 12 #[.val (.ref a1)] [(.int (own_nz v1)), (.int (own_nz v0))])) _
    refine XS.iadd X4.here hx rfl (hb hby own_d2_12) rfl ?_
    show Steps p.tables e below (T4.setTop (mkF m 13 #[.val (.ref a1)] [(.int ((own_nz v0) + (own_nz v1)))])) _
    refine XS.aloadN X4.here hx rfl (hb hby own_d2_13) rfl rfl ?_
    show Steps p.tables e below (T4.setTop (mkF m 14 #[.val (.ref a1)] [(.ref a1), (.int ((own_nz v0) + (own_nz v1)))])) _
    refine XT.iconstV X4.here hx rfl (2 : Int32) (hb hby own_d2_14) rfl ?_
    show Steps p.tables e below (T4.setTop (mkF m 15 #[.val (.ref a1)] [(.int (2 : Int32)), (.ref a1), (.int ((own_nz v0) + (own_nz v1)))])) _
    refine X4.laload hx (j := (2 : Int32)) (v := (.long v2)) (by rw [K4]; exact Ar5.1) (State.isArrayOf_alike hZ.alike Ar5.2.1) Ar5.2.2 ghin5 ghat5 (g := (mkF m 15 #[.val (.ref a1)] [(.int (2 : Int32)), (.ref a1), (.int ((own_nz v0) + (own_nz v1)))])) rfl rfl (hb hby own_d2_15) _ ?_
    show Steps p.tables e below (T4.setTop (mkF m 16 #[.val (.ref a1)] [(.long v2), (.int ((own_nz v0) + (own_nz v1)))])) _
    refine st6 _ ?_
    show Steps p.tables e below (T6.setTop (mkF m 19 #[.val (.ref a1)] [(.int (own_nz v2)), (.int ((own_nz v0) + (own_nz v1)))])) _
    refine XS.iadd X6.here hx rfl (hb hby own_d2_19) rfl ?_
    show Steps p.tables e below (T6.setTop (mkF m 20 #[.val (.ref a1)] [(.int (((own_nz v0) + (own_nz v1)) + (own_nz v2)))])) _
    refine XS.aloadN X6.here hx rfl (hb hby own_d2_20) rfl rfl ?_
    show Steps p.tables e below (T6.setTop (mkF m 21 #[.val (.ref a1)] [(.ref a1), (.int (((own_nz v0) + (own_nz v1)) + (own_nz v2)))])) _
    refine XT.iconstV X6.here hx rfl (3 : Int32) (hb hby own_d2_21) rfl ?_
    show Steps p.tables e below (T6.setTop (mkF m 22 #[.val (.ref a1)] [(.int (3 : Int32)), (.ref a1), (.int (((own_nz v0) + (own_nz v1)) + (own_nz v2)))])) _
    refine X6.laload hx (j := (3 : Int32)) (v := (.long v3)) (by rw [K6]; exact Ar7.1) (State.isArrayOf_alike hZ.alike Ar7.2.1) Ar7.2.2 ghin7 ghat7 (g := (mkF m 22 #[.val (.ref a1)] [(.int (3 : Int32)), (.ref a1), (.int (((own_nz v0) + (own_nz v1)) + (own_nz v2)))])) rfl rfl (hb hby own_d2_22) _ ?_
    show Steps p.tables e below (T6.setTop (mkF m 23 #[.val (.ref a1)] [(.long v3), (.int (((own_nz v0) + (own_nz v1)) + (own_nz v2)))])) _
    refine st8 _ ?_
    show Steps p.tables e below (T8.setTop (mkF m 26 #[.val (.ref a1)] [(.int (own_nz v3)), (.int (((own_nz v0) + (own_nz v1)) + (own_nz v2)))])) _
    refine XS.iadd X8.here hx rfl (hb hby own_d2_26) rfl ?_
    show Steps p.tables e below (T8.setTop (mkF m 27 #[.val (.ref a1)] [(.int ((((own_nz v0) + (own_nz v1)) + (own_nz v2)) + (own_nz v3)))])) _
    exact retOut X8 hx (t := .int) Bd.returns rfl (Or.inl ⟨rfl, Or.inl rfl, _, rfl⟩) (hb hby own_d2_27) hr
  · show own_Q2 Z a1 ka v0 v1 v2 v3 h0 n0 _ T8.heap _
    exact ⟨rfl, N8, K8⟩
theorem own_d4_0 : decode method_5_code 0 = .ok (.aload_n 0, 1) := by decide +kernel
theorem own_d4_1 : decode method_5_code 1 = .ok (.iconst 0, 1) := by decide +kernel
theorem own_d4_2 : decode method_5_code 2 = .ok (.laload, 1) := by decide +kernel
theorem own_d4_3 : decode method_5_code 3 = .ok (.invokestatic 30, 3) := by decide +kernel
theorem own_d4_6 : decode method_5_code 6 = .ok (.aload_n 0, 1) := by decide +kernel
theorem own_d4_7 : decode method_5_code 7 = .ok (.iconst 1, 1) := by decide +kernel
theorem own_d4_8 : decode method_5_code 8 = .ok (.laload, 1) := by decide +kernel
theorem own_d4_9 : decode method_5_code 9 = .ok (.invokestatic 30, 3) := by decide +kernel
theorem own_d4_12 : decode method_5_code 12 = .ok (.iadd, 1) := by decide +kernel
theorem own_d4_13 : decode method_5_code 13 = .ok (.aload_n 0, 1) := by decide +kernel
theorem own_d4_14 : decode method_5_code 14 = .ok (.iconst 2, 1) := by decide +kernel
theorem own_d4_15 : decode method_5_code 15 = .ok (.laload, 1) := by decide +kernel
theorem own_d4_16 : decode method_5_code 16 = .ok (.invokestatic 30, 3) := by decide +kernel
theorem own_d4_19 : decode method_5_code 19 = .ok (.iadd, 1) := by decide +kernel
theorem own_d4_20 : decode method_5_code 20 = .ok (.aload_n 0, 1) := by decide +kernel
theorem own_d4_21 : decode method_5_code 21 = .ok (.iconst 3, 1) := by decide +kernel
theorem own_d4_22 : decode method_5_code 22 = .ok (.laload, 1) := by decide +kernel
theorem own_d4_23 : decode method_5_code 23 = .ok (.invokestatic 30, 3) := by decide +kernel
theorem own_d4_26 : decode method_5_code 26 = .ok (.iadd, 1) := by decide +kernel
theorem own_d4_27 : decode method_5_code 27 = .ok (.aload_n 0, 1) := by decide +kernel
theorem own_d4_28 : decode method_5_code 28 = .ok (.iconst 4, 1) := by decide +kernel
theorem own_d4_29 : decode method_5_code 29 = .ok (.laload, 1) := by decide +kernel
theorem own_d4_30 : decode method_5_code 30 = .ok (.invokestatic 30, 3) := by decide +kernel
theorem own_d4_33 : decode method_5_code 33 = .ok (.iadd, 1) := by decide +kernel
theorem own_d4_34 : decode method_5_code 34 = .ok (.aload_n 0, 1) := by decide +kernel
theorem own_d4_35 : decode method_5_code 35 = .ok (.iconst 5, 1) := by decide +kernel
theorem own_d4_36 : decode method_5_code 36 = .ok (.laload, 1) := by decide +kernel
theorem own_d4_37 : decode method_5_code 37 = .ok (.invokestatic 30, 3) := by decide +kernel
theorem own_d4_40 : decode method_5_code 40 = .ok (.iadd, 1) := by decide +kernel
theorem own_d4_41 : decode method_5_code 41 = .ok (.aload_n 0, 1) := by decide +kernel
theorem own_d4_42 : decode method_5_code 42 = .ok (.bipush 6, 2) := by decide +kernel
theorem own_d4_44 : decode method_5_code 44 = .ok (.laload, 1) := by decide +kernel
theorem own_d4_45 : decode method_5_code 45 = .ok (.invokestatic 30, 3) := by decide +kernel
theorem own_d4_48 : decode method_5_code 48 = .ok (.iadd, 1) := by decide +kernel
theorem own_d4_49 : decode method_5_code 49 = .ok (.aload_n 0, 1) := by decide +kernel
theorem own_d4_50 : decode method_5_code 50 = .ok (.bipush 7, 2) := by decide +kernel
theorem own_d4_52 : decode method_5_code 52 = .ok (.laload, 1) := by decide +kernel
theorem own_d4_53 : decode method_5_code 53 = .ok (.invokestatic 30, 3) := by decide +kernel
theorem own_d4_56 : decode method_5_code 56 = .ok (.iadd, 1) := by decide +kernel
theorem own_d4_57 : decode method_5_code 57 = .ok (.ireturn, 1) := by decide +kernel
theorem own_pn4 : plainName "com/example/tracegauge/tracegauge/MarkingSetDoubledPinLaw" = true := by first | (simp [plainName, overriddenIn]; done) | decide +kernel
theorem own_ef4 (m : MethodId) (a1 : Addr) : entryFrame m #[(.ref a1)] 1 = mkF m 0 #[.val (.ref a1)] [] := by first | (simp [entryFrame, mkF, argsToLocals, Value.category]; done) | rfl
def own_Q4 (Z : State) (a1 : Addr) (kd : ClassId) (x0 : Int64) (x1 : Int64) (x2 : Int64) (x3 : Int64) (x4 : Int64) (x5 : Int64) (x6 : Int64) (x7 : Int64) (h0 : Heap) (n0 : Nat) (v : Option Value) (h : Heap) (L : List Loc) : Prop := (v = some (.int ((((((((own_nz x0) + (own_nz x1)) + (own_nz x2)) + (own_nz x3)) + (own_nz x4)) + (own_nz x5)) + (own_nz x6)) + (own_nz x7)))) ∧ (Fr n0 L) ∧ (h = h0)
set_option maxRecDepth 65536 in
set_option maxHeartbeats 40000000 in
theorem own_rm4 (l : Launch) (Z : State) (a0 : Array Value) (hw : ∀ d ∈ tables_1, d.before a0 Z = true) (ws : List Jvm.Cond) (a1 : Addr) (kd : ClassId) (x0 : Int64) (x1 : Int64) (x2 : Int64) (x3 : Int64) (x4 : Int64) (x5 : Int64) (x6 : Int64) (x7 : Int64) (h0 : Heap) (n0 : Nat) (Z0 : n0 ≤ h0.size) (P_V_a1 : Arv Z h0 a1 kd .long (8 : Int32) [(.long x0), (.long x1), (.long x2), (.long x3), (.long x4), (.long x5), (.long x6), (.long x7)] (.long (0 : Int64))) :
    MetFree l (⟨"com/example/tracegauge/tracegauge/MarkingSetDoubledPinLaw", "nonZero8", "([J)I"⟩ : MethodName) (head1 (Jvm.Cond.code (⟨"com/example/tracegauge/tracegauge/MarkingSetDoubledPinLaw", "nonZero8", "([J)I"⟩ : MethodName) method_5_code 1 (some .int) :: ws) ({ frames := 1, cells := 0, slots := 0, locals := 14 } : Room)) (fun ar_ U_ => ar_ = #[(.ref a1)] ∧ Z.Warmed39 U_.vm ∧ U_.heap = h0) (fun _ _ _ _ _ => True) (fun _ U_ o_ U_' => ∃ v_ L_, o_ = .returned v_ ∧ own_Q4 Z a1 kd x0 x1 x2 x3 x4 x5 x6 x7 h0 n0 v_ U_'.heap L_ ∧ FrameEnd U_ o_ U_' L_ ({ frames := 1, cells := 0, slots := 0, locals := 14 } : Room).cells ({ frames := 1, cells := 0, slots := 0, locals := 14 } : Room).slots) := by
  refine MetFree.of_bodySF (plainFor_of_name own_pn4) hisR ?_
  intro p e s m args below meth c s₁ Bd hml0 hP hK
  obtain ⟨rfl, hZ, hh⟩ := hP
  have hx := Bd.exec
  have hby := Bd.bytes
  have hml : c.maxLocals = 1 := hml0
  have hown : s.vm.findClass "com/example/tracegauge/tracegauge/MarkingSetDoubledPinLaw" = some m.cls := findClass_of_methodNamed Bd.named
  have hnm := (name_of_methodNamed Bd.named Bd.method).1
  have X0 : Stand p l e ({ frames := 1, cells := 0, slots := 0, locals := 14 } : Room) s m #[(.ref a1)] below meth c s₁ [] 0 0 := Stand.of_body Bd
  have e0 : s₁.heap = h0 := by rw [← hh, Bd.state]; rfl
  have N0 := Fr.nil n0
  have pre0 : ∀ t, Steps p.tables e below (s₁.setTop (mkF m 0 #[.val (.ref a1)] [])) t → Steps p.tables e below (s₁.setTop (entryFrame m #[(.ref a1)] 1)) t := fun t k => castTop (own_ef4 m a1) k
  obtain ⟨cl1, Ar1, Q1, Sz1, Nn1, Ha1, Gf1⟩ := id P_V_a1
  have ghin1 : ¬ ((0 : Int32) < 0 ∨ cl1.slots.size ≤ ((0 : Int32)).toNatClampNeg) := inb_of Sz1 ⟨by decide, by decide⟩
  have ghat1 : cl1.slots[((0 : Int32)).toNatClampNeg]? = some (.long x0) := Ha1.at ghin1 rfl
  obtain ⟨_, _, ⟨T2, tL2, tk2, tn2⟩, -, X2, ⟨Lc2, hQ2, tl2, ty2, tz2⟩, st2⟩ := Jvm.LawKit.callS X0 hx (y := (⟨"com/example/tracegauge/tracegauge/MarkingSetDoubledPinLaw", "nz", "(J)I"⟩ : MethodName)) hown (mvT hZ (hw _ (List.mem_of_getElem? (i := 9) rfl))) (mvT hZ (hw _ (List.mem_of_getElem? (i := 10) rfl))) (mvT hZ (hw _ (List.mem_of_getElem? (i := 7) rfl))) (mvT hZ (hw _ (List.mem_of_getElem? (i := 11) rfl))) (by decide) (backOf (W := 0) (own_rm3 l Z a0 hw [] x0 h0 n0 Z0 ) hZ (hw _ (List.mem_of_getElem? (i := 11) rfl)) (hw _ (List.mem_of_getElem? (i := 7) rfl)) (by decide) (by decide)) (g := (mkF m 3 #[.val (.ref a1)] [(.long x0)])) rfl (by rw [hml]; rfl) (argsL := [(.long x0)]) (rest := []) (lenOf own_pd0 rfl) rfl (by show 2 * 0 + _ ≤ _; exact Nat.le_of_eq rfl) (hb hby own_d4_3) (fun _ _ => ⟨rfl, e0, (by decide : 0 + 0 ≤ _), (by decide : 0 + 0 ≤ _)⟩)
  dsimp only [Pt.U, Pt.locs, Pt.cells, Pt.slots] at X2 tl2 ty2 tz2 st2 hQ2
  rw [tl2, ty2, tz2] at X2
  obtain ⟨rfl, Nq2, K2⟩ := hQ2
  have N2 := Fr.app N0 Nq2
  obtain ⟨cl3, Ar3, Q3, Sz3, Nn3, Ha3, Gf3⟩ := id P_V_a1
  have ghin3 : ¬ ((1 : Int32) < 0 ∨ cl3.slots.size ≤ ((1 : Int32)).toNatClampNeg) := inb_of Sz3 ⟨by decide, by decide⟩
  have ghat3 : cl3.slots[((1 : Int32)).toNatClampNeg]? = some (.long x1) := Ha3.at ghin3 rfl
  obtain ⟨_, _, ⟨T4, tL4, tk4, tn4⟩, -, X4, ⟨Lc4, hQ4, tl4, ty4, tz4⟩, st4⟩ := Jvm.LawKit.callS X2 hx (y := (⟨"com/example/tracegauge/tracegauge/MarkingSetDoubledPinLaw", "nz", "(J)I"⟩ : MethodName)) hown (mvT hZ (hw _ (List.mem_of_getElem? (i := 9) rfl))) (mvT hZ (hw _ (List.mem_of_getElem? (i := 10) rfl))) (mvT hZ (hw _ (List.mem_of_getElem? (i := 7) rfl))) (mvT hZ (hw _ (List.mem_of_getElem? (i := 11) rfl))) (by decide) (backOf (W := 1) (own_rm3 l Z a0 hw [] x1 h0 n0 Z0 ) hZ (hw _ (List.mem_of_getElem? (i := 11) rfl)) (hw _ (List.mem_of_getElem? (i := 7) rfl)) (by decide) (by decide)) (g := (mkF m 9 #[.val (.ref a1)] [(.long x1), (.int (own_nz x0))])) rfl (by rw [hml]; rfl) (argsL := [(.long x1)]) (rest := [(.int (own_nz x0))]) (lenOf own_pd0 rfl) rfl (by show 2 * 0 + _ ≤ _; exact Nat.le_of_eq rfl) (hb hby own_d4_9) (fun _ _ => ⟨rfl, K2, (by decide : 0 + 0 ≤ _), (by decide : 0 + 0 ≤ _)⟩)
  dsimp only [Pt.U, Pt.locs, Pt.cells, Pt.slots] at X4 tl4 ty4 tz4 st4 hQ4
  rw [tl4, ty4, tz4] at X4
  obtain ⟨rfl, Nq4, K4⟩ := hQ4
  have N4 := Fr.app N2 Nq4
  obtain ⟨cl5, Ar5, Q5, Sz5, Nn5, Ha5, Gf5⟩ := id P_V_a1
  have ghin5 : ¬ ((2 : Int32) < 0 ∨ cl5.slots.size ≤ ((2 : Int32)).toNatClampNeg) := inb_of Sz5 ⟨by decide, by decide⟩
  have ghat5 : cl5.slots[((2 : Int32)).toNatClampNeg]? = some (.long x2) := Ha5.at ghin5 rfl
  obtain ⟨_, _, ⟨T6, tL6, tk6, tn6⟩, -, X6, ⟨Lc6, hQ6, tl6, ty6, tz6⟩, st6⟩ := Jvm.LawKit.callS X4 hx (y := (⟨"com/example/tracegauge/tracegauge/MarkingSetDoubledPinLaw", "nz", "(J)I"⟩ : MethodName)) hown (mvT hZ (hw _ (List.mem_of_getElem? (i := 9) rfl))) (mvT hZ (hw _ (List.mem_of_getElem? (i := 10) rfl))) (mvT hZ (hw _ (List.mem_of_getElem? (i := 7) rfl))) (mvT hZ (hw _ (List.mem_of_getElem? (i := 11) rfl))) (by decide) (backOf (W := 1) (own_rm3 l Z a0 hw [] x2 h0 n0 Z0 ) hZ (hw _ (List.mem_of_getElem? (i := 11) rfl)) (hw _ (List.mem_of_getElem? (i := 7) rfl)) (by decide) (by decide)) (g := (mkF m 16 #[.val (.ref a1)] [(.long x2), (.int ((own_nz x0) + (own_nz x1)))])) rfl (by rw [hml]; rfl) (argsL := [(.long x2)]) (rest := [(.int ((own_nz x0) + (own_nz x1)))]) (lenOf own_pd0 rfl) rfl (by show 2 * 0 + _ ≤ _; exact Nat.le_of_eq rfl) (hb hby own_d4_16) (fun _ _ => ⟨rfl, K4, (by decide : 0 + 0 ≤ _), (by decide : 0 + 0 ≤ _)⟩)
  dsimp only [Pt.U, Pt.locs, Pt.cells, Pt.slots] at X6 tl6 ty6 tz6 st6 hQ6
  rw [tl6, ty6, tz6] at X6
  obtain ⟨rfl, Nq6, K6⟩ := hQ6
  have N6 := Fr.app N4 Nq6
  obtain ⟨cl7, Ar7, Q7, Sz7, Nn7, Ha7, Gf7⟩ := id P_V_a1
  have ghin7 : ¬ ((3 : Int32) < 0 ∨ cl7.slots.size ≤ ((3 : Int32)).toNatClampNeg) := inb_of Sz7 ⟨by decide, by decide⟩
  have ghat7 : cl7.slots[((3 : Int32)).toNatClampNeg]? = some (.long x3) := Ha7.at ghin7 rfl
  obtain ⟨_, _, ⟨T8, tL8, tk8, tn8⟩, -, X8, ⟨Lc8, hQ8, tl8, ty8, tz8⟩, st8⟩ := Jvm.LawKit.callS X6 hx (y := (⟨"com/example/tracegauge/tracegauge/MarkingSetDoubledPinLaw", "nz", "(J)I"⟩ : MethodName)) hown (mvT hZ (hw _ (List.mem_of_getElem? (i := 9) rfl))) (mvT hZ (hw _ (List.mem_of_getElem? (i := 10) rfl))) (mvT hZ (hw _ (List.mem_of_getElem? (i := 7) rfl))) (mvT hZ (hw _ (List.mem_of_getElem? (i := 11) rfl))) (by decide) (backOf (W := 1) (own_rm3 l Z a0 hw [] x3 h0 n0 Z0 ) hZ (hw _ (List.mem_of_getElem? (i := 11) rfl)) (hw _ (List.mem_of_getElem? (i := 7) rfl)) (by decide) (by decide)) (g := (mkF m 23 #[.val (.ref a1)] [(.long x3), (.int (((own_nz x0) + (own_nz x1)) + (own_nz x2)))])) rfl (by rw [hml]; rfl) (argsL := [(.long x3)]) (rest := [(.int (((own_nz x0) + (own_nz x1)) + (own_nz x2)))]) (lenOf own_pd0 rfl) rfl (by show 2 * 0 + _ ≤ _; exact Nat.le_of_eq rfl) (hb hby own_d4_23) (fun _ _ => ⟨rfl, K6, (by decide : 0 + 0 ≤ _), (by decide : 0 + 0 ≤ _)⟩)
  dsimp only [Pt.U, Pt.locs, Pt.cells, Pt.slots] at X8 tl8 ty8 tz8 st8 hQ8
  rw [tl8, ty8, tz8] at X8
  obtain ⟨rfl, Nq8, K8⟩ := hQ8
  have N8 := Fr.app N6 Nq8
  obtain ⟨cl9, Ar9, Q9, Sz9, Nn9, Ha9, Gf9⟩ := id P_V_a1
  have ghin9 : ¬ ((4 : Int32) < 0 ∨ cl9.slots.size ≤ ((4 : Int32)).toNatClampNeg) := inb_of Sz9 ⟨by decide, by decide⟩
  have ghat9 : cl9.slots[((4 : Int32)).toNatClampNeg]? = some (.long x4) := Ha9.at ghin9 rfl
  obtain ⟨_, _, ⟨T10, tL10, tk10, tn10⟩, -, X10, ⟨Lc10, hQ10, tl10, ty10, tz10⟩, st10⟩ := Jvm.LawKit.callS X8 hx (y := (⟨"com/example/tracegauge/tracegauge/MarkingSetDoubledPinLaw", "nz", "(J)I"⟩ : MethodName)) hown (mvT hZ (hw _ (List.mem_of_getElem? (i := 9) rfl))) (mvT hZ (hw _ (List.mem_of_getElem? (i := 10) rfl))) (mvT hZ (hw _ (List.mem_of_getElem? (i := 7) rfl))) (mvT hZ (hw _ (List.mem_of_getElem? (i := 11) rfl))) (by decide) (backOf (W := 1) (own_rm3 l Z a0 hw [] x4 h0 n0 Z0 ) hZ (hw _ (List.mem_of_getElem? (i := 11) rfl)) (hw _ (List.mem_of_getElem? (i := 7) rfl)) (by decide) (by decide)) (g := (mkF m 30 #[.val (.ref a1)] [(.long x4), (.int ((((own_nz x0) + (own_nz x1)) + (own_nz x2)) + (own_nz x3)))])) rfl (by rw [hml]; rfl) (argsL := [(.long x4)]) (rest := [(.int ((((own_nz x0) + (own_nz x1)) + (own_nz x2)) + (own_nz x3)))]) (lenOf own_pd0 rfl) rfl (by show 2 * 0 + _ ≤ _; exact Nat.le_of_eq rfl) (hb hby own_d4_30) (fun _ _ => ⟨rfl, K8, (by decide : 0 + 0 ≤ _), (by decide : 0 + 0 ≤ _)⟩)
  dsimp only [Pt.U, Pt.locs, Pt.cells, Pt.slots] at X10 tl10 ty10 tz10 st10 hQ10
  rw [tl10, ty10, tz10] at X10
  obtain ⟨rfl, Nq10, K10⟩ := hQ10
  have N10 := Fr.app N8 Nq10
  obtain ⟨cl11, Ar11, Q11, Sz11, Nn11, Ha11, Gf11⟩ := id P_V_a1
  have ghin11 : ¬ ((5 : Int32) < 0 ∨ cl11.slots.size ≤ ((5 : Int32)).toNatClampNeg) := inb_of Sz11 ⟨by decide, by decide⟩
  have ghat11 : cl11.slots[((5 : Int32)).toNatClampNeg]? = some (.long x5) := Ha11.at ghin11 rfl
  obtain ⟨_, _, ⟨T12, tL12, tk12, tn12⟩, -, X12, ⟨Lc12, hQ12, tl12, ty12, tz12⟩, st12⟩ := Jvm.LawKit.callS X10 hx (y := (⟨"com/example/tracegauge/tracegauge/MarkingSetDoubledPinLaw", "nz", "(J)I"⟩ : MethodName)) hown (mvT hZ (hw _ (List.mem_of_getElem? (i := 9) rfl))) (mvT hZ (hw _ (List.mem_of_getElem? (i := 10) rfl))) (mvT hZ (hw _ (List.mem_of_getElem? (i := 7) rfl))) (mvT hZ (hw _ (List.mem_of_getElem? (i := 11) rfl))) (by decide) (backOf (W := 1) (own_rm3 l Z a0 hw [] x5 h0 n0 Z0 ) hZ (hw _ (List.mem_of_getElem? (i := 11) rfl)) (hw _ (List.mem_of_getElem? (i := 7) rfl)) (by decide) (by decide)) (g := (mkF m 37 #[.val (.ref a1)] [(.long x5), (.int (((((own_nz x0) + (own_nz x1)) + (own_nz x2)) + (own_nz x3)) + (own_nz x4)))])) rfl (by rw [hml]; rfl) (argsL := [(.long x5)]) (rest := [(.int (((((own_nz x0) + (own_nz x1)) + (own_nz x2)) + (own_nz x3)) + (own_nz x4)))]) (lenOf own_pd0 rfl) rfl (by show 2 * 0 + _ ≤ _; exact Nat.le_of_eq rfl) (hb hby own_d4_37) (fun _ _ => ⟨rfl, K10, (by decide : 0 + 0 ≤ _), (by decide : 0 + 0 ≤ _)⟩)
  dsimp only [Pt.U, Pt.locs, Pt.cells, Pt.slots] at X12 tl12 ty12 tz12 st12 hQ12
  rw [tl12, ty12, tz12] at X12
  obtain ⟨rfl, Nq12, K12⟩ := hQ12
  have N12 := Fr.app N10 Nq12
  obtain ⟨cl13, Ar13, Q13, Sz13, Nn13, Ha13, Gf13⟩ := id P_V_a1
  have ghin13 : ¬ ((6 : Int32) < 0 ∨ cl13.slots.size ≤ ((6 : Int32)).toNatClampNeg) := inb_of Sz13 ⟨by decide, by decide⟩
  have ghat13 : cl13.slots[((6 : Int32)).toNatClampNeg]? = some (.long x6) := Ha13.at ghin13 rfl
  obtain ⟨_, _, ⟨T14, tL14, tk14, tn14⟩, -, X14, ⟨Lc14, hQ14, tl14, ty14, tz14⟩, st14⟩ := Jvm.LawKit.callS X12 hx (y := (⟨"com/example/tracegauge/tracegauge/MarkingSetDoubledPinLaw", "nz", "(J)I"⟩ : MethodName)) hown (mvT hZ (hw _ (List.mem_of_getElem? (i := 9) rfl))) (mvT hZ (hw _ (List.mem_of_getElem? (i := 10) rfl))) (mvT hZ (hw _ (List.mem_of_getElem? (i := 7) rfl))) (mvT hZ (hw _ (List.mem_of_getElem? (i := 11) rfl))) (by decide) (backOf (W := 1) (own_rm3 l Z a0 hw [] x6 h0 n0 Z0 ) hZ (hw _ (List.mem_of_getElem? (i := 11) rfl)) (hw _ (List.mem_of_getElem? (i := 7) rfl)) (by decide) (by decide)) (g := (mkF m 45 #[.val (.ref a1)] [(.long x6), (.int ((((((own_nz x0) + (own_nz x1)) + (own_nz x2)) + (own_nz x3)) + (own_nz x4)) + (own_nz x5)))])) rfl (by rw [hml]; rfl) (argsL := [(.long x6)]) (rest := [(.int ((((((own_nz x0) + (own_nz x1)) + (own_nz x2)) + (own_nz x3)) + (own_nz x4)) + (own_nz x5)))]) (lenOf own_pd0 rfl) rfl (by show 2 * 0 + _ ≤ _; exact Nat.le_of_eq rfl) (hb hby own_d4_45) (fun _ _ => ⟨rfl, K12, (by decide : 0 + 0 ≤ _), (by decide : 0 + 0 ≤ _)⟩)
  dsimp only [Pt.U, Pt.locs, Pt.cells, Pt.slots] at X14 tl14 ty14 tz14 st14 hQ14
  rw [tl14, ty14, tz14] at X14
  obtain ⟨rfl, Nq14, K14⟩ := hQ14
  have N14 := Fr.app N12 Nq14
  obtain ⟨cl15, Ar15, Q15, Sz15, Nn15, Ha15, Gf15⟩ := id P_V_a1
  have ghin15 : ¬ ((7 : Int32) < 0 ∨ cl15.slots.size ≤ ((7 : Int32)).toNatClampNeg) := inb_of Sz15 ⟨by decide, by decide⟩
  have ghat15 : cl15.slots[((7 : Int32)).toNatClampNeg]? = some (.long x7) := Ha15.at ghin15 rfl
  obtain ⟨_, _, ⟨T16, tL16, tk16, tn16⟩, -, X16, ⟨Lc16, hQ16, tl16, ty16, tz16⟩, st16⟩ := Jvm.LawKit.callS X14 hx (y := (⟨"com/example/tracegauge/tracegauge/MarkingSetDoubledPinLaw", "nz", "(J)I"⟩ : MethodName)) hown (mvT hZ (hw _ (List.mem_of_getElem? (i := 9) rfl))) (mvT hZ (hw _ (List.mem_of_getElem? (i := 10) rfl))) (mvT hZ (hw _ (List.mem_of_getElem? (i := 7) rfl))) (mvT hZ (hw _ (List.mem_of_getElem? (i := 11) rfl))) (by decide) (backOf (W := 1) (own_rm3 l Z a0 hw [] x7 h0 n0 Z0 ) hZ (hw _ (List.mem_of_getElem? (i := 11) rfl)) (hw _ (List.mem_of_getElem? (i := 7) rfl)) (by decide) (by decide)) (g := (mkF m 53 #[.val (.ref a1)] [(.long x7), (.int (((((((own_nz x0) + (own_nz x1)) + (own_nz x2)) + (own_nz x3)) + (own_nz x4)) + (own_nz x5)) + (own_nz x6)))])) rfl (by rw [hml]; rfl) (argsL := [(.long x7)]) (rest := [(.int (((((((own_nz x0) + (own_nz x1)) + (own_nz x2)) + (own_nz x3)) + (own_nz x4)) + (own_nz x5)) + (own_nz x6)))]) (lenOf own_pd0 rfl) rfl (by show 2 * 0 + _ ≤ _; exact Nat.le_of_eq rfl) (hb hby own_d4_53) (fun _ _ => ⟨rfl, K14, (by decide : 0 + 0 ≤ _), (by decide : 0 + 0 ≤ _)⟩)
  dsimp only [Pt.U, Pt.locs, Pt.cells, Pt.slots] at X16 tl16 ty16 tz16 st16 hQ16
  rw [tl16, ty16, tz16] at X16
  obtain ⟨rfl, Nq16, K16⟩ := hQ16
  have N16 := Fr.app N14 Nq16
  obtain ⟨fs, hr, hrun, hended, hW, hsame⟩ := X16.leave (v := some (.int ((((((((own_nz x0) + (own_nz x1)) + (own_nz x2)) + (own_nz x3)) + (own_nz x4)) + (own_nz x5)) + (own_nz x6)) + (own_nz x7)))) (fun h => by rw [Bd.returns] at h; cases h)
  refine ⟨_, _, pre0 _ ?_, hrun, hended, _, _, rfl, ?_, ⟨_, rfl⟩, hW, hsame.mono (by decide) (by decide)⟩
  · show Steps p.tables e below (s₁.setTop (mkF m 0 #[.val (.ref a1)] [])) _
    refine XS.aloadN X0.here hx rfl (hb hby own_d4_0) rfl rfl ?_
    show Steps p.tables e below (s₁.setTop (mkF m 1 #[.val (.ref a1)] [(.ref a1)])) _
    refine XT.iconstV X0.here hx rfl (0 : Int32) (hb hby own_d4_1) rfl ?_
    show Steps p.tables e below (s₁.setTop (mkF m 2 #[.val (.ref a1)] [(.int (0 : Int32)), (.ref a1)])) _
    refine X0.laload hx (j := (0 : Int32)) (v := (.long x0)) (by rw [e0]; exact Ar1.1) (State.isArrayOf_alike hZ.alike Ar1.2.1) Ar1.2.2 ghin1 ghat1 (g := (mkF m 2 #[.val (.ref a1)] [(.int (0 : Int32)), (.ref a1)])) rfl rfl (hb hby own_d4_2) _ ?_
    show Steps p.tables e below (s₁.setTop (mkF m 3 #[.val (.ref a1)] [(.long x0)])) _
    refine st2 _ ?_
    show Steps p.tables e below (T2.setTop (mkF m 6 #[.val (.ref a1)] [(.int (own_nz x0))])) _
    refine XS.aloadN X2.here hx rfl (hb hby own_d4_6) rfl rfl ?_
    show Steps p.tables e below (T2.setTop (mkF m 7 #[.val (.ref a1)] [(.ref a1), (.int (own_nz x0))])) _
    refine XT.iconstV X2.here hx rfl (1 : Int32) (hb hby own_d4_7) rfl ?_
    show Steps p.tables e below (T2.setTop (mkF m 8 #[.val (.ref a1)] [(.int (1 : Int32)), (.ref a1), (.int (own_nz x0))])) _
    refine X2.laload hx (j := (1 : Int32)) (v := (.long x1)) (by rw [K2]; exact Ar3.1) (State.isArrayOf_alike hZ.alike Ar3.2.1) Ar3.2.2 ghin3 ghat3 (g := (mkF m 8 #[.val (.ref a1)] [(.int (1 : Int32)), (.ref a1), (.int (own_nz x0))])) rfl rfl (hb hby own_d4_8) _ ?_
    show Steps p.tables e below (T2.setTop (mkF m 9 #[.val (.ref a1)] [(.long x1), (.int (own_nz x0))])) _
    refine st4 _ ?_
    show Steps p.tables e below (T4.setTop (mkF m 12 #[.val (.ref a1)] [(.int (own_nz x1)), (.int (own_nz x0))])) _
    refine XS.iadd X4.here hx rfl (hb hby own_d4_12) rfl ?_
    show Steps p.tables e below (T4.setTop (mkF m 13 #[.val (.ref a1)] [(.int ((own_nz x0) + (own_nz x1)))])) _
    refine XS.aloadN X4.here hx rfl (hb hby own_d4_13) rfl rfl ?_
    show Steps p.tables e below (T4.setTop (mkF m 14 #[.val (.ref a1)] [(.ref a1), (.int ((own_nz x0) + (own_nz x1)))])) _
    refine XT.iconstV X4.here hx rfl (2 : Int32) (hb hby own_d4_14) rfl ?_
    show Steps p.tables e below (T4.setTop (mkF m 15 #[.val (.ref a1)] [(.int (2 : Int32)), (.ref a1), (.int ((own_nz x0) + (own_nz x1)))])) _
    refine X4.laload hx (j := (2 : Int32)) (v := (.long x2)) (by rw [K4]; exact Ar5.1) (State.isArrayOf_alike hZ.alike Ar5.2.1) Ar5.2.2 ghin5 ghat5 (g := (mkF m 15 #[.val (.ref a1)] [(.int (2 : Int32)), (.ref a1), (.int ((own_nz x0) + (own_nz x1)))])) rfl rfl (hb hby own_d4_15) _ ?_
    show Steps p.tables e below (T4.setTop (mkF m 16 #[.val (.ref a1)] [(.long x2), (.int ((own_nz x0) + (own_nz x1)))])) _
    refine st6 _ ?_
    show Steps p.tables e below (T6.setTop (mkF m 19 #[.val (.ref a1)] [(.int (own_nz x2)), (.int ((own_nz x0) + (own_nz x1)))])) _
    refine XS.iadd X6.here hx rfl (hb hby own_d4_19) rfl ?_
    show Steps p.tables e below (T6.setTop (mkF m 20 #[.val (.ref a1)] [(.int (((own_nz x0) + (own_nz x1)) + (own_nz x2)))])) _
    refine XS.aloadN X6.here hx rfl (hb hby own_d4_20) rfl rfl ?_
    show Steps p.tables e below (T6.setTop (mkF m 21 #[.val (.ref a1)] [(.ref a1), (.int (((own_nz x0) + (own_nz x1)) + (own_nz x2)))])) _
    refine XT.iconstV X6.here hx rfl (3 : Int32) (hb hby own_d4_21) rfl ?_
    show Steps p.tables e below (T6.setTop (mkF m 22 #[.val (.ref a1)] [(.int (3 : Int32)), (.ref a1), (.int (((own_nz x0) + (own_nz x1)) + (own_nz x2)))])) _
    refine X6.laload hx (j := (3 : Int32)) (v := (.long x3)) (by rw [K6]; exact Ar7.1) (State.isArrayOf_alike hZ.alike Ar7.2.1) Ar7.2.2 ghin7 ghat7 (g := (mkF m 22 #[.val (.ref a1)] [(.int (3 : Int32)), (.ref a1), (.int (((own_nz x0) + (own_nz x1)) + (own_nz x2)))])) rfl rfl (hb hby own_d4_22) _ ?_
    show Steps p.tables e below (T6.setTop (mkF m 23 #[.val (.ref a1)] [(.long x3), (.int (((own_nz x0) + (own_nz x1)) + (own_nz x2)))])) _
    refine st8 _ ?_
    show Steps p.tables e below (T8.setTop (mkF m 26 #[.val (.ref a1)] [(.int (own_nz x3)), (.int (((own_nz x0) + (own_nz x1)) + (own_nz x2)))])) _
    refine XS.iadd X8.here hx rfl (hb hby own_d4_26) rfl ?_
    show Steps p.tables e below (T8.setTop (mkF m 27 #[.val (.ref a1)] [(.int ((((own_nz x0) + (own_nz x1)) + (own_nz x2)) + (own_nz x3)))])) _
    refine XS.aloadN X8.here hx rfl (hb hby own_d4_27) rfl rfl ?_
    show Steps p.tables e below (T8.setTop (mkF m 28 #[.val (.ref a1)] [(.ref a1), (.int ((((own_nz x0) + (own_nz x1)) + (own_nz x2)) + (own_nz x3)))])) _
    refine XT.iconstV X8.here hx rfl (4 : Int32) (hb hby own_d4_28) rfl ?_
    show Steps p.tables e below (T8.setTop (mkF m 29 #[.val (.ref a1)] [(.int (4 : Int32)), (.ref a1), (.int ((((own_nz x0) + (own_nz x1)) + (own_nz x2)) + (own_nz x3)))])) _
    refine X8.laload hx (j := (4 : Int32)) (v := (.long x4)) (by rw [K8]; exact Ar9.1) (State.isArrayOf_alike hZ.alike Ar9.2.1) Ar9.2.2 ghin9 ghat9 (g := (mkF m 29 #[.val (.ref a1)] [(.int (4 : Int32)), (.ref a1), (.int ((((own_nz x0) + (own_nz x1)) + (own_nz x2)) + (own_nz x3)))])) rfl rfl (hb hby own_d4_29) _ ?_
    show Steps p.tables e below (T8.setTop (mkF m 30 #[.val (.ref a1)] [(.long x4), (.int ((((own_nz x0) + (own_nz x1)) + (own_nz x2)) + (own_nz x3)))])) _
    refine st10 _ ?_
    show Steps p.tables e below (T10.setTop (mkF m 33 #[.val (.ref a1)] [(.int (own_nz x4)), (.int ((((own_nz x0) + (own_nz x1)) + (own_nz x2)) + (own_nz x3)))])) _
    refine XS.iadd X10.here hx rfl (hb hby own_d4_33) rfl ?_
    show Steps p.tables e below (T10.setTop (mkF m 34 #[.val (.ref a1)] [(.int (((((own_nz x0) + (own_nz x1)) + (own_nz x2)) + (own_nz x3)) + (own_nz x4)))])) _
    refine XS.aloadN X10.here hx rfl (hb hby own_d4_34) rfl rfl ?_
    show Steps p.tables e below (T10.setTop (mkF m 35 #[.val (.ref a1)] [(.ref a1), (.int (((((own_nz x0) + (own_nz x1)) + (own_nz x2)) + (own_nz x3)) + (own_nz x4)))])) _
    refine XT.iconstV X10.here hx rfl (5 : Int32) (hb hby own_d4_35) rfl ?_
    show Steps p.tables e below (T10.setTop (mkF m 36 #[.val (.ref a1)] [(.int (5 : Int32)), (.ref a1), (.int (((((own_nz x0) + (own_nz x1)) + (own_nz x2)) + (own_nz x3)) + (own_nz x4)))])) _
    refine X10.laload hx (j := (5 : Int32)) (v := (.long x5)) (by rw [K10]; exact Ar11.1) (State.isArrayOf_alike hZ.alike Ar11.2.1) Ar11.2.2 ghin11 ghat11 (g := (mkF m 36 #[.val (.ref a1)] [(.int (5 : Int32)), (.ref a1), (.int (((((own_nz x0) + (own_nz x1)) + (own_nz x2)) + (own_nz x3)) + (own_nz x4)))])) rfl rfl (hb hby own_d4_36) _ ?_
    show Steps p.tables e below (T10.setTop (mkF m 37 #[.val (.ref a1)] [(.long x5), (.int (((((own_nz x0) + (own_nz x1)) + (own_nz x2)) + (own_nz x3)) + (own_nz x4)))])) _
    refine st12 _ ?_
    show Steps p.tables e below (T12.setTop (mkF m 40 #[.val (.ref a1)] [(.int (own_nz x5)), (.int (((((own_nz x0) + (own_nz x1)) + (own_nz x2)) + (own_nz x3)) + (own_nz x4)))])) _
    refine XS.iadd X12.here hx rfl (hb hby own_d4_40) rfl ?_
    show Steps p.tables e below (T12.setTop (mkF m 41 #[.val (.ref a1)] [(.int ((((((own_nz x0) + (own_nz x1)) + (own_nz x2)) + (own_nz x3)) + (own_nz x4)) + (own_nz x5)))])) _
    refine XS.aloadN X12.here hx rfl (hb hby own_d4_41) rfl rfl ?_
    show Steps p.tables e below (T12.setTop (mkF m 42 #[.val (.ref a1)] [(.ref a1), (.int ((((((own_nz x0) + (own_nz x1)) + (own_nz x2)) + (own_nz x3)) + (own_nz x4)) + (own_nz x5)))])) _
    refine XT.bipushV X12.here hx rfl (6 : Int32) (hb hby own_d4_42) rfl ?_
    show Steps p.tables e below (T12.setTop (mkF m 44 #[.val (.ref a1)] [(.int (6 : Int32)), (.ref a1), (.int ((((((own_nz x0) + (own_nz x1)) + (own_nz x2)) + (own_nz x3)) + (own_nz x4)) + (own_nz x5)))])) _
    refine X12.laload hx (j := (6 : Int32)) (v := (.long x6)) (by rw [K12]; exact Ar13.1) (State.isArrayOf_alike hZ.alike Ar13.2.1) Ar13.2.2 ghin13 ghat13 (g := (mkF m 44 #[.val (.ref a1)] [(.int (6 : Int32)), (.ref a1), (.int ((((((own_nz x0) + (own_nz x1)) + (own_nz x2)) + (own_nz x3)) + (own_nz x4)) + (own_nz x5)))])) rfl rfl (hb hby own_d4_44) _ ?_
    show Steps p.tables e below (T12.setTop (mkF m 45 #[.val (.ref a1)] [(.long x6), (.int ((((((own_nz x0) + (own_nz x1)) + (own_nz x2)) + (own_nz x3)) + (own_nz x4)) + (own_nz x5)))])) _
    refine st14 _ ?_
    show Steps p.tables e below (T14.setTop (mkF m 48 #[.val (.ref a1)] [(.int (own_nz x6)), (.int ((((((own_nz x0) + (own_nz x1)) + (own_nz x2)) + (own_nz x3)) + (own_nz x4)) + (own_nz x5)))])) _
    refine XS.iadd X14.here hx rfl (hb hby own_d4_48) rfl ?_
    show Steps p.tables e below (T14.setTop (mkF m 49 #[.val (.ref a1)] [(.int (((((((own_nz x0) + (own_nz x1)) + (own_nz x2)) + (own_nz x3)) + (own_nz x4)) + (own_nz x5)) + (own_nz x6)))])) _
    refine XS.aloadN X14.here hx rfl (hb hby own_d4_49) rfl rfl ?_
    show Steps p.tables e below (T14.setTop (mkF m 50 #[.val (.ref a1)] [(.ref a1), (.int (((((((own_nz x0) + (own_nz x1)) + (own_nz x2)) + (own_nz x3)) + (own_nz x4)) + (own_nz x5)) + (own_nz x6)))])) _
    refine XT.bipushV X14.here hx rfl (7 : Int32) (hb hby own_d4_50) rfl ?_
    show Steps p.tables e below (T14.setTop (mkF m 52 #[.val (.ref a1)] [(.int (7 : Int32)), (.ref a1), (.int (((((((own_nz x0) + (own_nz x1)) + (own_nz x2)) + (own_nz x3)) + (own_nz x4)) + (own_nz x5)) + (own_nz x6)))])) _
    refine X14.laload hx (j := (7 : Int32)) (v := (.long x7)) (by rw [K14]; exact Ar15.1) (State.isArrayOf_alike hZ.alike Ar15.2.1) Ar15.2.2 ghin15 ghat15 (g := (mkF m 52 #[.val (.ref a1)] [(.int (7 : Int32)), (.ref a1), (.int (((((((own_nz x0) + (own_nz x1)) + (own_nz x2)) + (own_nz x3)) + (own_nz x4)) + (own_nz x5)) + (own_nz x6)))])) rfl rfl (hb hby own_d4_52) _ ?_
    show Steps p.tables e below (T14.setTop (mkF m 53 #[.val (.ref a1)] [(.long x7), (.int (((((((own_nz x0) + (own_nz x1)) + (own_nz x2)) + (own_nz x3)) + (own_nz x4)) + (own_nz x5)) + (own_nz x6)))])) _
    refine st16 _ ?_
    show Steps p.tables e below (T16.setTop (mkF m 56 #[.val (.ref a1)] [(.int (own_nz x7)), (.int (((((((own_nz x0) + (own_nz x1)) + (own_nz x2)) + (own_nz x3)) + (own_nz x4)) + (own_nz x5)) + (own_nz x6)))])) _
    refine XS.iadd X16.here hx rfl (hb hby own_d4_56) rfl ?_
    show Steps p.tables e below (T16.setTop (mkF m 57 #[.val (.ref a1)] [(.int ((((((((own_nz x0) + (own_nz x1)) + (own_nz x2)) + (own_nz x3)) + (own_nz x4)) + (own_nz x5)) + (own_nz x6)) + (own_nz x7)))])) _
    exact retOut X16 hx (t := .int) Bd.returns rfl (Or.inl ⟨rfl, Or.inl rfl, _, rfl⟩) (hb hby own_d4_57) hr
  · show own_Q4 Z a1 kd x0 x1 x2 x3 x4 x5 x6 x7 h0 n0 _ T16.heap _
    exact ⟨rfl, N16, K16⟩
theorem own_d5_0 : decode method_7_code 0 = .ok (.lload_n 2, 1) := by decide +kernel
theorem own_d5_1 : decode method_7_code 1 = .ok (.lconst 0, 1) := by decide +kernel
theorem own_d5_2 : decode method_7_code 2 = .ok (.lcmp, 1) := by decide +kernel
theorem own_d5_3 : decode method_7_code 3 = .ok (.ifCond .ne 5, 3) := by decide +kernel
theorem own_d5_6 : decode method_7_code 6 = .ok (.iconst 1, 1) := by decide +kernel
theorem own_d5_7 : decode method_7_code 7 = .ok (.ireturn, 1) := by decide +kernel
theorem own_d5_8 : decode method_7_code 8 = .ok (.aload_n 0, 1) := by decide +kernel
theorem own_d5_9 : decode method_7_code 9 = .ok (.iconst 0, 1) := by decide +kernel
theorem own_d5_10 : decode method_7_code 10 = .ok (.laload, 1) := by decide +kernel
theorem own_d5_11 : decode method_7_code 11 = .ok (.lload_n 2, 1) := by decide +kernel
theorem own_d5_12 : decode method_7_code 12 = .ok (.invokestatic 34, 3) := by decide +kernel
theorem own_d5_15 : decode method_7_code 15 = .ok (.aload_n 0, 1) := by decide +kernel
theorem own_d5_16 : decode method_7_code 16 = .ok (.iconst 1, 1) := by decide +kernel
theorem own_d5_17 : decode method_7_code 17 = .ok (.laload, 1) := by decide +kernel
theorem own_d5_18 : decode method_7_code 18 = .ok (.lload_n 2, 1) := by decide +kernel
theorem own_d5_19 : decode method_7_code 19 = .ok (.invokestatic 34, 3) := by decide +kernel
theorem own_d5_22 : decode method_7_code 22 = .ok (.iadd, 1) := by decide +kernel
theorem own_d5_23 : decode method_7_code 23 = .ok (.aload_n 0, 1) := by decide +kernel
theorem own_d5_24 : decode method_7_code 24 = .ok (.iconst 2, 1) := by decide +kernel
theorem own_d5_25 : decode method_7_code 25 = .ok (.laload, 1) := by decide +kernel
theorem own_d5_26 : decode method_7_code 26 = .ok (.lload_n 2, 1) := by decide +kernel
theorem own_d5_27 : decode method_7_code 27 = .ok (.invokestatic 34, 3) := by decide +kernel
theorem own_d5_30 : decode method_7_code 30 = .ok (.iadd, 1) := by decide +kernel
theorem own_d5_31 : decode method_7_code 31 = .ok (.aload_n 0, 1) := by decide +kernel
theorem own_d5_32 : decode method_7_code 32 = .ok (.iconst 3, 1) := by decide +kernel
theorem own_d5_33 : decode method_7_code 33 = .ok (.laload, 1) := by decide +kernel
theorem own_d5_34 : decode method_7_code 34 = .ok (.lload_n 2, 1) := by decide +kernel
theorem own_d5_35 : decode method_7_code 35 = .ok (.invokestatic 34, 3) := by decide +kernel
theorem own_d5_38 : decode method_7_code 38 = .ok (.iadd, 1) := by decide +kernel
theorem own_d5_39 : decode method_7_code 39 = .ok (.istore 4, 2) := by decide +kernel
theorem own_d5_41 : decode method_7_code 41 = .ok (.aload_n 1, 1) := by decide +kernel
theorem own_d5_42 : decode method_7_code 42 = .ok (.iconst 0, 1) := by decide +kernel
theorem own_d5_43 : decode method_7_code 43 = .ok (.laload, 1) := by decide +kernel
theorem own_d5_44 : decode method_7_code 44 = .ok (.lload_n 2, 1) := by decide +kernel
theorem own_d5_45 : decode method_7_code 45 = .ok (.invokestatic 34, 3) := by decide +kernel
theorem own_d5_48 : decode method_7_code 48 = .ok (.aload_n 1, 1) := by decide +kernel
theorem own_d5_49 : decode method_7_code 49 = .ok (.iconst 1, 1) := by decide +kernel
theorem own_d5_50 : decode method_7_code 50 = .ok (.laload, 1) := by decide +kernel
theorem own_d5_51 : decode method_7_code 51 = .ok (.lload_n 2, 1) := by decide +kernel
theorem own_d5_52 : decode method_7_code 52 = .ok (.invokestatic 34, 3) := by decide +kernel
theorem own_d5_55 : decode method_7_code 55 = .ok (.iadd, 1) := by decide +kernel
theorem own_d5_56 : decode method_7_code 56 = .ok (.aload_n 1, 1) := by decide +kernel
theorem own_d5_57 : decode method_7_code 57 = .ok (.iconst 2, 1) := by decide +kernel
theorem own_d5_58 : decode method_7_code 58 = .ok (.laload, 1) := by decide +kernel
theorem own_d5_59 : decode method_7_code 59 = .ok (.lload_n 2, 1) := by decide +kernel
theorem own_d5_60 : decode method_7_code 60 = .ok (.invokestatic 34, 3) := by decide +kernel
theorem own_d5_63 : decode method_7_code 63 = .ok (.iadd, 1) := by decide +kernel
theorem own_d5_64 : decode method_7_code 64 = .ok (.aload_n 1, 1) := by decide +kernel
theorem own_d5_65 : decode method_7_code 65 = .ok (.iconst 3, 1) := by decide +kernel
theorem own_d5_66 : decode method_7_code 66 = .ok (.laload, 1) := by decide +kernel
theorem own_d5_67 : decode method_7_code 67 = .ok (.lload_n 2, 1) := by decide +kernel
theorem own_d5_68 : decode method_7_code 68 = .ok (.invokestatic 34, 3) := by decide +kernel
theorem own_d5_71 : decode method_7_code 71 = .ok (.iadd, 1) := by decide +kernel
theorem own_d5_72 : decode method_7_code 72 = .ok (.aload_n 1, 1) := by decide +kernel
theorem own_d5_73 : decode method_7_code 73 = .ok (.iconst 4, 1) := by decide +kernel
theorem own_d5_74 : decode method_7_code 74 = .ok (.laload, 1) := by decide +kernel
theorem own_d5_75 : decode method_7_code 75 = .ok (.lload_n 2, 1) := by decide +kernel
theorem own_d5_76 : decode method_7_code 76 = .ok (.invokestatic 34, 3) := by decide +kernel
theorem own_d5_79 : decode method_7_code 79 = .ok (.iadd, 1) := by decide +kernel
theorem own_d5_80 : decode method_7_code 80 = .ok (.aload_n 1, 1) := by decide +kernel
theorem own_d5_81 : decode method_7_code 81 = .ok (.iconst 5, 1) := by decide +kernel
theorem own_d5_82 : decode method_7_code 82 = .ok (.laload, 1) := by decide +kernel
theorem own_d5_83 : decode method_7_code 83 = .ok (.lload_n 2, 1) := by decide +kernel
theorem own_d5_84 : decode method_7_code 84 = .ok (.invokestatic 34, 3) := by decide +kernel
theorem own_d5_87 : decode method_7_code 87 = .ok (.iadd, 1) := by decide +kernel
theorem own_d5_88 : decode method_7_code 88 = .ok (.aload_n 1, 1) := by decide +kernel
theorem own_d5_89 : decode method_7_code 89 = .ok (.bipush 6, 2) := by decide +kernel
theorem own_d5_91 : decode method_7_code 91 = .ok (.laload, 1) := by decide +kernel
theorem own_d5_92 : decode method_7_code 92 = .ok (.lload_n 2, 1) := by decide +kernel
theorem own_d5_93 : decode method_7_code 93 = .ok (.invokestatic 34, 3) := by decide +kernel
theorem own_d5_96 : decode method_7_code 96 = .ok (.iadd, 1) := by decide +kernel
theorem own_d5_97 : decode method_7_code 97 = .ok (.aload_n 1, 1) := by decide +kernel
theorem own_d5_98 : decode method_7_code 98 = .ok (.bipush 7, 2) := by decide +kernel
theorem own_d5_100 : decode method_7_code 100 = .ok (.laload, 1) := by decide +kernel
theorem own_d5_101 : decode method_7_code 101 = .ok (.lload_n 2, 1) := by decide +kernel
theorem own_d5_102 : decode method_7_code 102 = .ok (.invokestatic 34, 3) := by decide +kernel
theorem own_d5_105 : decode method_7_code 105 = .ok (.iadd, 1) := by decide +kernel
theorem own_d5_106 : decode method_7_code 106 = .ok (.istore 5, 2) := by decide +kernel
theorem own_d5_108 : decode method_7_code 108 = .ok (.iload 4, 2) := by decide +kernel
theorem own_d5_110 : decode method_7_code 110 = .ok (.iload 5, 2) := by decide +kernel
theorem own_d5_112 : decode method_7_code 112 = .ok (.if_icmp .ne 7, 3) := by decide +kernel
theorem own_d5_115 : decode method_7_code 115 = .ok (.iconst 1, 1) := by decide +kernel
theorem own_d5_116 : decode method_7_code 116 = .ok (.goto 4, 3) := by decide +kernel
theorem own_d5_119 : decode method_7_code 119 = .ok (.iconst 0, 1) := by decide +kernel
theorem own_d5_120 : decode method_7_code 120 = .ok (.ireturn, 1) := by decide +kernel
theorem own_pn5 : plainName "com/example/tracegauge/tracegauge/MarkingSetDoubledPinLaw" = true := by first | (simp [plainName, overriddenIn]; done) | decide +kernel
theorem own_ef5 (m : MethodId) (a1 : Addr) (a2 : Addr) (j1 : Int64) : entryFrame m #[(.ref a1), (.ref a2), (.long j1)] 6 = mkF m 0 #[.val (.ref a1), .val (.ref a2), .val (.long j1), .second, .unset, .unset] [] := by first | (simp [entryFrame, mkF, argsToLocals, Value.category]; done) | rfl
def own_Q5 (Z : State) (a1 : Addr) (a2 : Addr) (j1 : Int64) (ka : ClassId) (v0 : Int64) (v1 : Int64) (v2 : Int64) (v3 : Int64) (kd : ClassId) (x0 : Int64) (x1 : Int64) (x2 : Int64) (x3 : Int64) (x4 : Int64) (x5 : Int64) (x6 : Int64) (x7 : Int64) (h0 : Heap) (n0 : Nat) (v : Option Value) (h : Heap) (L : List Loc) : Prop := (v = some (.int (1 : Int32))) ∧ (Fr n0 L) ∧ (h = h0)
set_option maxRecDepth 65536 in
set_option maxHeartbeats 40000000 in
theorem own_rm5 (l : Launch) (Z : State) (a0 : Array Value) (hw : ∀ d ∈ tables_1, d.before a0 Z = true) (ws : List Jvm.Cond) (a1 : Addr) (a2 : Addr) (j1 : Int64) (ka : ClassId) (v0 : Int64) (v1 : Int64) (v2 : Int64) (v3 : Int64) (kd : ClassId) (x0 : Int64) (x1 : Int64) (x2 : Int64) (x3 : Int64) (x4 : Int64) (x5 : Int64) (x6 : Int64) (x7 : Int64) (h0 : Heap) (n0 : Nat) (Z0 : n0 ≤ h0.size) (P_V_a1 : Arv Z h0 a1 ka .long (4 : Int32) [(.long v0), (.long v1), (.long v2), (.long v3)] (.long (0 : Int64))) (P_V_a2 : Arv Z h0 a2 kd .long (8 : Int32) [(.long x0), (.long x1), (.long x2), (.long x3), (.long x4), (.long x5), (.long x6), (.long x7)] (.long (0 : Int64))) (hc : ¬ j1 = 0 → ((((own_eqv v0 j1) + (own_eqv v1 j1)) + (own_eqv v2 j1)) + (own_eqv v3 j1)) = ((((((((own_eqv x0 j1) + (own_eqv x1 j1)) + (own_eqv x2 j1)) + (own_eqv x3 j1)) + (own_eqv x4 j1)) + (own_eqv x5 j1)) + (own_eqv x6 j1)) + (own_eqv x7 j1))) :
    MetFree l (⟨"com/example/tracegauge/tracegauge/MarkingSetDoubledPinLaw", "sameCount", "([J[JJ)Z"⟩ : MethodName) (head1 (Jvm.Cond.code (⟨"com/example/tracegauge/tracegauge/MarkingSetDoubledPinLaw", "sameCount", "([J[JJ)Z"⟩ : MethodName) method_7_code 6 (some .boolean) :: ws) ({ frames := 1, cells := 0, slots := 0, locals := 16 } : Room)) (fun ar_ U_ => ar_ = #[(.ref a1), (.ref a2), (.long j1)] ∧ Z.Warmed39 U_.vm ∧ U_.heap = h0) (fun _ _ _ _ _ => True) (fun _ U_ o_ U_' => ∃ v_ L_, o_ = .returned v_ ∧ own_Q5 Z a1 a2 j1 ka v0 v1 v2 v3 kd x0 x1 x2 x3 x4 x5 x6 x7 h0 n0 v_ U_'.heap L_ ∧ FrameEnd U_ o_ U_' L_ ({ frames := 1, cells := 0, slots := 0, locals := 16 } : Room).cells ({ frames := 1, cells := 0, slots := 0, locals := 16 } : Room).slots) := by
  refine MetFree.of_bodySF (plainFor_of_name own_pn5) hisR ?_
  intro p e s m args below meth c s₁ Bd hml0 hP hK
  obtain ⟨rfl, hZ, hh⟩ := hP
  have hx := Bd.exec
  have hby := Bd.bytes
  have hml : c.maxLocals = 6 := hml0
  have hown : s.vm.findClass "com/example/tracegauge/tracegauge/MarkingSetDoubledPinLaw" = some m.cls := findClass_of_methodNamed Bd.named
  have hnm := (name_of_methodNamed Bd.named Bd.method).1
  have X0 : Stand p l e ({ frames := 1, cells := 0, slots := 0, locals := 16 } : Room) s m #[(.ref a1), (.ref a2), (.long j1)] below meth c s₁ [] 0 0 := Stand.of_body Bd
  have e0 : s₁.heap = h0 := by rw [← hh, Bd.state]; rfl
  have N0 := Fr.nil n0
  have pre0 : ∀ t, Steps p.tables e below (s₁.setTop (mkF m 0 #[.val (.ref a1), .val (.ref a2), .val (.long j1), .second, .unset, .unset] [])) t → Steps p.tables e below (s₁.setTop (entryFrame m #[(.ref a1), (.ref a2), (.long j1)] 6)) t := fun t k => castTop (own_ef5 m a1 a2 j1) k
  have pre1 : ∀ t, Steps p.tables e below (s₁.setTop (mkF m 3 #[.val (.ref a1), .val (.ref a2), .val (.long j1), .second, .unset, .unset] [(.int (XT.cmpL j1 (0 : Int64)))])) t → Steps p.tables e below (s₁.setTop (entryFrame m #[(.ref a1), (.ref a2), (.long j1)] 6)) t := fun t k => pre0 t (by
    show Steps p.tables e below (s₁.setTop (mkF m 0 #[.val (.ref a1), .val (.ref a2), .val (.long j1), .second, .unset, .unset] [])) _
    refine XT.lloadN X0.here hx rfl (hb hby own_d5_0) rfl ?_
    show Steps p.tables e below (s₁.setTop (mkF m 1 #[.val (.ref a1), .val (.ref a2), .val (.long j1), .second, .unset, .unset] [(.long j1)])) _
    refine XT.lconstV X0.here hx rfl (0 : Int64) (hb hby own_d5_1) rfl ?_
    show Steps p.tables e below (s₁.setTop (mkF m 2 #[.val (.ref a1), .val (.ref a2), .val (.long j1), .second, .unset, .unset] [(.long (0 : Int64)), (.long j1)])) _
    refine XT.lcmp X0.here hx rfl (hb hby own_d5_2) rfl ?_
    exact k)
  by_cases h3 : j1 = (0 : Int64)
  · obtain ⟨fs, hr, hrun, hended, hW, hsame⟩ := X0.leave (v := some (.int (1 : Int32))) (fun h => by rw [Bd.returns] at h; cases h)
    refine ⟨_, _, pre1 _ ?_, hrun, hended, _, _, rfl, ?_, ⟨_, rfl⟩, hW, hsame.mono (by decide) (by decide)⟩
    · show Steps p.tables e below (s₁.setTop (mkF m 3 #[.val (.ref a1), .val (.ref a2), .val (.long j1), .second, .unset, .unset] [(.int (XT.cmpL j1 (0 : Int64)))])) _
      refine XS.ifNo X0.here hx rfl (hb hby own_d5_3) rfl (XT.ll_ne_f h3) ?_
      show Steps p.tables e below (s₁.setTop (mkF m 6 #[.val (.ref a1), .val (.ref a2), .val (.long j1), .second, .unset, .unset] [])) _
      refine XT.iconstV X0.here hx rfl (1 : Int32) (hb hby own_d5_6) rfl ?_
      show Steps p.tables e below (s₁.setTop (mkF m 7 #[.val (.ref a1), .val (.ref a2), .val (.long j1), .second, .unset, .unset] [(.int (1 : Int32))])) _
      exact retN X0 hx (t := .boolean) Bd.returns (by simp) (hb hby own_d5_7) hr
    · show own_Q5 Z a1 a2 j1 ka v0 v1 v2 v3 kd x0 x1 x2 x3 x4 x5 x6 x7 h0 n0 _ s₁.heap _
      exact ⟨rfl, N0, e0⟩
  · obtain ⟨cl2, Ar2, Q2, Sz2, Nn2, Ha2, Gf2⟩ := id P_V_a1
    have ghin2 : ¬ ((0 : Int32) < 0 ∨ cl2.slots.size ≤ ((0 : Int32)).toNatClampNeg) := inb_of Sz2 ⟨by decide, by decide⟩
    have ghat2 : cl2.slots[((0 : Int32)).toNatClampNeg]? = some (.long v0) := Ha2.at ghin2 rfl
    obtain ⟨_, _, ⟨T3, tL3, tk3, tn3⟩, -, X3, ⟨Lc3, hQ3, tl3, ty3, tz3⟩, st3⟩ := Jvm.LawKit.callS X0 hx (y := (⟨"com/example/tracegauge/tracegauge/MarkingSetDoubledPinLaw", "eq", "(JJ)I"⟩ : MethodName)) hown (mvT hZ (hw _ (List.mem_of_getElem? (i := 18) rfl))) (mvT hZ (hw _ (List.mem_of_getElem? (i := 19) rfl))) (mvT hZ (hw _ (List.mem_of_getElem? (i := 7) rfl))) (mvT hZ (hw _ (List.mem_of_getElem? (i := 20) rfl))) (by decide) (backOf (W := 0) (own_rm6 l Z a0 hw [] v0 j1 h0 n0 Z0 ) hZ (hw _ (List.mem_of_getElem? (i := 20) rfl)) (hw _ (List.mem_of_getElem? (i := 7) rfl)) (by decide) (by decide)) (g := (mkF m 12 #[.val (.ref a1), .val (.ref a2), .val (.long j1), .second, .unset, .unset] [(.long j1), (.long v0)])) rfl (by rw [hml]; rfl) (argsL := [(.long v0), (.long j1)]) (rest := []) (lenOf own_pd1 rfl) rfl (by show 2 * 0 + _ ≤ _; exact Nat.le_of_eq rfl) (hb hby own_d5_12) (fun _ _ => ⟨rfl, e0, (by decide : 0 + 0 ≤ _), (by decide : 0 + 0 ≤ _)⟩)
    dsimp only [Pt.U, Pt.locs, Pt.cells, Pt.slots] at X3 tl3 ty3 tz3 st3 hQ3
    rw [tl3, ty3, tz3] at X3
    obtain ⟨rfl, Nq3, K3⟩ := hQ3
    have N3 := Fr.app N0 Nq3
    obtain ⟨cl4, Ar4, Q4, Sz4, Nn4, Ha4, Gf4⟩ := id P_V_a1
    have ghin4 : ¬ ((1 : Int32) < 0 ∨ cl4.slots.size ≤ ((1 : Int32)).toNatClampNeg) := inb_of Sz4 ⟨by decide, by decide⟩
    have ghat4 : cl4.slots[((1 : Int32)).toNatClampNeg]? = some (.long v1) := Ha4.at ghin4 rfl
    obtain ⟨_, _, ⟨T5, tL5, tk5, tn5⟩, -, X5, ⟨Lc5, hQ5, tl5, ty5, tz5⟩, st5⟩ := Jvm.LawKit.callS X3 hx (y := (⟨"com/example/tracegauge/tracegauge/MarkingSetDoubledPinLaw", "eq", "(JJ)I"⟩ : MethodName)) hown (mvT hZ (hw _ (List.mem_of_getElem? (i := 18) rfl))) (mvT hZ (hw _ (List.mem_of_getElem? (i := 19) rfl))) (mvT hZ (hw _ (List.mem_of_getElem? (i := 7) rfl))) (mvT hZ (hw _ (List.mem_of_getElem? (i := 20) rfl))) (by decide) (backOf (W := 1) (own_rm6 l Z a0 hw [] v1 j1 h0 n0 Z0 ) hZ (hw _ (List.mem_of_getElem? (i := 20) rfl)) (hw _ (List.mem_of_getElem? (i := 7) rfl)) (by decide) (by decide)) (g := (mkF m 19 #[.val (.ref a1), .val (.ref a2), .val (.long j1), .second, .unset, .unset] [(.long j1), (.long v1), (.int (own_eqv v0 j1))])) rfl (by rw [hml]; rfl) (argsL := [(.long v1), (.long j1)]) (rest := [(.int (own_eqv v0 j1))]) (lenOf own_pd1 rfl) rfl (by show 2 * 0 + _ ≤ _; exact Nat.le_of_eq rfl) (hb hby own_d5_19) (fun _ _ => ⟨rfl, K3, (by decide : 0 + 0 ≤ _), (by decide : 0 + 0 ≤ _)⟩)
    dsimp only [Pt.U, Pt.locs, Pt.cells, Pt.slots] at X5 tl5 ty5 tz5 st5 hQ5
    rw [tl5, ty5, tz5] at X5
    obtain ⟨rfl, Nq5, K5⟩ := hQ5
    have N5 := Fr.app N3 Nq5
    obtain ⟨cl6, Ar6, Q6, Sz6, Nn6, Ha6, Gf6⟩ := id P_V_a1
    have ghin6 : ¬ ((2 : Int32) < 0 ∨ cl6.slots.size ≤ ((2 : Int32)).toNatClampNeg) := inb_of Sz6 ⟨by decide, by decide⟩
    have ghat6 : cl6.slots[((2 : Int32)).toNatClampNeg]? = some (.long v2) := Ha6.at ghin6 rfl
    obtain ⟨_, _, ⟨T7, tL7, tk7, tn7⟩, -, X7, ⟨Lc7, hQ7, tl7, ty7, tz7⟩, st7⟩ := Jvm.LawKit.callS X5 hx (y := (⟨"com/example/tracegauge/tracegauge/MarkingSetDoubledPinLaw", "eq", "(JJ)I"⟩ : MethodName)) hown (mvT hZ (hw _ (List.mem_of_getElem? (i := 18) rfl))) (mvT hZ (hw _ (List.mem_of_getElem? (i := 19) rfl))) (mvT hZ (hw _ (List.mem_of_getElem? (i := 7) rfl))) (mvT hZ (hw _ (List.mem_of_getElem? (i := 20) rfl))) (by decide) (backOf (W := 1) (own_rm6 l Z a0 hw [] v2 j1 h0 n0 Z0 ) hZ (hw _ (List.mem_of_getElem? (i := 20) rfl)) (hw _ (List.mem_of_getElem? (i := 7) rfl)) (by decide) (by decide)) (g := (mkF m 27 #[.val (.ref a1), .val (.ref a2), .val (.long j1), .second, .unset, .unset] [(.long j1), (.long v2), (.int ((own_eqv v0 j1) + (own_eqv v1 j1)))])) rfl (by rw [hml]; rfl) (argsL := [(.long v2), (.long j1)]) (rest := [(.int ((own_eqv v0 j1) + (own_eqv v1 j1)))]) (lenOf own_pd1 rfl) rfl (by show 2 * 0 + _ ≤ _; exact Nat.le_of_eq rfl) (hb hby own_d5_27) (fun _ _ => ⟨rfl, K5, (by decide : 0 + 0 ≤ _), (by decide : 0 + 0 ≤ _)⟩)
    dsimp only [Pt.U, Pt.locs, Pt.cells, Pt.slots] at X7 tl7 ty7 tz7 st7 hQ7
    rw [tl7, ty7, tz7] at X7
    obtain ⟨rfl, Nq7, K7⟩ := hQ7
    have N7 := Fr.app N5 Nq7
    obtain ⟨cl8, Ar8, Q8, Sz8, Nn8, Ha8, Gf8⟩ := id P_V_a1
    have ghin8 : ¬ ((3 : Int32) < 0 ∨ cl8.slots.size ≤ ((3 : Int32)).toNatClampNeg) := inb_of Sz8 ⟨by decide, by decide⟩
    have ghat8 : cl8.slots[((3 : Int32)).toNatClampNeg]? = some (.long v3) := Ha8.at ghin8 rfl
    obtain ⟨_, _, ⟨T9, tL9, tk9, tn9⟩, -, X9, ⟨Lc9, hQ9, tl9, ty9, tz9⟩, st9⟩ := Jvm.LawKit.callS X7 hx (y := (⟨"com/example/tracegauge/tracegauge/MarkingSetDoubledPinLaw", "eq", "(JJ)I"⟩ : MethodName)) hown (mvT hZ (hw _ (List.mem_of_getElem? (i := 18) rfl))) (mvT hZ (hw _ (List.mem_of_getElem? (i := 19) rfl))) (mvT hZ (hw _ (List.mem_of_getElem? (i := 7) rfl))) (mvT hZ (hw _ (List.mem_of_getElem? (i := 20) rfl))) (by decide) (backOf (W := 1) (own_rm6 l Z a0 hw [] v3 j1 h0 n0 Z0 ) hZ (hw _ (List.mem_of_getElem? (i := 20) rfl)) (hw _ (List.mem_of_getElem? (i := 7) rfl)) (by decide) (by decide)) (g := (mkF m 35 #[.val (.ref a1), .val (.ref a2), .val (.long j1), .second, .unset, .unset] [(.long j1), (.long v3), (.int (((own_eqv v0 j1) + (own_eqv v1 j1)) + (own_eqv v2 j1)))])) rfl (by rw [hml]; rfl) (argsL := [(.long v3), (.long j1)]) (rest := [(.int (((own_eqv v0 j1) + (own_eqv v1 j1)) + (own_eqv v2 j1)))]) (lenOf own_pd1 rfl) rfl (by show 2 * 0 + _ ≤ _; exact Nat.le_of_eq rfl) (hb hby own_d5_35) (fun _ _ => ⟨rfl, K7, (by decide : 0 + 0 ≤ _), (by decide : 0 + 0 ≤ _)⟩)
    dsimp only [Pt.U, Pt.locs, Pt.cells, Pt.slots] at X9 tl9 ty9 tz9 st9 hQ9
    rw [tl9, ty9, tz9] at X9
    obtain ⟨rfl, Nq9, K9⟩ := hQ9
    have N9 := Fr.app N7 Nq9
    obtain ⟨cl10, Ar10, Q10, Sz10, Nn10, Ha10, Gf10⟩ := id P_V_a2
    have ghin10 : ¬ ((0 : Int32) < 0 ∨ cl10.slots.size ≤ ((0 : Int32)).toNatClampNeg) := inb_of Sz10 ⟨by decide, by decide⟩
    have ghat10 : cl10.slots[((0 : Int32)).toNatClampNeg]? = some (.long x0) := Ha10.at ghin10 rfl
    obtain ⟨_, _, ⟨T11, tL11, tk11, tn11⟩, -, X11, ⟨Lc11, hQ11, tl11, ty11, tz11⟩, st11⟩ := Jvm.LawKit.callS X9 hx (y := (⟨"com/example/tracegauge/tracegauge/MarkingSetDoubledPinLaw", "eq", "(JJ)I"⟩ : MethodName)) hown (mvT hZ (hw _ (List.mem_of_getElem? (i := 18) rfl))) (mvT hZ (hw _ (List.mem_of_getElem? (i := 19) rfl))) (mvT hZ (hw _ (List.mem_of_getElem? (i := 7) rfl))) (mvT hZ (hw _ (List.mem_of_getElem? (i := 20) rfl))) (by decide) (backOf (W := 0) (own_rm6 l Z a0 hw [] x0 j1 h0 n0 Z0 ) hZ (hw _ (List.mem_of_getElem? (i := 20) rfl)) (hw _ (List.mem_of_getElem? (i := 7) rfl)) (by decide) (by decide)) (g := (mkF m 45 #[.val (.ref a1), .val (.ref a2), .val (.long j1), .second, .val (.int ((((own_eqv v0 j1) + (own_eqv v1 j1)) + (own_eqv v2 j1)) + (own_eqv v3 j1))), .unset] [(.long j1), (.long x0)])) rfl (by rw [hml]; rfl) (argsL := [(.long x0), (.long j1)]) (rest := []) (lenOf own_pd1 rfl) rfl (by show 2 * 0 + _ ≤ _; exact Nat.le_of_eq rfl) (hb hby own_d5_45) (fun _ _ => ⟨rfl, K9, (by decide : 0 + 0 ≤ _), (by decide : 0 + 0 ≤ _)⟩)
    dsimp only [Pt.U, Pt.locs, Pt.cells, Pt.slots] at X11 tl11 ty11 tz11 st11 hQ11
    rw [tl11, ty11, tz11] at X11
    obtain ⟨rfl, Nq11, K11⟩ := hQ11
    have N11 := Fr.app N9 Nq11
    obtain ⟨cl12, Ar12, Q12, Sz12, Nn12, Ha12, Gf12⟩ := id P_V_a2
    have ghin12 : ¬ ((1 : Int32) < 0 ∨ cl12.slots.size ≤ ((1 : Int32)).toNatClampNeg) := inb_of Sz12 ⟨by decide, by decide⟩
    have ghat12 : cl12.slots[((1 : Int32)).toNatClampNeg]? = some (.long x1) := Ha12.at ghin12 rfl
    obtain ⟨_, _, ⟨T13, tL13, tk13, tn13⟩, -, X13, ⟨Lc13, hQ13, tl13, ty13, tz13⟩, st13⟩ := Jvm.LawKit.callS X11 hx (y := (⟨"com/example/tracegauge/tracegauge/MarkingSetDoubledPinLaw", "eq", "(JJ)I"⟩ : MethodName)) hown (mvT hZ (hw _ (List.mem_of_getElem? (i := 18) rfl))) (mvT hZ (hw _ (List.mem_of_getElem? (i := 19) rfl))) (mvT hZ (hw _ (List.mem_of_getElem? (i := 7) rfl))) (mvT hZ (hw _ (List.mem_of_getElem? (i := 20) rfl))) (by decide) (backOf (W := 1) (own_rm6 l Z a0 hw [] x1 j1 h0 n0 Z0 ) hZ (hw _ (List.mem_of_getElem? (i := 20) rfl)) (hw _ (List.mem_of_getElem? (i := 7) rfl)) (by decide) (by decide)) (g := (mkF m 52 #[.val (.ref a1), .val (.ref a2), .val (.long j1), .second, .val (.int ((((own_eqv v0 j1) + (own_eqv v1 j1)) + (own_eqv v2 j1)) + (own_eqv v3 j1))), .unset] [(.long j1), (.long x1), (.int (own_eqv x0 j1))])) rfl (by rw [hml]; rfl) (argsL := [(.long x1), (.long j1)]) (rest := [(.int (own_eqv x0 j1))]) (lenOf own_pd1 rfl) rfl (by show 2 * 0 + _ ≤ _; exact Nat.le_of_eq rfl) (hb hby own_d5_52) (fun _ _ => ⟨rfl, K11, (by decide : 0 + 0 ≤ _), (by decide : 0 + 0 ≤ _)⟩)
    dsimp only [Pt.U, Pt.locs, Pt.cells, Pt.slots] at X13 tl13 ty13 tz13 st13 hQ13
    rw [tl13, ty13, tz13] at X13
    obtain ⟨rfl, Nq13, K13⟩ := hQ13
    have N13 := Fr.app N11 Nq13
    obtain ⟨cl14, Ar14, Q14, Sz14, Nn14, Ha14, Gf14⟩ := id P_V_a2
    have ghin14 : ¬ ((2 : Int32) < 0 ∨ cl14.slots.size ≤ ((2 : Int32)).toNatClampNeg) := inb_of Sz14 ⟨by decide, by decide⟩
    have ghat14 : cl14.slots[((2 : Int32)).toNatClampNeg]? = some (.long x2) := Ha14.at ghin14 rfl
    obtain ⟨_, _, ⟨T15, tL15, tk15, tn15⟩, -, X15, ⟨Lc15, hQ15, tl15, ty15, tz15⟩, st15⟩ := Jvm.LawKit.callS X13 hx (y := (⟨"com/example/tracegauge/tracegauge/MarkingSetDoubledPinLaw", "eq", "(JJ)I"⟩ : MethodName)) hown (mvT hZ (hw _ (List.mem_of_getElem? (i := 18) rfl))) (mvT hZ (hw _ (List.mem_of_getElem? (i := 19) rfl))) (mvT hZ (hw _ (List.mem_of_getElem? (i := 7) rfl))) (mvT hZ (hw _ (List.mem_of_getElem? (i := 20) rfl))) (by decide) (backOf (W := 1) (own_rm6 l Z a0 hw [] x2 j1 h0 n0 Z0 ) hZ (hw _ (List.mem_of_getElem? (i := 20) rfl)) (hw _ (List.mem_of_getElem? (i := 7) rfl)) (by decide) (by decide)) (g := (mkF m 60 #[.val (.ref a1), .val (.ref a2), .val (.long j1), .second, .val (.int ((((own_eqv v0 j1) + (own_eqv v1 j1)) + (own_eqv v2 j1)) + (own_eqv v3 j1))), .unset] [(.long j1), (.long x2), (.int ((own_eqv x0 j1) + (own_eqv x1 j1)))])) rfl (by rw [hml]; rfl) (argsL := [(.long x2), (.long j1)]) (rest := [(.int ((own_eqv x0 j1) + (own_eqv x1 j1)))]) (lenOf own_pd1 rfl) rfl (by show 2 * 0 + _ ≤ _; exact Nat.le_of_eq rfl) (hb hby own_d5_60) (fun _ _ => ⟨rfl, K13, (by decide : 0 + 0 ≤ _), (by decide : 0 + 0 ≤ _)⟩)
    dsimp only [Pt.U, Pt.locs, Pt.cells, Pt.slots] at X15 tl15 ty15 tz15 st15 hQ15
    rw [tl15, ty15, tz15] at X15
    obtain ⟨rfl, Nq15, K15⟩ := hQ15
    have N15 := Fr.app N13 Nq15
    obtain ⟨cl16, Ar16, Q16, Sz16, Nn16, Ha16, Gf16⟩ := id P_V_a2
    have ghin16 : ¬ ((3 : Int32) < 0 ∨ cl16.slots.size ≤ ((3 : Int32)).toNatClampNeg) := inb_of Sz16 ⟨by decide, by decide⟩
    have ghat16 : cl16.slots[((3 : Int32)).toNatClampNeg]? = some (.long x3) := Ha16.at ghin16 rfl
    obtain ⟨_, _, ⟨T17, tL17, tk17, tn17⟩, -, X17, ⟨Lc17, hQ17, tl17, ty17, tz17⟩, st17⟩ := Jvm.LawKit.callS X15 hx (y := (⟨"com/example/tracegauge/tracegauge/MarkingSetDoubledPinLaw", "eq", "(JJ)I"⟩ : MethodName)) hown (mvT hZ (hw _ (List.mem_of_getElem? (i := 18) rfl))) (mvT hZ (hw _ (List.mem_of_getElem? (i := 19) rfl))) (mvT hZ (hw _ (List.mem_of_getElem? (i := 7) rfl))) (mvT hZ (hw _ (List.mem_of_getElem? (i := 20) rfl))) (by decide) (backOf (W := 1) (own_rm6 l Z a0 hw [] x3 j1 h0 n0 Z0 ) hZ (hw _ (List.mem_of_getElem? (i := 20) rfl)) (hw _ (List.mem_of_getElem? (i := 7) rfl)) (by decide) (by decide)) (g := (mkF m 68 #[.val (.ref a1), .val (.ref a2), .val (.long j1), .second, .val (.int ((((own_eqv v0 j1) + (own_eqv v1 j1)) + (own_eqv v2 j1)) + (own_eqv v3 j1))), .unset] [(.long j1), (.long x3), (.int (((own_eqv x0 j1) + (own_eqv x1 j1)) + (own_eqv x2 j1)))])) rfl (by rw [hml]; rfl) (argsL := [(.long x3), (.long j1)]) (rest := [(.int (((own_eqv x0 j1) + (own_eqv x1 j1)) + (own_eqv x2 j1)))]) (lenOf own_pd1 rfl) rfl (by show 2 * 0 + _ ≤ _; exact Nat.le_of_eq rfl) (hb hby own_d5_68) (fun _ _ => ⟨rfl, K15, (by decide : 0 + 0 ≤ _), (by decide : 0 + 0 ≤ _)⟩)
    dsimp only [Pt.U, Pt.locs, Pt.cells, Pt.slots] at X17 tl17 ty17 tz17 st17 hQ17
    rw [tl17, ty17, tz17] at X17
    obtain ⟨rfl, Nq17, K17⟩ := hQ17
    have N17 := Fr.app N15 Nq17
    obtain ⟨cl18, Ar18, Q18, Sz18, Nn18, Ha18, Gf18⟩ := id P_V_a2
    have ghin18 : ¬ ((4 : Int32) < 0 ∨ cl18.slots.size ≤ ((4 : Int32)).toNatClampNeg) := inb_of Sz18 ⟨by decide, by decide⟩
    have ghat18 : cl18.slots[((4 : Int32)).toNatClampNeg]? = some (.long x4) := Ha18.at ghin18 rfl
    obtain ⟨_, _, ⟨T19, tL19, tk19, tn19⟩, -, X19, ⟨Lc19, hQ19, tl19, ty19, tz19⟩, st19⟩ := Jvm.LawKit.callS X17 hx (y := (⟨"com/example/tracegauge/tracegauge/MarkingSetDoubledPinLaw", "eq", "(JJ)I"⟩ : MethodName)) hown (mvT hZ (hw _ (List.mem_of_getElem? (i := 18) rfl))) (mvT hZ (hw _ (List.mem_of_getElem? (i := 19) rfl))) (mvT hZ (hw _ (List.mem_of_getElem? (i := 7) rfl))) (mvT hZ (hw _ (List.mem_of_getElem? (i := 20) rfl))) (by decide) (backOf (W := 1) (own_rm6 l Z a0 hw [] x4 j1 h0 n0 Z0 ) hZ (hw _ (List.mem_of_getElem? (i := 20) rfl)) (hw _ (List.mem_of_getElem? (i := 7) rfl)) (by decide) (by decide)) (g := (mkF m 76 #[.val (.ref a1), .val (.ref a2), .val (.long j1), .second, .val (.int ((((own_eqv v0 j1) + (own_eqv v1 j1)) + (own_eqv v2 j1)) + (own_eqv v3 j1))), .unset] [(.long j1), (.long x4), (.int ((((own_eqv x0 j1) + (own_eqv x1 j1)) + (own_eqv x2 j1)) + (own_eqv x3 j1)))])) rfl (by rw [hml]; rfl) (argsL := [(.long x4), (.long j1)]) (rest := [(.int ((((own_eqv x0 j1) + (own_eqv x1 j1)) + (own_eqv x2 j1)) + (own_eqv x3 j1)))]) (lenOf own_pd1 rfl) rfl (by show 2 * 0 + _ ≤ _; exact Nat.le_of_eq rfl) (hb hby own_d5_76) (fun _ _ => ⟨rfl, K17, (by decide : 0 + 0 ≤ _), (by decide : 0 + 0 ≤ _)⟩)
    dsimp only [Pt.U, Pt.locs, Pt.cells, Pt.slots] at X19 tl19 ty19 tz19 st19 hQ19
    rw [tl19, ty19, tz19] at X19
    obtain ⟨rfl, Nq19, K19⟩ := hQ19
    have N19 := Fr.app N17 Nq19
    obtain ⟨cl20, Ar20, Q20, Sz20, Nn20, Ha20, Gf20⟩ := id P_V_a2
    have ghin20 : ¬ ((5 : Int32) < 0 ∨ cl20.slots.size ≤ ((5 : Int32)).toNatClampNeg) := inb_of Sz20 ⟨by decide, by decide⟩
    have ghat20 : cl20.slots[((5 : Int32)).toNatClampNeg]? = some (.long x5) := Ha20.at ghin20 rfl
    obtain ⟨_, _, ⟨T21, tL21, tk21, tn21⟩, -, X21, ⟨Lc21, hQ21, tl21, ty21, tz21⟩, st21⟩ := Jvm.LawKit.callS X19 hx (y := (⟨"com/example/tracegauge/tracegauge/MarkingSetDoubledPinLaw", "eq", "(JJ)I"⟩ : MethodName)) hown (mvT hZ (hw _ (List.mem_of_getElem? (i := 18) rfl))) (mvT hZ (hw _ (List.mem_of_getElem? (i := 19) rfl))) (mvT hZ (hw _ (List.mem_of_getElem? (i := 7) rfl))) (mvT hZ (hw _ (List.mem_of_getElem? (i := 20) rfl))) (by decide) (backOf (W := 1) (own_rm6 l Z a0 hw [] x5 j1 h0 n0 Z0 ) hZ (hw _ (List.mem_of_getElem? (i := 20) rfl)) (hw _ (List.mem_of_getElem? (i := 7) rfl)) (by decide) (by decide)) (g := (mkF m 84 #[.val (.ref a1), .val (.ref a2), .val (.long j1), .second, .val (.int ((((own_eqv v0 j1) + (own_eqv v1 j1)) + (own_eqv v2 j1)) + (own_eqv v3 j1))), .unset] [(.long j1), (.long x5), (.int (((((own_eqv x0 j1) + (own_eqv x1 j1)) + (own_eqv x2 j1)) + (own_eqv x3 j1)) + (own_eqv x4 j1)))])) rfl (by rw [hml]; rfl) (argsL := [(.long x5), (.long j1)]) (rest := [(.int (((((own_eqv x0 j1) + (own_eqv x1 j1)) + (own_eqv x2 j1)) + (own_eqv x3 j1)) + (own_eqv x4 j1)))]) (lenOf own_pd1 rfl) rfl (by show 2 * 0 + _ ≤ _; exact Nat.le_of_eq rfl) (hb hby own_d5_84) (fun _ _ => ⟨rfl, K19, (by decide : 0 + 0 ≤ _), (by decide : 0 + 0 ≤ _)⟩)
    dsimp only [Pt.U, Pt.locs, Pt.cells, Pt.slots] at X21 tl21 ty21 tz21 st21 hQ21
    rw [tl21, ty21, tz21] at X21
    obtain ⟨rfl, Nq21, K21⟩ := hQ21
    have N21 := Fr.app N19 Nq21
    obtain ⟨cl22, Ar22, Q22, Sz22, Nn22, Ha22, Gf22⟩ := id P_V_a2
    have ghin22 : ¬ ((6 : Int32) < 0 ∨ cl22.slots.size ≤ ((6 : Int32)).toNatClampNeg) := inb_of Sz22 ⟨by decide, by decide⟩
    have ghat22 : cl22.slots[((6 : Int32)).toNatClampNeg]? = some (.long x6) := Ha22.at ghin22 rfl
    obtain ⟨_, _, ⟨T23, tL23, tk23, tn23⟩, -, X23, ⟨Lc23, hQ23, tl23, ty23, tz23⟩, st23⟩ := Jvm.LawKit.callS X21 hx (y := (⟨"com/example/tracegauge/tracegauge/MarkingSetDoubledPinLaw", "eq", "(JJ)I"⟩ : MethodName)) hown (mvT hZ (hw _ (List.mem_of_getElem? (i := 18) rfl))) (mvT hZ (hw _ (List.mem_of_getElem? (i := 19) rfl))) (mvT hZ (hw _ (List.mem_of_getElem? (i := 7) rfl))) (mvT hZ (hw _ (List.mem_of_getElem? (i := 20) rfl))) (by decide) (backOf (W := 1) (own_rm6 l Z a0 hw [] x6 j1 h0 n0 Z0 ) hZ (hw _ (List.mem_of_getElem? (i := 20) rfl)) (hw _ (List.mem_of_getElem? (i := 7) rfl)) (by decide) (by decide)) (g := (mkF m 93 #[.val (.ref a1), .val (.ref a2), .val (.long j1), .second, .val (.int ((((own_eqv v0 j1) + (own_eqv v1 j1)) + (own_eqv v2 j1)) + (own_eqv v3 j1))), .unset] [(.long j1), (.long x6), (.int ((((((own_eqv x0 j1) + (own_eqv x1 j1)) + (own_eqv x2 j1)) + (own_eqv x3 j1)) + (own_eqv x4 j1)) + (own_eqv x5 j1)))])) rfl (by rw [hml]; rfl) (argsL := [(.long x6), (.long j1)]) (rest := [(.int ((((((own_eqv x0 j1) + (own_eqv x1 j1)) + (own_eqv x2 j1)) + (own_eqv x3 j1)) + (own_eqv x4 j1)) + (own_eqv x5 j1)))]) (lenOf own_pd1 rfl) rfl (by show 2 * 0 + _ ≤ _; exact Nat.le_of_eq rfl) (hb hby own_d5_93) (fun _ _ => ⟨rfl, K21, (by decide : 0 + 0 ≤ _), (by decide : 0 + 0 ≤ _)⟩)
    dsimp only [Pt.U, Pt.locs, Pt.cells, Pt.slots] at X23 tl23 ty23 tz23 st23 hQ23
    rw [tl23, ty23, tz23] at X23
    obtain ⟨rfl, Nq23, K23⟩ := hQ23
    have N23 := Fr.app N21 Nq23
    obtain ⟨cl24, Ar24, Q24, Sz24, Nn24, Ha24, Gf24⟩ := id P_V_a2
    have ghin24 : ¬ ((7 : Int32) < 0 ∨ cl24.slots.size ≤ ((7 : Int32)).toNatClampNeg) := inb_of Sz24 ⟨by decide, by decide⟩
    have ghat24 : cl24.slots[((7 : Int32)).toNatClampNeg]? = some (.long x7) := Ha24.at ghin24 rfl
    obtain ⟨_, _, ⟨T25, tL25, tk25, tn25⟩, -, X25, ⟨Lc25, hQ25, tl25, ty25, tz25⟩, st25⟩ := Jvm.LawKit.callS X23 hx (y := (⟨"com/example/tracegauge/tracegauge/MarkingSetDoubledPinLaw", "eq", "(JJ)I"⟩ : MethodName)) hown (mvT hZ (hw _ (List.mem_of_getElem? (i := 18) rfl))) (mvT hZ (hw _ (List.mem_of_getElem? (i := 19) rfl))) (mvT hZ (hw _ (List.mem_of_getElem? (i := 7) rfl))) (mvT hZ (hw _ (List.mem_of_getElem? (i := 20) rfl))) (by decide) (backOf (W := 1) (own_rm6 l Z a0 hw [] x7 j1 h0 n0 Z0 ) hZ (hw _ (List.mem_of_getElem? (i := 20) rfl)) (hw _ (List.mem_of_getElem? (i := 7) rfl)) (by decide) (by decide)) (g := (mkF m 102 #[.val (.ref a1), .val (.ref a2), .val (.long j1), .second, .val (.int ((((own_eqv v0 j1) + (own_eqv v1 j1)) + (own_eqv v2 j1)) + (own_eqv v3 j1))), .unset] [(.long j1), (.long x7), (.int (((((((own_eqv x0 j1) + (own_eqv x1 j1)) + (own_eqv x2 j1)) + (own_eqv x3 j1)) + (own_eqv x4 j1)) + (own_eqv x5 j1)) + (own_eqv x6 j1)))])) rfl (by rw [hml]; rfl) (argsL := [(.long x7), (.long j1)]) (rest := [(.int (((((((own_eqv x0 j1) + (own_eqv x1 j1)) + (own_eqv x2 j1)) + (own_eqv x3 j1)) + (own_eqv x4 j1)) + (own_eqv x5 j1)) + (own_eqv x6 j1)))]) (lenOf own_pd1 rfl) rfl (by show 2 * 0 + _ ≤ _; exact Nat.le_of_eq rfl) (hb hby own_d5_102) (fun _ _ => ⟨rfl, K23, (by decide : 0 + 0 ≤ _), (by decide : 0 + 0 ≤ _)⟩)
    dsimp only [Pt.U, Pt.locs, Pt.cells, Pt.slots] at X25 tl25 ty25 tz25 st25 hQ25
    rw [tl25, ty25, tz25] at X25
    obtain ⟨rfl, Nq25, K25⟩ := hQ25
    have N25 := Fr.app N23 Nq25
    obtain ⟨fs, hr, hrun, hended, hW, hsame⟩ := X25.leave (v := some (.int (1 : Int32))) (fun h => by rw [Bd.returns] at h; cases h)
    refine ⟨_, _, pre1 _ ?_, hrun, hended, _, _, rfl, ?_, ⟨_, rfl⟩, hW, hsame.mono (by decide) (by decide)⟩
    · show Steps p.tables e below (s₁.setTop (mkF m 3 #[.val (.ref a1), .val (.ref a2), .val (.long j1), .second, .unset, .unset] [(.int (XT.cmpL j1 (0 : Int64)))])) _
      refine XS.ifYes X0.here hx rfl (pc0 := 3) (pc' := 8) rfl (hb hby own_d5_3) rfl (XT.ll_ne_t h3) (by decide) (by decide) ?_
      show Steps p.tables e below (s₁.setTop (mkF m 8 #[.val (.ref a1), .val (.ref a2), .val (.long j1), .second, .unset, .unset] [])) _
      refine XS.aloadN X0.here hx rfl (hb hby own_d5_8) rfl rfl ?_
      show Steps p.tables e below (s₁.setTop (mkF m 9 #[.val (.ref a1), .val (.ref a2), .val (.long j1), .second, .unset, .unset] [(.ref a1)])) _
      refine XT.iconstV X0.here hx rfl (0 : Int32) (hb hby own_d5_9) rfl ?_
      show Steps p.tables e below (s₁.setTop (mkF m 10 #[.val (.ref a1), .val (.ref a2), .val (.long j1), .second, .unset, .unset] [(.int (0 : Int32)), (.ref a1)])) _
      refine X0.laload hx (j := (0 : Int32)) (v := (.long v0)) (by rw [e0]; exact Ar2.1) (State.isArrayOf_alike hZ.alike Ar2.2.1) Ar2.2.2 ghin2 ghat2 (g := (mkF m 10 #[.val (.ref a1), .val (.ref a2), .val (.long j1), .second, .unset, .unset] [(.int (0 : Int32)), (.ref a1)])) rfl rfl (hb hby own_d5_10) _ ?_
      show Steps p.tables e below (s₁.setTop (mkF m 11 #[.val (.ref a1), .val (.ref a2), .val (.long j1), .second, .unset, .unset] [(.long v0)])) _
      refine XT.lloadN X0.here hx rfl (hb hby own_d5_11) rfl ?_
      show Steps p.tables e below (s₁.setTop (mkF m 12 #[.val (.ref a1), .val (.ref a2), .val (.long j1), .second, .unset, .unset] [(.long j1), (.long v0)])) _
      refine st3 _ ?_
      show Steps p.tables e below (T3.setTop (mkF m 15 #[.val (.ref a1), .val (.ref a2), .val (.long j1), .second, .unset, .unset] [(.int (own_eqv v0 j1))])) _
      refine XS.aloadN X3.here hx rfl (hb hby own_d5_15) rfl rfl ?_
      show Steps p.tables e below (T3.setTop (mkF m 16 #[.val (.ref a1), .val (.ref a2), .val (.long j1), .second, .unset, .unset] [(.ref a1), (.int (own_eqv v0 j1))])) _
      refine XT.iconstV X3.here hx rfl (1 : Int32) (hb hby own_d5_16) rfl ?_
      show Steps p.tables e below (T3.setTop (mkF m 17 #[.val (.ref a1), .val (.ref a2), .val (.long j1), .second, .unset, .unset] [(.int (1 : Int32)), (.ref a1), (.int (own_eqv v0 j1))])) _
      refine X3.laload hx (j := (1 : Int32)) (v := (.long v1)) (by rw [K3]; exact Ar4.1) (State.isArrayOf_alike hZ.alike Ar4.2.1) Ar4.2.2 ghin4 ghat4 (g := (mkF m 17 #[.val (.ref a1), .val (.ref a2), .val (.long j1), .second, .unset, .unset] [(.int (1 : Int32)), (.ref a1), (.int (own_eqv v0 j1))])) rfl rfl (hb hby own_d5_17) _ ?_
      show Steps p.tables e below (T3.setTop (mkF m 18 #[.val (.ref a1), .val (.ref a2), .val (.long j1), .second, .unset, .unset] [(.long v1), (.int (own_eqv v0 j1))])) _
      refine XT.lloadN X3.here hx rfl (hb hby own_d5_18) rfl ?_
      show Steps p.tables e below (T3.setTop (mkF m 19 #[.val (.ref a1), .val (.ref a2), .val (.long j1), .second, .unset, .unset] [(.long j1), (.long v1), (.int (own_eqv v0 j1))])) _
      refine st5 _ ?_
      show Steps p.tables e below (T5.setTop (mkF m 22 #[.val (.ref a1), .val (.ref a2), .val (.long j1), .second, .unset, .unset] [(.int (own_eqv v1 j1)), (.int (own_eqv v0 j1))])) _
      refine XS.iadd X5.here hx rfl (hb hby own_d5_22) rfl ?_
      show Steps p.tables e below (T5.setTop (mkF m 23 #[.val (.ref a1), .val (.ref a2), .val (.long j1), .second, .unset, .unset] [(.int ((own_eqv v0 j1) + (own_eqv v1 j1)))])) _
      refine XS.aloadN X5.here hx rfl (hb hby own_d5_23) rfl rfl ?_
      show Steps p.tables e below (T5.setTop (mkF m 24 #[.val (.ref a1), .val (.ref a2), .val (.long j1), .second, .unset, .unset] [(.ref a1), (.int ((own_eqv v0 j1) + (own_eqv v1 j1)))])) _
      refine XT.iconstV X5.here hx rfl (2 : Int32) (hb hby own_d5_24) rfl ?_
      show Steps p.tables e below (T5.setTop (mkF m 25 #[.val (.ref a1), .val (.ref a2), .val (.long j1), .second, .unset, .unset] [(.int (2 : Int32)), (.ref a1), (.int ((own_eqv v0 j1) + (own_eqv v1 j1)))])) _
      refine X5.laload hx (j := (2 : Int32)) (v := (.long v2)) (by rw [K5]; exact Ar6.1) (State.isArrayOf_alike hZ.alike Ar6.2.1) Ar6.2.2 ghin6 ghat6 (g := (mkF m 25 #[.val (.ref a1), .val (.ref a2), .val (.long j1), .second, .unset, .unset] [(.int (2 : Int32)), (.ref a1), (.int ((own_eqv v0 j1) + (own_eqv v1 j1)))])) rfl rfl (hb hby own_d5_25) _ ?_
      show Steps p.tables e below (T5.setTop (mkF m 26 #[.val (.ref a1), .val (.ref a2), .val (.long j1), .second, .unset, .unset] [(.long v2), (.int ((own_eqv v0 j1) + (own_eqv v1 j1)))])) _
      refine XT.lloadN X5.here hx rfl (hb hby own_d5_26) rfl ?_
      show Steps p.tables e below (T5.setTop (mkF m 27 #[.val (.ref a1), .val (.ref a2), .val (.long j1), .second, .unset, .unset] [(.long j1), (.long v2), (.int ((own_eqv v0 j1) + (own_eqv v1 j1)))])) _
      refine st7 _ ?_
      show Steps p.tables e below (T7.setTop (mkF m 30 #[.val (.ref a1), .val (.ref a2), .val (.long j1), .second, .unset, .unset] [(.int (own_eqv v2 j1)), (.int ((own_eqv v0 j1) + (own_eqv v1 j1)))])) _
      refine XS.iadd X7.here hx rfl (hb hby own_d5_30) rfl ?_
      show Steps p.tables e below (T7.setTop (mkF m 31 #[.val (.ref a1), .val (.ref a2), .val (.long j1), .second, .unset, .unset] [(.int (((own_eqv v0 j1) + (own_eqv v1 j1)) + (own_eqv v2 j1)))])) _
      refine XS.aloadN X7.here hx rfl (hb hby own_d5_31) rfl rfl ?_
      show Steps p.tables e below (T7.setTop (mkF m 32 #[.val (.ref a1), .val (.ref a2), .val (.long j1), .second, .unset, .unset] [(.ref a1), (.int (((own_eqv v0 j1) + (own_eqv v1 j1)) + (own_eqv v2 j1)))])) _
      refine XT.iconstV X7.here hx rfl (3 : Int32) (hb hby own_d5_32) rfl ?_
      show Steps p.tables e below (T7.setTop (mkF m 33 #[.val (.ref a1), .val (.ref a2), .val (.long j1), .second, .unset, .unset] [(.int (3 : Int32)), (.ref a1), (.int (((own_eqv v0 j1) + (own_eqv v1 j1)) + (own_eqv v2 j1)))])) _
      refine X7.laload hx (j := (3 : Int32)) (v := (.long v3)) (by rw [K7]; exact Ar8.1) (State.isArrayOf_alike hZ.alike Ar8.2.1) Ar8.2.2 ghin8 ghat8 (g := (mkF m 33 #[.val (.ref a1), .val (.ref a2), .val (.long j1), .second, .unset, .unset] [(.int (3 : Int32)), (.ref a1), (.int (((own_eqv v0 j1) + (own_eqv v1 j1)) + (own_eqv v2 j1)))])) rfl rfl (hb hby own_d5_33) _ ?_
      show Steps p.tables e below (T7.setTop (mkF m 34 #[.val (.ref a1), .val (.ref a2), .val (.long j1), .second, .unset, .unset] [(.long v3), (.int (((own_eqv v0 j1) + (own_eqv v1 j1)) + (own_eqv v2 j1)))])) _
      refine XT.lloadN X7.here hx rfl (hb hby own_d5_34) rfl ?_
      show Steps p.tables e below (T7.setTop (mkF m 35 #[.val (.ref a1), .val (.ref a2), .val (.long j1), .second, .unset, .unset] [(.long j1), (.long v3), (.int (((own_eqv v0 j1) + (own_eqv v1 j1)) + (own_eqv v2 j1)))])) _
      refine st9 _ ?_
      show Steps p.tables e below (T9.setTop (mkF m 38 #[.val (.ref a1), .val (.ref a2), .val (.long j1), .second, .unset, .unset] [(.int (own_eqv v3 j1)), (.int (((own_eqv v0 j1) + (own_eqv v1 j1)) + (own_eqv v2 j1)))])) _
      refine XS.iadd X9.here hx rfl (hb hby own_d5_38) rfl ?_
      show Steps p.tables e below (T9.setTop (mkF m 39 #[.val (.ref a1), .val (.ref a2), .val (.long j1), .second, .unset, .unset] [(.int ((((own_eqv v0 j1) + (own_eqv v1 j1)) + (own_eqv v2 j1)) + (own_eqv v3 j1)))])) _
      refine XS.istore X9.here hx rfl (hb hby own_d5_39) rfl (l' := #[.val (.ref a1), .val (.ref a2), .val (.long j1), .second, .val (.int ((((own_eqv v0 j1) + (own_eqv v1 j1)) + (own_eqv v2 j1)) + (own_eqv v3 j1))), .unset]) rfl ?_
      show Steps p.tables e below (T9.setTop (mkF m 41 #[.val (.ref a1), .val (.ref a2), .val (.long j1), .second, .val (.int ((((own_eqv v0 j1) + (own_eqv v1 j1)) + (own_eqv v2 j1)) + (own_eqv v3 j1))), .unset] [])) _
      refine XS.aloadN X9.here hx rfl (hb hby own_d5_41) rfl rfl ?_
      show Steps p.tables e below (T9.setTop (mkF m 42 #[.val (.ref a1), .val (.ref a2), .val (.long j1), .second, .val (.int ((((own_eqv v0 j1) + (own_eqv v1 j1)) + (own_eqv v2 j1)) + (own_eqv v3 j1))), .unset] [(.ref a2)])) _
      refine XT.iconstV X9.here hx rfl (0 : Int32) (hb hby own_d5_42) rfl ?_
      show Steps p.tables e below (T9.setTop (mkF m 43 #[.val (.ref a1), .val (.ref a2), .val (.long j1), .second, .val (.int ((((own_eqv v0 j1) + (own_eqv v1 j1)) + (own_eqv v2 j1)) + (own_eqv v3 j1))), .unset] [(.int (0 : Int32)), (.ref a2)])) _
      refine X9.laload hx (j := (0 : Int32)) (v := (.long x0)) (by rw [K9]; exact Ar10.1) (State.isArrayOf_alike hZ.alike Ar10.2.1) Ar10.2.2 ghin10 ghat10 (g := (mkF m 43 #[.val (.ref a1), .val (.ref a2), .val (.long j1), .second, .val (.int ((((own_eqv v0 j1) + (own_eqv v1 j1)) + (own_eqv v2 j1)) + (own_eqv v3 j1))), .unset] [(.int (0 : Int32)), (.ref a2)])) rfl rfl (hb hby own_d5_43) _ ?_
      show Steps p.tables e below (T9.setTop (mkF m 44 #[.val (.ref a1), .val (.ref a2), .val (.long j1), .second, .val (.int ((((own_eqv v0 j1) + (own_eqv v1 j1)) + (own_eqv v2 j1)) + (own_eqv v3 j1))), .unset] [(.long x0)])) _
      refine XT.lloadN X9.here hx rfl (hb hby own_d5_44) rfl ?_
      show Steps p.tables e below (T9.setTop (mkF m 45 #[.val (.ref a1), .val (.ref a2), .val (.long j1), .second, .val (.int ((((own_eqv v0 j1) + (own_eqv v1 j1)) + (own_eqv v2 j1)) + (own_eqv v3 j1))), .unset] [(.long j1), (.long x0)])) _
      refine st11 _ ?_
      show Steps p.tables e below (T11.setTop (mkF m 48 #[.val (.ref a1), .val (.ref a2), .val (.long j1), .second, .val (.int ((((own_eqv v0 j1) + (own_eqv v1 j1)) + (own_eqv v2 j1)) + (own_eqv v3 j1))), .unset] [(.int (own_eqv x0 j1))])) _
      refine XS.aloadN X11.here hx rfl (hb hby own_d5_48) rfl rfl ?_
      show Steps p.tables e below (T11.setTop (mkF m 49 #[.val (.ref a1), .val (.ref a2), .val (.long j1), .second, .val (.int ((((own_eqv v0 j1) + (own_eqv v1 j1)) + (own_eqv v2 j1)) + (own_eqv v3 j1))), .unset] [(.ref a2), (.int (own_eqv x0 j1))])) _
      refine XT.iconstV X11.here hx rfl (1 : Int32) (hb hby own_d5_49) rfl ?_
      show Steps p.tables e below (T11.setTop (mkF m 50 #[.val (.ref a1), .val (.ref a2), .val (.long j1), .second, .val (.int ((((own_eqv v0 j1) + (own_eqv v1 j1)) + (own_eqv v2 j1)) + (own_eqv v3 j1))), .unset] [(.int (1 : Int32)), (.ref a2), (.int (own_eqv x0 j1))])) _
      refine X11.laload hx (j := (1 : Int32)) (v := (.long x1)) (by rw [K11]; exact Ar12.1) (State.isArrayOf_alike hZ.alike Ar12.2.1) Ar12.2.2 ghin12 ghat12 (g := (mkF m 50 #[.val (.ref a1), .val (.ref a2), .val (.long j1), .second, .val (.int ((((own_eqv v0 j1) + (own_eqv v1 j1)) + (own_eqv v2 j1)) + (own_eqv v3 j1))), .unset] [(.int (1 : Int32)), (.ref a2), (.int (own_eqv x0 j1))])) rfl rfl (hb hby own_d5_50) _ ?_
      show Steps p.tables e below (T11.setTop (mkF m 51 #[.val (.ref a1), .val (.ref a2), .val (.long j1), .second, .val (.int ((((own_eqv v0 j1) + (own_eqv v1 j1)) + (own_eqv v2 j1)) + (own_eqv v3 j1))), .unset] [(.long x1), (.int (own_eqv x0 j1))])) _
      refine XT.lloadN X11.here hx rfl (hb hby own_d5_51) rfl ?_
      show Steps p.tables e below (T11.setTop (mkF m 52 #[.val (.ref a1), .val (.ref a2), .val (.long j1), .second, .val (.int ((((own_eqv v0 j1) + (own_eqv v1 j1)) + (own_eqv v2 j1)) + (own_eqv v3 j1))), .unset] [(.long j1), (.long x1), (.int (own_eqv x0 j1))])) _
      refine st13 _ ?_
      show Steps p.tables e below (T13.setTop (mkF m 55 #[.val (.ref a1), .val (.ref a2), .val (.long j1), .second, .val (.int ((((own_eqv v0 j1) + (own_eqv v1 j1)) + (own_eqv v2 j1)) + (own_eqv v3 j1))), .unset] [(.int (own_eqv x1 j1)), (.int (own_eqv x0 j1))])) _
      refine XS.iadd X13.here hx rfl (hb hby own_d5_55) rfl ?_
      show Steps p.tables e below (T13.setTop (mkF m 56 #[.val (.ref a1), .val (.ref a2), .val (.long j1), .second, .val (.int ((((own_eqv v0 j1) + (own_eqv v1 j1)) + (own_eqv v2 j1)) + (own_eqv v3 j1))), .unset] [(.int ((own_eqv x0 j1) + (own_eqv x1 j1)))])) _
      refine XS.aloadN X13.here hx rfl (hb hby own_d5_56) rfl rfl ?_
      show Steps p.tables e below (T13.setTop (mkF m 57 #[.val (.ref a1), .val (.ref a2), .val (.long j1), .second, .val (.int ((((own_eqv v0 j1) + (own_eqv v1 j1)) + (own_eqv v2 j1)) + (own_eqv v3 j1))), .unset] [(.ref a2), (.int ((own_eqv x0 j1) + (own_eqv x1 j1)))])) _
      refine XT.iconstV X13.here hx rfl (2 : Int32) (hb hby own_d5_57) rfl ?_
      show Steps p.tables e below (T13.setTop (mkF m 58 #[.val (.ref a1), .val (.ref a2), .val (.long j1), .second, .val (.int ((((own_eqv v0 j1) + (own_eqv v1 j1)) + (own_eqv v2 j1)) + (own_eqv v3 j1))), .unset] [(.int (2 : Int32)), (.ref a2), (.int ((own_eqv x0 j1) + (own_eqv x1 j1)))])) _
      refine X13.laload hx (j := (2 : Int32)) (v := (.long x2)) (by rw [K13]; exact Ar14.1) (State.isArrayOf_alike hZ.alike Ar14.2.1) Ar14.2.2 ghin14 ghat14 (g := (mkF m 58 #[.val (.ref a1), .val (.ref a2), .val (.long j1), .second, .val (.int ((((own_eqv v0 j1) + (own_eqv v1 j1)) + (own_eqv v2 j1)) + (own_eqv v3 j1))), .unset] [(.int (2 : Int32)), (.ref a2), (.int ((own_eqv x0 j1) + (own_eqv x1 j1)))])) rfl rfl (hb hby own_d5_58) _ ?_
      show Steps p.tables e below (T13.setTop (mkF m 59 #[.val (.ref a1), .val (.ref a2), .val (.long j1), .second, .val (.int ((((own_eqv v0 j1) + (own_eqv v1 j1)) + (own_eqv v2 j1)) + (own_eqv v3 j1))), .unset] [(.long x2), (.int ((own_eqv x0 j1) + (own_eqv x1 j1)))])) _
      refine XT.lloadN X13.here hx rfl (hb hby own_d5_59) rfl ?_
      show Steps p.tables e below (T13.setTop (mkF m 60 #[.val (.ref a1), .val (.ref a2), .val (.long j1), .second, .val (.int ((((own_eqv v0 j1) + (own_eqv v1 j1)) + (own_eqv v2 j1)) + (own_eqv v3 j1))), .unset] [(.long j1), (.long x2), (.int ((own_eqv x0 j1) + (own_eqv x1 j1)))])) _
      refine st15 _ ?_
      show Steps p.tables e below (T15.setTop (mkF m 63 #[.val (.ref a1), .val (.ref a2), .val (.long j1), .second, .val (.int ((((own_eqv v0 j1) + (own_eqv v1 j1)) + (own_eqv v2 j1)) + (own_eqv v3 j1))), .unset] [(.int (own_eqv x2 j1)), (.int ((own_eqv x0 j1) + (own_eqv x1 j1)))])) _
      refine XS.iadd X15.here hx rfl (hb hby own_d5_63) rfl ?_
      show Steps p.tables e below (T15.setTop (mkF m 64 #[.val (.ref a1), .val (.ref a2), .val (.long j1), .second, .val (.int ((((own_eqv v0 j1) + (own_eqv v1 j1)) + (own_eqv v2 j1)) + (own_eqv v3 j1))), .unset] [(.int (((own_eqv x0 j1) + (own_eqv x1 j1)) + (own_eqv x2 j1)))])) _
      refine XS.aloadN X15.here hx rfl (hb hby own_d5_64) rfl rfl ?_
      show Steps p.tables e below (T15.setTop (mkF m 65 #[.val (.ref a1), .val (.ref a2), .val (.long j1), .second, .val (.int ((((own_eqv v0 j1) + (own_eqv v1 j1)) + (own_eqv v2 j1)) + (own_eqv v3 j1))), .unset] [(.ref a2), (.int (((own_eqv x0 j1) + (own_eqv x1 j1)) + (own_eqv x2 j1)))])) _
      refine XT.iconstV X15.here hx rfl (3 : Int32) (hb hby own_d5_65) rfl ?_
      show Steps p.tables e below (T15.setTop (mkF m 66 #[.val (.ref a1), .val (.ref a2), .val (.long j1), .second, .val (.int ((((own_eqv v0 j1) + (own_eqv v1 j1)) + (own_eqv v2 j1)) + (own_eqv v3 j1))), .unset] [(.int (3 : Int32)), (.ref a2), (.int (((own_eqv x0 j1) + (own_eqv x1 j1)) + (own_eqv x2 j1)))])) _
      refine X15.laload hx (j := (3 : Int32)) (v := (.long x3)) (by rw [K15]; exact Ar16.1) (State.isArrayOf_alike hZ.alike Ar16.2.1) Ar16.2.2 ghin16 ghat16 (g := (mkF m 66 #[.val (.ref a1), .val (.ref a2), .val (.long j1), .second, .val (.int ((((own_eqv v0 j1) + (own_eqv v1 j1)) + (own_eqv v2 j1)) + (own_eqv v3 j1))), .unset] [(.int (3 : Int32)), (.ref a2), (.int (((own_eqv x0 j1) + (own_eqv x1 j1)) + (own_eqv x2 j1)))])) rfl rfl (hb hby own_d5_66) _ ?_
      show Steps p.tables e below (T15.setTop (mkF m 67 #[.val (.ref a1), .val (.ref a2), .val (.long j1), .second, .val (.int ((((own_eqv v0 j1) + (own_eqv v1 j1)) + (own_eqv v2 j1)) + (own_eqv v3 j1))), .unset] [(.long x3), (.int (((own_eqv x0 j1) + (own_eqv x1 j1)) + (own_eqv x2 j1)))])) _
      refine XT.lloadN X15.here hx rfl (hb hby own_d5_67) rfl ?_
      show Steps p.tables e below (T15.setTop (mkF m 68 #[.val (.ref a1), .val (.ref a2), .val (.long j1), .second, .val (.int ((((own_eqv v0 j1) + (own_eqv v1 j1)) + (own_eqv v2 j1)) + (own_eqv v3 j1))), .unset] [(.long j1), (.long x3), (.int (((own_eqv x0 j1) + (own_eqv x1 j1)) + (own_eqv x2 j1)))])) _
      refine st17 _ ?_
      show Steps p.tables e below (T17.setTop (mkF m 71 #[.val (.ref a1), .val (.ref a2), .val (.long j1), .second, .val (.int ((((own_eqv v0 j1) + (own_eqv v1 j1)) + (own_eqv v2 j1)) + (own_eqv v3 j1))), .unset] [(.int (own_eqv x3 j1)), (.int (((own_eqv x0 j1) + (own_eqv x1 j1)) + (own_eqv x2 j1)))])) _
      refine XS.iadd X17.here hx rfl (hb hby own_d5_71) rfl ?_
      show Steps p.tables e below (T17.setTop (mkF m 72 #[.val (.ref a1), .val (.ref a2), .val (.long j1), .second, .val (.int ((((own_eqv v0 j1) + (own_eqv v1 j1)) + (own_eqv v2 j1)) + (own_eqv v3 j1))), .unset] [(.int ((((own_eqv x0 j1) + (own_eqv x1 j1)) + (own_eqv x2 j1)) + (own_eqv x3 j1)))])) _
      refine XS.aloadN X17.here hx rfl (hb hby own_d5_72) rfl rfl ?_
      show Steps p.tables e below (T17.setTop (mkF m 73 #[.val (.ref a1), .val (.ref a2), .val (.long j1), .second, .val (.int ((((own_eqv v0 j1) + (own_eqv v1 j1)) + (own_eqv v2 j1)) + (own_eqv v3 j1))), .unset] [(.ref a2), (.int ((((own_eqv x0 j1) + (own_eqv x1 j1)) + (own_eqv x2 j1)) + (own_eqv x3 j1)))])) _
      refine XT.iconstV X17.here hx rfl (4 : Int32) (hb hby own_d5_73) rfl ?_
      show Steps p.tables e below (T17.setTop (mkF m 74 #[.val (.ref a1), .val (.ref a2), .val (.long j1), .second, .val (.int ((((own_eqv v0 j1) + (own_eqv v1 j1)) + (own_eqv v2 j1)) + (own_eqv v3 j1))), .unset] [(.int (4 : Int32)), (.ref a2), (.int ((((own_eqv x0 j1) + (own_eqv x1 j1)) + (own_eqv x2 j1)) + (own_eqv x3 j1)))])) _
      refine X17.laload hx (j := (4 : Int32)) (v := (.long x4)) (by rw [K17]; exact Ar18.1) (State.isArrayOf_alike hZ.alike Ar18.2.1) Ar18.2.2 ghin18 ghat18 (g := (mkF m 74 #[.val (.ref a1), .val (.ref a2), .val (.long j1), .second, .val (.int ((((own_eqv v0 j1) + (own_eqv v1 j1)) + (own_eqv v2 j1)) + (own_eqv v3 j1))), .unset] [(.int (4 : Int32)), (.ref a2), (.int ((((own_eqv x0 j1) + (own_eqv x1 j1)) + (own_eqv x2 j1)) + (own_eqv x3 j1)))])) rfl rfl (hb hby own_d5_74) _ ?_
      show Steps p.tables e below (T17.setTop (mkF m 75 #[.val (.ref a1), .val (.ref a2), .val (.long j1), .second, .val (.int ((((own_eqv v0 j1) + (own_eqv v1 j1)) + (own_eqv v2 j1)) + (own_eqv v3 j1))), .unset] [(.long x4), (.int ((((own_eqv x0 j1) + (own_eqv x1 j1)) + (own_eqv x2 j1)) + (own_eqv x3 j1)))])) _
      refine XT.lloadN X17.here hx rfl (hb hby own_d5_75) rfl ?_
      show Steps p.tables e below (T17.setTop (mkF m 76 #[.val (.ref a1), .val (.ref a2), .val (.long j1), .second, .val (.int ((((own_eqv v0 j1) + (own_eqv v1 j1)) + (own_eqv v2 j1)) + (own_eqv v3 j1))), .unset] [(.long j1), (.long x4), (.int ((((own_eqv x0 j1) + (own_eqv x1 j1)) + (own_eqv x2 j1)) + (own_eqv x3 j1)))])) _
      refine st19 _ ?_
      show Steps p.tables e below (T19.setTop (mkF m 79 #[.val (.ref a1), .val (.ref a2), .val (.long j1), .second, .val (.int ((((own_eqv v0 j1) + (own_eqv v1 j1)) + (own_eqv v2 j1)) + (own_eqv v3 j1))), .unset] [(.int (own_eqv x4 j1)), (.int ((((own_eqv x0 j1) + (own_eqv x1 j1)) + (own_eqv x2 j1)) + (own_eqv x3 j1)))])) _
      refine XS.iadd X19.here hx rfl (hb hby own_d5_79) rfl ?_
      show Steps p.tables e below (T19.setTop (mkF m 80 #[.val (.ref a1), .val (.ref a2), .val (.long j1), .second, .val (.int ((((own_eqv v0 j1) + (own_eqv v1 j1)) + (own_eqv v2 j1)) + (own_eqv v3 j1))), .unset] [(.int (((((own_eqv x0 j1) + (own_eqv x1 j1)) + (own_eqv x2 j1)) + (own_eqv x3 j1)) + (own_eqv x4 j1)))])) _
      refine XS.aloadN X19.here hx rfl (hb hby own_d5_80) rfl rfl ?_
      show Steps p.tables e below (T19.setTop (mkF m 81 #[.val (.ref a1), .val (.ref a2), .val (.long j1), .second, .val (.int ((((own_eqv v0 j1) + (own_eqv v1 j1)) + (own_eqv v2 j1)) + (own_eqv v3 j1))), .unset] [(.ref a2), (.int (((((own_eqv x0 j1) + (own_eqv x1 j1)) + (own_eqv x2 j1)) + (own_eqv x3 j1)) + (own_eqv x4 j1)))])) _
      refine XT.iconstV X19.here hx rfl (5 : Int32) (hb hby own_d5_81) rfl ?_
      show Steps p.tables e below (T19.setTop (mkF m 82 #[.val (.ref a1), .val (.ref a2), .val (.long j1), .second, .val (.int ((((own_eqv v0 j1) + (own_eqv v1 j1)) + (own_eqv v2 j1)) + (own_eqv v3 j1))), .unset] [(.int (5 : Int32)), (.ref a2), (.int (((((own_eqv x0 j1) + (own_eqv x1 j1)) + (own_eqv x2 j1)) + (own_eqv x3 j1)) + (own_eqv x4 j1)))])) _
      refine X19.laload hx (j := (5 : Int32)) (v := (.long x5)) (by rw [K19]; exact Ar20.1) (State.isArrayOf_alike hZ.alike Ar20.2.1) Ar20.2.2 ghin20 ghat20 (g := (mkF m 82 #[.val (.ref a1), .val (.ref a2), .val (.long j1), .second, .val (.int ((((own_eqv v0 j1) + (own_eqv v1 j1)) + (own_eqv v2 j1)) + (own_eqv v3 j1))), .unset] [(.int (5 : Int32)), (.ref a2), (.int (((((own_eqv x0 j1) + (own_eqv x1 j1)) + (own_eqv x2 j1)) + (own_eqv x3 j1)) + (own_eqv x4 j1)))])) rfl rfl (hb hby own_d5_82) _ ?_
      show Steps p.tables e below (T19.setTop (mkF m 83 #[.val (.ref a1), .val (.ref a2), .val (.long j1), .second, .val (.int ((((own_eqv v0 j1) + (own_eqv v1 j1)) + (own_eqv v2 j1)) + (own_eqv v3 j1))), .unset] [(.long x5), (.int (((((own_eqv x0 j1) + (own_eqv x1 j1)) + (own_eqv x2 j1)) + (own_eqv x3 j1)) + (own_eqv x4 j1)))])) _
      refine XT.lloadN X19.here hx rfl (hb hby own_d5_83) rfl ?_
      show Steps p.tables e below (T19.setTop (mkF m 84 #[.val (.ref a1), .val (.ref a2), .val (.long j1), .second, .val (.int ((((own_eqv v0 j1) + (own_eqv v1 j1)) + (own_eqv v2 j1)) + (own_eqv v3 j1))), .unset] [(.long j1), (.long x5), (.int (((((own_eqv x0 j1) + (own_eqv x1 j1)) + (own_eqv x2 j1)) + (own_eqv x3 j1)) + (own_eqv x4 j1)))])) _
      refine st21 _ ?_
      show Steps p.tables e below (T21.setTop (mkF m 87 #[.val (.ref a1), .val (.ref a2), .val (.long j1), .second, .val (.int ((((own_eqv v0 j1) + (own_eqv v1 j1)) + (own_eqv v2 j1)) + (own_eqv v3 j1))), .unset] [(.int (own_eqv x5 j1)), (.int (((((own_eqv x0 j1) + (own_eqv x1 j1)) + (own_eqv x2 j1)) + (own_eqv x3 j1)) + (own_eqv x4 j1)))])) _
      refine XS.iadd X21.here hx rfl (hb hby own_d5_87) rfl ?_
      show Steps p.tables e below (T21.setTop (mkF m 88 #[.val (.ref a1), .val (.ref a2), .val (.long j1), .second, .val (.int ((((own_eqv v0 j1) + (own_eqv v1 j1)) + (own_eqv v2 j1)) + (own_eqv v3 j1))), .unset] [(.int ((((((own_eqv x0 j1) + (own_eqv x1 j1)) + (own_eqv x2 j1)) + (own_eqv x3 j1)) + (own_eqv x4 j1)) + (own_eqv x5 j1)))])) _
      refine XS.aloadN X21.here hx rfl (hb hby own_d5_88) rfl rfl ?_
      show Steps p.tables e below (T21.setTop (mkF m 89 #[.val (.ref a1), .val (.ref a2), .val (.long j1), .second, .val (.int ((((own_eqv v0 j1) + (own_eqv v1 j1)) + (own_eqv v2 j1)) + (own_eqv v3 j1))), .unset] [(.ref a2), (.int ((((((own_eqv x0 j1) + (own_eqv x1 j1)) + (own_eqv x2 j1)) + (own_eqv x3 j1)) + (own_eqv x4 j1)) + (own_eqv x5 j1)))])) _
      refine XT.bipushV X21.here hx rfl (6 : Int32) (hb hby own_d5_89) rfl ?_
      show Steps p.tables e below (T21.setTop (mkF m 91 #[.val (.ref a1), .val (.ref a2), .val (.long j1), .second, .val (.int ((((own_eqv v0 j1) + (own_eqv v1 j1)) + (own_eqv v2 j1)) + (own_eqv v3 j1))), .unset] [(.int (6 : Int32)), (.ref a2), (.int ((((((own_eqv x0 j1) + (own_eqv x1 j1)) + (own_eqv x2 j1)) + (own_eqv x3 j1)) + (own_eqv x4 j1)) + (own_eqv x5 j1)))])) _
      refine X21.laload hx (j := (6 : Int32)) (v := (.long x6)) (by rw [K21]; exact Ar22.1) (State.isArrayOf_alike hZ.alike Ar22.2.1) Ar22.2.2 ghin22 ghat22 (g := (mkF m 91 #[.val (.ref a1), .val (.ref a2), .val (.long j1), .second, .val (.int ((((own_eqv v0 j1) + (own_eqv v1 j1)) + (own_eqv v2 j1)) + (own_eqv v3 j1))), .unset] [(.int (6 : Int32)), (.ref a2), (.int ((((((own_eqv x0 j1) + (own_eqv x1 j1)) + (own_eqv x2 j1)) + (own_eqv x3 j1)) + (own_eqv x4 j1)) + (own_eqv x5 j1)))])) rfl rfl (hb hby own_d5_91) _ ?_
      show Steps p.tables e below (T21.setTop (mkF m 92 #[.val (.ref a1), .val (.ref a2), .val (.long j1), .second, .val (.int ((((own_eqv v0 j1) + (own_eqv v1 j1)) + (own_eqv v2 j1)) + (own_eqv v3 j1))), .unset] [(.long x6), (.int ((((((own_eqv x0 j1) + (own_eqv x1 j1)) + (own_eqv x2 j1)) + (own_eqv x3 j1)) + (own_eqv x4 j1)) + (own_eqv x5 j1)))])) _
      refine XT.lloadN X21.here hx rfl (hb hby own_d5_92) rfl ?_
      show Steps p.tables e below (T21.setTop (mkF m 93 #[.val (.ref a1), .val (.ref a2), .val (.long j1), .second, .val (.int ((((own_eqv v0 j1) + (own_eqv v1 j1)) + (own_eqv v2 j1)) + (own_eqv v3 j1))), .unset] [(.long j1), (.long x6), (.int ((((((own_eqv x0 j1) + (own_eqv x1 j1)) + (own_eqv x2 j1)) + (own_eqv x3 j1)) + (own_eqv x4 j1)) + (own_eqv x5 j1)))])) _
      refine st23 _ ?_
      show Steps p.tables e below (T23.setTop (mkF m 96 #[.val (.ref a1), .val (.ref a2), .val (.long j1), .second, .val (.int ((((own_eqv v0 j1) + (own_eqv v1 j1)) + (own_eqv v2 j1)) + (own_eqv v3 j1))), .unset] [(.int (own_eqv x6 j1)), (.int ((((((own_eqv x0 j1) + (own_eqv x1 j1)) + (own_eqv x2 j1)) + (own_eqv x3 j1)) + (own_eqv x4 j1)) + (own_eqv x5 j1)))])) _
      refine XS.iadd X23.here hx rfl (hb hby own_d5_96) rfl ?_
      show Steps p.tables e below (T23.setTop (mkF m 97 #[.val (.ref a1), .val (.ref a2), .val (.long j1), .second, .val (.int ((((own_eqv v0 j1) + (own_eqv v1 j1)) + (own_eqv v2 j1)) + (own_eqv v3 j1))), .unset] [(.int (((((((own_eqv x0 j1) + (own_eqv x1 j1)) + (own_eqv x2 j1)) + (own_eqv x3 j1)) + (own_eqv x4 j1)) + (own_eqv x5 j1)) + (own_eqv x6 j1)))])) _
      refine XS.aloadN X23.here hx rfl (hb hby own_d5_97) rfl rfl ?_
      show Steps p.tables e below (T23.setTop (mkF m 98 #[.val (.ref a1), .val (.ref a2), .val (.long j1), .second, .val (.int ((((own_eqv v0 j1) + (own_eqv v1 j1)) + (own_eqv v2 j1)) + (own_eqv v3 j1))), .unset] [(.ref a2), (.int (((((((own_eqv x0 j1) + (own_eqv x1 j1)) + (own_eqv x2 j1)) + (own_eqv x3 j1)) + (own_eqv x4 j1)) + (own_eqv x5 j1)) + (own_eqv x6 j1)))])) _
      refine XT.bipushV X23.here hx rfl (7 : Int32) (hb hby own_d5_98) rfl ?_
      show Steps p.tables e below (T23.setTop (mkF m 100 #[.val (.ref a1), .val (.ref a2), .val (.long j1), .second, .val (.int ((((own_eqv v0 j1) + (own_eqv v1 j1)) + (own_eqv v2 j1)) + (own_eqv v3 j1))), .unset] [(.int (7 : Int32)), (.ref a2), (.int (((((((own_eqv x0 j1) + (own_eqv x1 j1)) + (own_eqv x2 j1)) + (own_eqv x3 j1)) + (own_eqv x4 j1)) + (own_eqv x5 j1)) + (own_eqv x6 j1)))])) _
      refine X23.laload hx (j := (7 : Int32)) (v := (.long x7)) (by rw [K23]; exact Ar24.1) (State.isArrayOf_alike hZ.alike Ar24.2.1) Ar24.2.2 ghin24 ghat24 (g := (mkF m 100 #[.val (.ref a1), .val (.ref a2), .val (.long j1), .second, .val (.int ((((own_eqv v0 j1) + (own_eqv v1 j1)) + (own_eqv v2 j1)) + (own_eqv v3 j1))), .unset] [(.int (7 : Int32)), (.ref a2), (.int (((((((own_eqv x0 j1) + (own_eqv x1 j1)) + (own_eqv x2 j1)) + (own_eqv x3 j1)) + (own_eqv x4 j1)) + (own_eqv x5 j1)) + (own_eqv x6 j1)))])) rfl rfl (hb hby own_d5_100) _ ?_
      show Steps p.tables e below (T23.setTop (mkF m 101 #[.val (.ref a1), .val (.ref a2), .val (.long j1), .second, .val (.int ((((own_eqv v0 j1) + (own_eqv v1 j1)) + (own_eqv v2 j1)) + (own_eqv v3 j1))), .unset] [(.long x7), (.int (((((((own_eqv x0 j1) + (own_eqv x1 j1)) + (own_eqv x2 j1)) + (own_eqv x3 j1)) + (own_eqv x4 j1)) + (own_eqv x5 j1)) + (own_eqv x6 j1)))])) _
      refine XT.lloadN X23.here hx rfl (hb hby own_d5_101) rfl ?_
      show Steps p.tables e below (T23.setTop (mkF m 102 #[.val (.ref a1), .val (.ref a2), .val (.long j1), .second, .val (.int ((((own_eqv v0 j1) + (own_eqv v1 j1)) + (own_eqv v2 j1)) + (own_eqv v3 j1))), .unset] [(.long j1), (.long x7), (.int (((((((own_eqv x0 j1) + (own_eqv x1 j1)) + (own_eqv x2 j1)) + (own_eqv x3 j1)) + (own_eqv x4 j1)) + (own_eqv x5 j1)) + (own_eqv x6 j1)))])) _
      refine st25 _ ?_
      show Steps p.tables e below (T25.setTop (mkF m 105 #[.val (.ref a1), .val (.ref a2), .val (.long j1), .second, .val (.int ((((own_eqv v0 j1) + (own_eqv v1 j1)) + (own_eqv v2 j1)) + (own_eqv v3 j1))), .unset] [(.int (own_eqv x7 j1)), (.int (((((((own_eqv x0 j1) + (own_eqv x1 j1)) + (own_eqv x2 j1)) + (own_eqv x3 j1)) + (own_eqv x4 j1)) + (own_eqv x5 j1)) + (own_eqv x6 j1)))])) _
      refine XS.iadd X25.here hx rfl (hb hby own_d5_105) rfl ?_
      show Steps p.tables e below (T25.setTop (mkF m 106 #[.val (.ref a1), .val (.ref a2), .val (.long j1), .second, .val (.int ((((own_eqv v0 j1) + (own_eqv v1 j1)) + (own_eqv v2 j1)) + (own_eqv v3 j1))), .unset] [(.int ((((((((own_eqv x0 j1) + (own_eqv x1 j1)) + (own_eqv x2 j1)) + (own_eqv x3 j1)) + (own_eqv x4 j1)) + (own_eqv x5 j1)) + (own_eqv x6 j1)) + (own_eqv x7 j1)))])) _
      refine XS.istore X25.here hx rfl (hb hby own_d5_106) rfl (l' := #[.val (.ref a1), .val (.ref a2), .val (.long j1), .second, .val (.int ((((own_eqv v0 j1) + (own_eqv v1 j1)) + (own_eqv v2 j1)) + (own_eqv v3 j1))), .val (.int ((((((((own_eqv x0 j1) + (own_eqv x1 j1)) + (own_eqv x2 j1)) + (own_eqv x3 j1)) + (own_eqv x4 j1)) + (own_eqv x5 j1)) + (own_eqv x6 j1)) + (own_eqv x7 j1)))]) rfl ?_
      show Steps p.tables e below (T25.setTop (mkF m 108 #[.val (.ref a1), .val (.ref a2), .val (.long j1), .second, .val (.int ((((own_eqv v0 j1) + (own_eqv v1 j1)) + (own_eqv v2 j1)) + (own_eqv v3 j1))), .val (.int ((((((((own_eqv x0 j1) + (own_eqv x1 j1)) + (own_eqv x2 j1)) + (own_eqv x3 j1)) + (own_eqv x4 j1)) + (own_eqv x5 j1)) + (own_eqv x6 j1)) + (own_eqv x7 j1)))] [])) _
      refine XS.iload X25.here hx rfl (hb hby own_d5_108) rfl ?_
      show Steps p.tables e below (T25.setTop (mkF m 110 #[.val (.ref a1), .val (.ref a2), .val (.long j1), .second, .val (.int ((((own_eqv v0 j1) + (own_eqv v1 j1)) + (own_eqv v2 j1)) + (own_eqv v3 j1))), .val (.int ((((((((own_eqv x0 j1) + (own_eqv x1 j1)) + (own_eqv x2 j1)) + (own_eqv x3 j1)) + (own_eqv x4 j1)) + (own_eqv x5 j1)) + (own_eqv x6 j1)) + (own_eqv x7 j1)))] [(.int ((((own_eqv v0 j1) + (own_eqv v1 j1)) + (own_eqv v2 j1)) + (own_eqv v3 j1)))])) _
      refine XS.iload X25.here hx rfl (hb hby own_d5_110) rfl ?_
      show Steps p.tables e below (T25.setTop (mkF m 112 #[.val (.ref a1), .val (.ref a2), .val (.long j1), .second, .val (.int ((((own_eqv v0 j1) + (own_eqv v1 j1)) + (own_eqv v2 j1)) + (own_eqv v3 j1))), .val (.int ((((((((own_eqv x0 j1) + (own_eqv x1 j1)) + (own_eqv x2 j1)) + (own_eqv x3 j1)) + (own_eqv x4 j1)) + (own_eqv x5 j1)) + (own_eqv x6 j1)) + (own_eqv x7 j1)))] [(.int ((((((((own_eqv x0 j1) + (own_eqv x1 j1)) + (own_eqv x2 j1)) + (own_eqv x3 j1)) + (own_eqv x4 j1)) + (own_eqv x5 j1)) + (own_eqv x6 j1)) + (own_eqv x7 j1))), (.int ((((own_eqv v0 j1) + (own_eqv v1 j1)) + (own_eqv v2 j1)) + (own_eqv v3 j1)))])) _
      refine XS.icmpNo X25.here hx rfl (hb hby own_d5_112) rfl (XT.ii_ne_f (hc h3)) ?_
      show Steps p.tables e below (T25.setTop (mkF m 115 #[.val (.ref a1), .val (.ref a2), .val (.long j1), .second, .val (.int ((((own_eqv v0 j1) + (own_eqv v1 j1)) + (own_eqv v2 j1)) + (own_eqv v3 j1))), .val (.int ((((((((own_eqv x0 j1) + (own_eqv x1 j1)) + (own_eqv x2 j1)) + (own_eqv x3 j1)) + (own_eqv x4 j1)) + (own_eqv x5 j1)) + (own_eqv x6 j1)) + (own_eqv x7 j1)))] [])) _
      refine XT.iconstV X25.here hx rfl (1 : Int32) (hb hby own_d5_115) rfl ?_
      show Steps p.tables e below (T25.setTop (mkF m 116 #[.val (.ref a1), .val (.ref a2), .val (.long j1), .second, .val (.int ((((own_eqv v0 j1) + (own_eqv v1 j1)) + (own_eqv v2 j1)) + (own_eqv v3 j1))), .val (.int ((((((((own_eqv x0 j1) + (own_eqv x1 j1)) + (own_eqv x2 j1)) + (own_eqv x3 j1)) + (own_eqv x4 j1)) + (own_eqv x5 j1)) + (own_eqv x6 j1)) + (own_eqv x7 j1)))] [(.int (1 : Int32))])) _
      refine XS.goto X25.here hx rfl (pc0 := 116) (pc' := 120) rfl (hb hby own_d5_116) (by decide) (by decide) ?_
      show Steps p.tables e below (T25.setTop (mkF m 120 #[.val (.ref a1), .val (.ref a2), .val (.long j1), .second, .val (.int ((((own_eqv v0 j1) + (own_eqv v1 j1)) + (own_eqv v2 j1)) + (own_eqv v3 j1))), .val (.int ((((((((own_eqv x0 j1) + (own_eqv x1 j1)) + (own_eqv x2 j1)) + (own_eqv x3 j1)) + (own_eqv x4 j1)) + (own_eqv x5 j1)) + (own_eqv x6 j1)) + (own_eqv x7 j1)))] [(.int (1 : Int32))])) _
      exact retN X25 hx (t := .boolean) Bd.returns (by simp) (hb hby own_d5_120) hr
    · show own_Q5 Z a1 a2 j1 ka v0 v1 v2 v3 kd x0 x1 x2 x3 x4 x5 x6 x7 h0 n0 _ T25.heap _
      exact ⟨rfl, N25, K25⟩
theorem own_d8_0 : decode method_8_code 0 = .ok (.iload_n 2, 1) := by decide +kernel
theorem own_d8_1 : decode method_8_code 1 = .ok (.iload_n 3, 1) := by decide +kernel
theorem own_d8_2 : decode method_8_code 2 = .ok (.if_icmp .ge 16, 3) := by decide +kernel
theorem own_d8_5 : decode method_8_code 5 = .ok (.aload_n 0, 1) := by decide +kernel
theorem own_d8_6 : decode method_8_code 6 = .ok (.iload_n 1, 1) := by decide +kernel
theorem own_d8_7 : decode method_8_code 7 = .ok (.iload_n 2, 1) := by decide +kernel
theorem own_d8_8 : decode method_8_code 8 = .ok (.iadd, 1) := by decide +kernel
theorem own_d8_9 : decode method_8_code 9 = .ok (.bipush 7, 2) := by decide +kernel
theorem own_d8_11 : decode method_8_code 11 = .ok (.iand, 1) := by decide +kernel
theorem own_d8_12 : decode method_8_code 12 = .ok (.laload, 1) := by decide +kernel
theorem own_d8_13 : decode method_8_code 13 = .ok (.lconst 0, 1) := by decide +kernel
theorem own_d8_14 : decode method_8_code 14 = .ok (.lcmp, 1) := by decide +kernel
theorem own_d8_15 : decode method_8_code 15 = .ok (.ifCond .eq 7, 3) := by decide +kernel
theorem own_d8_18 : decode method_8_code 18 = .ok (.iconst 1, 1) := by decide +kernel
theorem own_d8_19 : decode method_8_code 19 = .ok (.goto 4, 3) := by decide +kernel
theorem own_d8_22 : decode method_8_code 22 = .ok (.iconst 0, 1) := by decide +kernel
theorem own_d8_23 : decode method_8_code 23 = .ok (.ireturn, 1) := by decide +kernel
theorem own_pn8 : plainName "com/example/tracegauge/tracegauge/MarkingSetDoubledPinLaw" = true := by first | (simp [plainName, overriddenIn]; done) | decide +kernel
theorem own_ef8 (m : MethodId) (a1 : Addr) (i1 : Int32) (k1 : Int32) (d1 : Int32) : entryFrame m #[(.ref a1), (.int i1), (.int k1), (.int d1)] 4 = mkF m 0 #[.val (.ref a1), .val (.int i1), .val (.int k1), .val (.int d1)] [] := by first | (simp [entryFrame, mkF, argsToLocals, Value.category]; done) | rfl
def own_Q8 (Z : State) (a1 : Addr) (i1 : Int32) (k1 : Int32) (d1 : Int32) (kd : ClassId) (x0 : Int64) (x1 : Int64) (x2 : Int64) (x3 : Int64) (x4 : Int64) (x5 : Int64) (x6 : Int64) (x7 : Int64) (h0 : Heap) (n0 : Nat) (v : Option Value) (h : Heap) (L : List Loc) : Prop := (v = some (.int (1 : Int32))) ∧ (Fr n0 L) ∧ (h = h0)
set_option maxRecDepth 65536 in
set_option maxHeartbeats 40000000 in
theorem own_rm8 (l : Launch) (Z : State) (a0 : Array Value) (hw : ∀ d ∈ tables_1, d.before a0 Z = true) (ws : List Jvm.Cond) (a1 : Addr) (i1 : Int32) (k1 : Int32) (d1 : Int32) (kd : ClassId) (x0 : Int64) (x1 : Int64) (x2 : Int64) (x3 : Int64) (x4 : Int64) (x5 : Int64) (x6 : Int64) (x7 : Int64) (h0 : Heap) (n0 : Nat) (Z0 : n0 ≤ h0.size) (P_V_a1 : Arv Z h0 a1 kd .long (8 : Int32) [(.long x0), (.long x1), (.long x2), (.long x3), (.long x4), (.long x5), (.long x6), (.long x7)] (.long (0 : Int64))) (hf : k1 < d1 → ¬ ([x0, x1, x2, x3, x4, x5, x6, x7] : List Int64).getD (((i1 + k1) &&& (7 : Int32))).toNatClampNeg 0 = 0) :
    MetFree l (⟨"com/example/tracegauge/tracegauge/MarkingSetDoubledPinLaw", "filled", "([JIII)Z"⟩ : MethodName) (head1 (Jvm.Cond.code (⟨"com/example/tracegauge/tracegauge/MarkingSetDoubledPinLaw", "filled", "([JIII)Z"⟩ : MethodName) method_8_code 4 (some .boolean) :: ws) ({ frames := 0, cells := 0, slots := 0, locals := 0 } : Room)) (fun ar_ U_ => ar_ = #[(.ref a1), (.int i1), (.int k1), (.int d1)] ∧ Z.Warmed39 U_.vm ∧ U_.heap = h0) (fun _ _ _ _ _ => True) (fun _ U_ o_ U_' => ∃ v_ L_, o_ = .returned v_ ∧ own_Q8 Z a1 i1 k1 d1 kd x0 x1 x2 x3 x4 x5 x6 x7 h0 n0 v_ U_'.heap L_ ∧ FrameEnd U_ o_ U_' L_ ({ frames := 0, cells := 0, slots := 0, locals := 0 } : Room).cells ({ frames := 0, cells := 0, slots := 0, locals := 0 } : Room).slots) := by
  refine MetFree.of_bodySF (plainFor_of_name own_pn8) hisR ?_
  intro p e s m args below meth c s₁ Bd hml0 hP hK
  obtain ⟨rfl, hZ, hh⟩ := hP
  have hx := Bd.exec
  have hby := Bd.bytes
  have hml : c.maxLocals = 4 := hml0
  have hown : s.vm.findClass "com/example/tracegauge/tracegauge/MarkingSetDoubledPinLaw" = some m.cls := findClass_of_methodNamed Bd.named
  have hnm := (name_of_methodNamed Bd.named Bd.method).1
  have X0 : Stand p l e ({ frames := 0, cells := 0, slots := 0, locals := 0 } : Room) s m #[(.ref a1), (.int i1), (.int k1), (.int d1)] below meth c s₁ [] 0 0 := Stand.of_body Bd
  have e0 : s₁.heap = h0 := by rw [← hh, Bd.state]; rfl
  have N0 := Fr.nil n0
  have pre0 : ∀ t, Steps p.tables e below (s₁.setTop (mkF m 0 #[.val (.ref a1), .val (.int i1), .val (.int k1), .val (.int d1)] [])) t → Steps p.tables e below (s₁.setTop (entryFrame m #[(.ref a1), (.int i1), (.int k1), (.int d1)] 4)) t := fun t k => castTop (own_ef8 m a1 i1 k1 d1) k
  have pre1 : ∀ t, Steps p.tables e below (s₁.setTop (mkF m 2 #[.val (.ref a1), .val (.int i1), .val (.int k1), .val (.int d1)] [(.int d1), (.int k1)])) t → Steps p.tables e below (s₁.setTop (entryFrame m #[(.ref a1), (.int i1), (.int k1), (.int d1)] 4)) t := fun t k => pre0 t (by
    show Steps p.tables e below (s₁.setTop (mkF m 0 #[.val (.ref a1), .val (.int i1), .val (.int k1), .val (.int d1)] [])) _
    refine XS.iloadN X0.here hx rfl (hb hby own_d8_0) rfl ?_
    show Steps p.tables e below (s₁.setTop (mkF m 1 #[.val (.ref a1), .val (.int i1), .val (.int k1), .val (.int d1)] [(.int k1)])) _
    refine XS.iloadN X0.here hx rfl (hb hby own_d8_1) rfl ?_
    exact k)
  by_cases h2 : k1 < d1
  · obtain ⟨cl2, Ar2, Q2, Sz2, Nn2, Ha2, Gf2⟩ := id P_V_a1
    have ghin2 : ¬ (((i1 + k1) &&& (7 : Int32)) < 0 ∨ cl2.slots.size ≤ (((i1 + k1) &&& (7 : Int32))).toNatClampNeg) := inb_of Sz2 (own_in8 _)
    have ghat2 : cl2.slots[(((i1 + k1) &&& (7 : Int32))).toNatClampNeg]? = some (.long (([x0, x1, x2, x3, x4, x5, x6, x7] : List Int64).getD (((i1 + k1) &&& (7 : Int32))).toNatClampNeg 0)) := Ha2.at ghin2 (own_mg ([x0, x1, x2, x3, x4, x5, x6, x7] : List Int64) _)
    obtain ⟨fs, hr, hrun, hended, hW, hsame⟩ := X0.leave (v := some (.int (1 : Int32))) (fun h => by rw [Bd.returns] at h; cases h)
    refine ⟨_, _, pre1 _ ?_, hrun, hended, _, _, rfl, ?_, ⟨_, rfl⟩, hW, hsame.mono (by decide) (by decide)⟩
    · show Steps p.tables e below (s₁.setTop (mkF m 2 #[.val (.ref a1), .val (.int i1), .val (.int k1), .val (.int d1)] [(.int d1), (.int k1)])) _
      refine XS.icmpNo X0.here hx rfl (hb hby own_d8_2) rfl (XT.ii_ge_f h2) ?_
      show Steps p.tables e below (s₁.setTop (mkF m 5 #[.val (.ref a1), .val (.int i1), .val (.int k1), .val (.int d1)] [])) _
      refine XS.aloadN X0.here hx rfl (hb hby own_d8_5) rfl rfl ?_
      show Steps p.tables e below (s₁.setTop (mkF m 6 #[.val (.ref a1), .val (.int i1), .val (.int k1), .val (.int d1)] [(.ref a1)])) _
      refine XS.iloadN X0.here hx rfl (hb hby own_d8_6) rfl ?_
      show Steps p.tables e below (s₁.setTop (mkF m 7 #[.val (.ref a1), .val (.int i1), .val (.int k1), .val (.int d1)] [(.int i1), (.ref a1)])) _
      refine XS.iloadN X0.here hx rfl (hb hby own_d8_7) rfl ?_
      show Steps p.tables e below (s₁.setTop (mkF m 8 #[.val (.ref a1), .val (.int i1), .val (.int k1), .val (.int d1)] [(.int k1), (.int i1), (.ref a1)])) _
      refine XS.iadd X0.here hx rfl (hb hby own_d8_8) rfl ?_
      show Steps p.tables e below (s₁.setTop (mkF m 9 #[.val (.ref a1), .val (.int i1), .val (.int k1), .val (.int d1)] [(.int (i1 + k1)), (.ref a1)])) _
      refine XT.bipushV X0.here hx rfl (7 : Int32) (hb hby own_d8_9) rfl ?_
      show Steps p.tables e below (s₁.setTop (mkF m 11 #[.val (.ref a1), .val (.int i1), .val (.int k1), .val (.int d1)] [(.int (7 : Int32)), (.int (i1 + k1)), (.ref a1)])) _
      refine XS.iand X0.here hx rfl (hb hby own_d8_11) rfl ?_
      show Steps p.tables e below (s₁.setTop (mkF m 12 #[.val (.ref a1), .val (.int i1), .val (.int k1), .val (.int d1)] [(.int ((i1 + k1) &&& (7 : Int32))), (.ref a1)])) _
      refine X0.laload hx (j := ((i1 + k1) &&& (7 : Int32))) (v := (.long (([x0, x1, x2, x3, x4, x5, x6, x7] : List Int64).getD (((i1 + k1) &&& (7 : Int32))).toNatClampNeg 0))) (by rw [e0]; exact Ar2.1) (State.isArrayOf_alike hZ.alike Ar2.2.1) Ar2.2.2 ghin2 ghat2 (g := (mkF m 12 #[.val (.ref a1), .val (.int i1), .val (.int k1), .val (.int d1)] [(.int ((i1 + k1) &&& (7 : Int32))), (.ref a1)])) rfl rfl (hb hby own_d8_12) _ ?_
      show Steps p.tables e below (s₁.setTop (mkF m 13 #[.val (.ref a1), .val (.int i1), .val (.int k1), .val (.int d1)] [(.long (([x0, x1, x2, x3, x4, x5, x6, x7] : List Int64).getD (((i1 + k1) &&& (7 : Int32))).toNatClampNeg 0))])) _
      refine XT.lconstV X0.here hx rfl (0 : Int64) (hb hby own_d8_13) rfl ?_
      show Steps p.tables e below (s₁.setTop (mkF m 14 #[.val (.ref a1), .val (.int i1), .val (.int k1), .val (.int d1)] [(.long (0 : Int64)), (.long (([x0, x1, x2, x3, x4, x5, x6, x7] : List Int64).getD (((i1 + k1) &&& (7 : Int32))).toNatClampNeg 0))])) _
      refine XT.lcmp X0.here hx rfl (hb hby own_d8_14) rfl ?_
      show Steps p.tables e below (s₁.setTop (mkF m 15 #[.val (.ref a1), .val (.int i1), .val (.int k1), .val (.int d1)] [(.int (XT.cmpL (([x0, x1, x2, x3, x4, x5, x6, x7] : List Int64).getD (((i1 + k1) &&& (7 : Int32))).toNatClampNeg 0) (0 : Int64)))])) _
      refine XS.ifNo X0.here hx rfl (hb hby own_d8_15) rfl (XT.ll_eq_f (hf h2)) ?_
      show Steps p.tables e below (s₁.setTop (mkF m 18 #[.val (.ref a1), .val (.int i1), .val (.int k1), .val (.int d1)] [])) _
      refine XT.iconstV X0.here hx rfl (1 : Int32) (hb hby own_d8_18) rfl ?_
      show Steps p.tables e below (s₁.setTop (mkF m 19 #[.val (.ref a1), .val (.int i1), .val (.int k1), .val (.int d1)] [(.int (1 : Int32))])) _
      refine XS.goto X0.here hx rfl (pc0 := 19) (pc' := 23) rfl (hb hby own_d8_19) (by decide) (by decide) ?_
      show Steps p.tables e below (s₁.setTop (mkF m 23 #[.val (.ref a1), .val (.int i1), .val (.int k1), .val (.int d1)] [(.int (1 : Int32))])) _
      exact retN X0 hx (t := .boolean) Bd.returns (by simp) (hb hby own_d8_23) hr
    · show own_Q8 Z a1 i1 k1 d1 kd x0 x1 x2 x3 x4 x5 x6 x7 h0 n0 _ s₁.heap _
      exact ⟨rfl, N0, e0⟩
  · obtain ⟨fs, hr, hrun, hended, hW, hsame⟩ := X0.leave (v := some (.int (1 : Int32))) (fun h => by rw [Bd.returns] at h; cases h)
    refine ⟨_, _, pre1 _ ?_, hrun, hended, _, _, rfl, ?_, ⟨_, rfl⟩, hW, hsame.mono (by decide) (by decide)⟩
    · show Steps p.tables e below (s₁.setTop (mkF m 2 #[.val (.ref a1), .val (.int i1), .val (.int k1), .val (.int d1)] [(.int d1), (.int k1)])) _
      refine XS.icmpYes X0.here hx rfl (pc0 := 2) (pc' := 18) rfl (hb hby own_d8_2) rfl (XT.ii_ge_t h2) (by decide) (by decide) ?_
      show Steps p.tables e below (s₁.setTop (mkF m 18 #[.val (.ref a1), .val (.int i1), .val (.int k1), .val (.int d1)] [])) _
      refine XT.iconstV X0.here hx rfl (1 : Int32) (hb hby own_d8_18) rfl ?_
      show Steps p.tables e below (s₁.setTop (mkF m 19 #[.val (.ref a1), .val (.int i1), .val (.int k1), .val (.int d1)] [(.int (1 : Int32))])) _
      refine XS.goto X0.here hx rfl (pc0 := 19) (pc' := 23) rfl (hb hby own_d8_19) (by decide) (by decide) ?_
      show Steps p.tables e below (s₁.setTop (mkF m 23 #[.val (.ref a1), .val (.int i1), .val (.int k1), .val (.int d1)] [(.int (1 : Int32))])) _
      exact retN X0 hx (t := .boolean) Bd.returns (by simp) (hb hby own_d8_23) hr
    · show own_Q8 Z a1 i1 k1 d1 kd x0 x1 x2 x3 x4 x5 x6 x7 h0 n0 _ s₁.heap _
      exact ⟨rfl, N0, e0⟩
theorem own_d7_0 : decode method_9_code 0 = .ok (.aload_n 0, 1) := by decide +kernel
theorem own_d7_1 : decode method_9_code 1 = .ok (.iload_n 1, 1) := by decide +kernel
theorem own_d7_2 : decode method_9_code 2 = .ok (.laload, 1) := by decide +kernel
theorem own_d7_3 : decode method_9_code 3 = .ok (.lstore_n 2, 1) := by decide +kernel
theorem own_d7_4 : decode method_9_code 4 = .ok (.lload_n 2, 1) := by decide +kernel
theorem own_d7_5 : decode method_9_code 5 = .ok (.lconst 0, 1) := by decide +kernel
theorem own_d7_6 : decode method_9_code 6 = .ok (.lcmp, 1) := by decide +kernel
theorem own_d7_7 : decode method_9_code 7 = .ok (.ifCond .ne 5, 3) := by decide +kernel
theorem own_d7_10 : decode method_9_code 10 = .ok (.iconst 1, 1) := by decide +kernel
theorem own_d7_11 : decode method_9_code 11 = .ok (.ireturn, 1) := by decide +kernel
theorem own_d7_12 : decode method_9_code 12 = .ok (.lload_n 2, 1) := by decide +kernel
theorem own_d7_13 : decode method_9_code 13 = .ok (.bipush 32, 2) := by decide +kernel
theorem own_d7_15 : decode method_9_code 15 = .ok (.lushr, 1) := by decide +kernel
theorem own_d7_16 : decode method_9_code 16 = .ok (.l2i, 1) := by decide +kernel
theorem own_d7_17 : decode method_9_code 17 = .ok (.bipush 7, 2) := by decide +kernel
theorem own_d7_19 : decode method_9_code 19 = .ok (.iand, 1) := by decide +kernel
theorem own_d7_20 : decode method_9_code 20 = .ok (.istore 4, 2) := by decide +kernel
theorem own_d7_22 : decode method_9_code 22 = .ok (.iload_n 1, 1) := by decide +kernel
theorem own_d7_23 : decode method_9_code 23 = .ok (.iload 4, 2) := by decide +kernel
theorem own_d7_25 : decode method_9_code 25 = .ok (.isub, 1) := by decide +kernel
theorem own_d7_26 : decode method_9_code 26 = .ok (.bipush 7, 2) := by decide +kernel
theorem own_d7_28 : decode method_9_code 28 = .ok (.iand, 1) := by decide +kernel
theorem own_d7_29 : decode method_9_code 29 = .ok (.istore 5, 2) := by decide +kernel
theorem own_d7_31 : decode method_9_code 31 = .ok (.aload_n 0, 1) := by decide +kernel
theorem own_d7_32 : decode method_9_code 32 = .ok (.iload 4, 2) := by decide +kernel
theorem own_d7_34 : decode method_9_code 34 = .ok (.iconst 0, 1) := by decide +kernel
theorem own_d7_35 : decode method_9_code 35 = .ok (.iload 5, 2) := by decide +kernel
theorem own_d7_37 : decode method_9_code 37 = .ok (.invokestatic 38, 3) := by decide +kernel
theorem own_d7_40 : decode method_9_code 40 = .ok (.ifCond .eq 80, 3) := by decide +kernel
theorem own_d7_43 : decode method_9_code 43 = .ok (.aload_n 0, 1) := by decide +kernel
theorem own_d7_44 : decode method_9_code 44 = .ok (.iload 4, 2) := by decide +kernel
theorem own_d7_46 : decode method_9_code 46 = .ok (.iconst 1, 1) := by decide +kernel
theorem own_d7_47 : decode method_9_code 47 = .ok (.iload 5, 2) := by decide +kernel
theorem own_d7_49 : decode method_9_code 49 = .ok (.invokestatic 38, 3) := by decide +kernel
theorem own_d7_52 : decode method_9_code 52 = .ok (.ifCond .eq 68, 3) := by decide +kernel
theorem own_d7_55 : decode method_9_code 55 = .ok (.aload_n 0, 1) := by decide +kernel
theorem own_d7_56 : decode method_9_code 56 = .ok (.iload 4, 2) := by decide +kernel
theorem own_d7_58 : decode method_9_code 58 = .ok (.iconst 2, 1) := by decide +kernel
theorem own_d7_59 : decode method_9_code 59 = .ok (.iload 5, 2) := by decide +kernel
theorem own_d7_61 : decode method_9_code 61 = .ok (.invokestatic 38, 3) := by decide +kernel
theorem own_d7_64 : decode method_9_code 64 = .ok (.ifCond .eq 56, 3) := by decide +kernel
theorem own_d7_67 : decode method_9_code 67 = .ok (.aload_n 0, 1) := by decide +kernel
theorem own_d7_68 : decode method_9_code 68 = .ok (.iload 4, 2) := by decide +kernel
theorem own_d7_70 : decode method_9_code 70 = .ok (.iconst 3, 1) := by decide +kernel
theorem own_d7_71 : decode method_9_code 71 = .ok (.iload 5, 2) := by decide +kernel
theorem own_d7_73 : decode method_9_code 73 = .ok (.invokestatic 38, 3) := by decide +kernel
theorem own_d7_76 : decode method_9_code 76 = .ok (.ifCond .eq 44, 3) := by decide +kernel
theorem own_d7_79 : decode method_9_code 79 = .ok (.aload_n 0, 1) := by decide +kernel
theorem own_d7_80 : decode method_9_code 80 = .ok (.iload 4, 2) := by decide +kernel
theorem own_d7_82 : decode method_9_code 82 = .ok (.iconst 4, 1) := by decide +kernel
theorem own_d7_83 : decode method_9_code 83 = .ok (.iload 5, 2) := by decide +kernel
theorem own_d7_85 : decode method_9_code 85 = .ok (.invokestatic 38, 3) := by decide +kernel
theorem own_d7_88 : decode method_9_code 88 = .ok (.ifCond .eq 32, 3) := by decide +kernel
theorem own_d7_91 : decode method_9_code 91 = .ok (.aload_n 0, 1) := by decide +kernel
theorem own_d7_92 : decode method_9_code 92 = .ok (.iload 4, 2) := by decide +kernel
theorem own_d7_94 : decode method_9_code 94 = .ok (.iconst 5, 1) := by decide +kernel
theorem own_d7_95 : decode method_9_code 95 = .ok (.iload 5, 2) := by decide +kernel
theorem own_d7_97 : decode method_9_code 97 = .ok (.invokestatic 38, 3) := by decide +kernel
theorem own_d7_100 : decode method_9_code 100 = .ok (.ifCond .eq 20, 3) := by decide +kernel
theorem own_d7_103 : decode method_9_code 103 = .ok (.aload_n 0, 1) := by decide +kernel
theorem own_d7_104 : decode method_9_code 104 = .ok (.iload 4, 2) := by decide +kernel
theorem own_d7_106 : decode method_9_code 106 = .ok (.bipush 6, 2) := by decide +kernel
theorem own_d7_108 : decode method_9_code 108 = .ok (.iload 5, 2) := by decide +kernel
theorem own_d7_110 : decode method_9_code 110 = .ok (.invokestatic 38, 3) := by decide +kernel
theorem own_d7_113 : decode method_9_code 113 = .ok (.ifCond .eq 7, 3) := by decide +kernel
theorem own_d7_116 : decode method_9_code 116 = .ok (.iconst 1, 1) := by decide +kernel
theorem own_d7_117 : decode method_9_code 117 = .ok (.goto 4, 3) := by decide +kernel
theorem own_d7_120 : decode method_9_code 120 = .ok (.iconst 0, 1) := by decide +kernel
theorem own_d7_121 : decode method_9_code 121 = .ok (.ireturn, 1) := by decide +kernel
theorem own_pn7 : plainName "com/example/tracegauge/tracegauge/MarkingSetDoubledPinLaw" = true := by first | (simp [plainName, overriddenIn]; done) | decide +kernel
theorem own_ef7 (m : MethodId) (a1 : Addr) (i1 : Int32) : entryFrame m #[(.ref a1), (.int i1)] 6 = mkF m 0 #[.val (.ref a1), .val (.int i1), .unset, .unset, .unset, .unset] [] := by first | (simp [entryFrame, mkF, argsToLocals, Value.category]; done) | rfl
def own_Q7 (Z : State) (a1 : Addr) (i1 : Int32) (kd : ClassId) (x0 : Int64) (x1 : Int64) (x2 : Int64) (x3 : Int64) (x4 : Int64) (x5 : Int64) (x6 : Int64) (x7 : Int64) (xv : Int64) (h0 : Heap) (n0 : Nat) (v : Option Value) (h : Heap) (L : List Loc) : Prop := (v = some (.int (1 : Int32))) ∧ (Fr n0 L) ∧ (h = h0)
set_option maxRecDepth 65536 in
set_option maxHeartbeats 40000000 in
theorem own_rm7 (l : Launch) (Z : State) (a0 : Array Value) (hw : ∀ d ∈ tables_1, d.before a0 Z = true) (ws : List Jvm.Cond) (a1 : Addr) (i1 : Int32) (kd : ClassId) (x0 : Int64) (x1 : Int64) (x2 : Int64) (x3 : Int64) (x4 : Int64) (x5 : Int64) (x6 : Int64) (x7 : Int64) (xv : Int64) (h0 : Heap) (n0 : Nat) (Z0 : n0 ≤ h0.size) (P_V_a1 : Arv Z h0 a1 kd .long (8 : Int32) [(.long x0), (.long x1), (.long x2), (.long x3), (.long x4), (.long x5), (.long x6), (.long x7)] (.long (0 : Int64))) (hin : ¬ i1 < 0 ∧ i1 < (8 : Int32)) (hat : ([(.long x0), (.long x1), (.long x2), (.long x3), (.long x4), (.long x5), (.long x6), (.long x7)] : List Value).getD (i1).toNatClampNeg (.long (0 : Int64)) = .long xv) (hr0 : ¬ xv = 0 → (0 : Int32) < ((i1 - (own_hm xv)) &&& (7 : Int32)) → ¬ ([x0, x1, x2, x3, x4, x5, x6, x7] : List Int64).getD ((((own_hm xv) + (0 : Int32)) &&& (7 : Int32))).toNatClampNeg 0 = 0) (hr1 : ¬ xv = 0 → (1 : Int32) < ((i1 - (own_hm xv)) &&& (7 : Int32)) → ¬ ([x0, x1, x2, x3, x4, x5, x6, x7] : List Int64).getD ((((own_hm xv) + (1 : Int32)) &&& (7 : Int32))).toNatClampNeg 0 = 0) (hr2 : ¬ xv = 0 → (2 : Int32) < ((i1 - (own_hm xv)) &&& (7 : Int32)) → ¬ ([x0, x1, x2, x3, x4, x5, x6, x7] : List Int64).getD ((((own_hm xv) + (2 : Int32)) &&& (7 : Int32))).toNatClampNeg 0 = 0) (hr3 : ¬ xv = 0 → (3 : Int32) < ((i1 - (own_hm xv)) &&& (7 : Int32)) → ¬ ([x0, x1, x2, x3, x4, x5, x6, x7] : List Int64).getD ((((own_hm xv) + (3 : Int32)) &&& (7 : Int32))).toNatClampNeg 0 = 0) (hr4 : ¬ xv = 0 → (4 : Int32) < ((i1 - (own_hm xv)) &&& (7 : Int32)) → ¬ ([x0, x1, x2, x3, x4, x5, x6, x7] : List Int64).getD ((((own_hm xv) + (4 : Int32)) &&& (7 : Int32))).toNatClampNeg 0 = 0) (hr5 : ¬ xv = 0 → (5 : Int32) < ((i1 - (own_hm xv)) &&& (7 : Int32)) → ¬ ([x0, x1, x2, x3, x4, x5, x6, x7] : List Int64).getD ((((own_hm xv) + (5 : Int32)) &&& (7 : Int32))).toNatClampNeg 0 = 0) (hr6 : ¬ xv = 0 → (6 : Int32) < ((i1 - (own_hm xv)) &&& (7 : Int32)) → ¬ ([x0, x1, x2, x3, x4, x5, x6, x7] : List Int64).getD ((((own_hm xv) + (6 : Int32)) &&& (7 : Int32))).toNatClampNeg 0 = 0) :
    MetFree l (⟨"com/example/tracegauge/tracegauge/MarkingSetDoubledPinLaw", "reachable", "([JI)Z"⟩ : MethodName) (head1 (Jvm.Cond.code (⟨"com/example/tracegauge/tracegauge/MarkingSetDoubledPinLaw", "reachable", "([JI)Z"⟩ : MethodName) method_9_code 6 (some .boolean) :: ws) ({ frames := 1, cells := 0, slots := 0, locals := 15 } : Room)) (fun ar_ U_ => ar_ = #[(.ref a1), (.int i1)] ∧ Z.Warmed39 U_.vm ∧ U_.heap = h0) (fun _ _ _ _ _ => True) (fun _ U_ o_ U_' => ∃ v_ L_, o_ = .returned v_ ∧ own_Q7 Z a1 i1 kd x0 x1 x2 x3 x4 x5 x6 x7 xv h0 n0 v_ U_'.heap L_ ∧ FrameEnd U_ o_ U_' L_ ({ frames := 1, cells := 0, slots := 0, locals := 15 } : Room).cells ({ frames := 1, cells := 0, slots := 0, locals := 15 } : Room).slots) := by
  refine MetFree.of_bodySF (plainFor_of_name own_pn7) hisR ?_
  intro p e s m args below meth c s₁ Bd hml0 hP hK
  obtain ⟨rfl, hZ, hh⟩ := hP
  have hx := Bd.exec
  have hby := Bd.bytes
  have hml : c.maxLocals = 6 := hml0
  have hown : s.vm.findClass "com/example/tracegauge/tracegauge/MarkingSetDoubledPinLaw" = some m.cls := findClass_of_methodNamed Bd.named
  have hnm := (name_of_methodNamed Bd.named Bd.method).1
  have X0 : Stand p l e ({ frames := 1, cells := 0, slots := 0, locals := 15 } : Room) s m #[(.ref a1), (.int i1)] below meth c s₁ [] 0 0 := Stand.of_body Bd
  have e0 : s₁.heap = h0 := by rw [← hh, Bd.state]; rfl
  have N0 := Fr.nil n0
  have pre0 : ∀ t, Steps p.tables e below (s₁.setTop (mkF m 0 #[.val (.ref a1), .val (.int i1), .unset, .unset, .unset, .unset] [])) t → Steps p.tables e below (s₁.setTop (entryFrame m #[(.ref a1), (.int i1)] 6)) t := fun t k => castTop (own_ef7 m a1 i1) k
  obtain ⟨cl1, Ar1, Q1, Sz1, Nn1, Ha1, Gf1⟩ := id P_V_a1
  have ghin1 : ¬ (i1 < 0 ∨ cl1.slots.size ≤ (i1).toNatClampNeg) := inb_of Sz1 hin
  have ghat1 : cl1.slots[(i1).toNatClampNeg]? = some (.long xv) := Ha1.at ghin1 hat
  have pre2 : ∀ t, Steps p.tables e below (s₁.setTop (mkF m 7 #[.val (.ref a1), .val (.int i1), .val (.long xv), .second, .unset, .unset] [(.int (XT.cmpL xv (0 : Int64)))])) t → Steps p.tables e below (s₁.setTop (entryFrame m #[(.ref a1), (.int i1)] 6)) t := fun t k => pre0 t (by
    show Steps p.tables e below (s₁.setTop (mkF m 0 #[.val (.ref a1), .val (.int i1), .unset, .unset, .unset, .unset] [])) _
    refine XS.aloadN X0.here hx rfl (hb hby own_d7_0) rfl rfl ?_
    show Steps p.tables e below (s₁.setTop (mkF m 1 #[.val (.ref a1), .val (.int i1), .unset, .unset, .unset, .unset] [(.ref a1)])) _
    refine XS.iloadN X0.here hx rfl (hb hby own_d7_1) rfl ?_
    show Steps p.tables e below (s₁.setTop (mkF m 2 #[.val (.ref a1), .val (.int i1), .unset, .unset, .unset, .unset] [(.int i1), (.ref a1)])) _
    refine X0.laload hx (j := i1) (v := (.long xv)) (by rw [e0]; exact Ar1.1) (State.isArrayOf_alike hZ.alike Ar1.2.1) Ar1.2.2 ghin1 ghat1 (g := (mkF m 2 #[.val (.ref a1), .val (.int i1), .unset, .unset, .unset, .unset] [(.int i1), (.ref a1)])) rfl rfl (hb hby own_d7_2) _ ?_
    show Steps p.tables e below (s₁.setTop (mkF m 3 #[.val (.ref a1), .val (.int i1), .unset, .unset, .unset, .unset] [(.long xv)])) _
    refine XT.lstoreN X0.here hx rfl (hb hby own_d7_3) rfl (l' := #[.val (.ref a1), .val (.int i1), .val (.long xv), .second, .unset, .unset]) rfl ?_
    show Steps p.tables e below (s₁.setTop (mkF m 4 #[.val (.ref a1), .val (.int i1), .val (.long xv), .second, .unset, .unset] [])) _
    refine XT.lloadN X0.here hx rfl (hb hby own_d7_4) rfl ?_
    show Steps p.tables e below (s₁.setTop (mkF m 5 #[.val (.ref a1), .val (.int i1), .val (.long xv), .second, .unset, .unset] [(.long xv)])) _
    refine XT.lconstV X0.here hx rfl (0 : Int64) (hb hby own_d7_5) rfl ?_
    show Steps p.tables e below (s₁.setTop (mkF m 6 #[.val (.ref a1), .val (.int i1), .val (.long xv), .second, .unset, .unset] [(.long (0 : Int64)), (.long xv)])) _
    refine XT.lcmp X0.here hx rfl (hb hby own_d7_6) rfl ?_
    exact k)
  by_cases h7 : xv = (0 : Int64)
  · obtain ⟨fs, hr, hrun, hended, hW, hsame⟩ := X0.leave (v := some (.int (1 : Int32))) (fun h => by rw [Bd.returns] at h; cases h)
    refine ⟨_, _, pre2 _ ?_, hrun, hended, _, _, rfl, ?_, ⟨_, rfl⟩, hW, hsame.mono (by decide) (by decide)⟩
    · show Steps p.tables e below (s₁.setTop (mkF m 7 #[.val (.ref a1), .val (.int i1), .val (.long xv), .second, .unset, .unset] [(.int (XT.cmpL xv (0 : Int64)))])) _
      refine XS.ifNo X0.here hx rfl (hb hby own_d7_7) rfl (XT.ll_ne_f h7) ?_
      show Steps p.tables e below (s₁.setTop (mkF m 10 #[.val (.ref a1), .val (.int i1), .val (.long xv), .second, .unset, .unset] [])) _
      refine XT.iconstV X0.here hx rfl (1 : Int32) (hb hby own_d7_10) rfl ?_
      show Steps p.tables e below (s₁.setTop (mkF m 11 #[.val (.ref a1), .val (.int i1), .val (.long xv), .second, .unset, .unset] [(.int (1 : Int32))])) _
      exact retN X0 hx (t := .boolean) Bd.returns (by simp) (hb hby own_d7_11) hr
    · show own_Q7 Z a1 i1 kd x0 x1 x2 x3 x4 x5 x6 x7 xv h0 n0 _ s₁.heap _
      exact ⟨rfl, N0, e0⟩
  · obtain ⟨_, _, ⟨T3, tL3, tk3, tn3⟩, -, X3, ⟨Lc3, hQ3, tl3, ty3, tz3⟩, st3⟩ := Jvm.LawKit.callS X0 hx (y := (⟨"com/example/tracegauge/tracegauge/MarkingSetDoubledPinLaw", "filled", "([JIII)Z"⟩ : MethodName)) hown (mvT hZ (hw _ (List.mem_of_getElem? (i := 24) rfl))) (mvT hZ (hw _ (List.mem_of_getElem? (i := 25) rfl))) (mvT hZ (hw _ (List.mem_of_getElem? (i := 7) rfl))) (mvT hZ (hw _ (List.mem_of_getElem? (i := 26) rfl))) (by decide) (backOf (W := 0) (own_rm8 l Z a0 hw [] a1 (own_hm xv) (0 : Int32) ((i1 - (own_hm xv)) &&& (7 : Int32)) kd x0 x1 x2 x3 x4 x5 x6 x7 h0 n0 Z0 P_V_a1 (hr0 h7)) hZ (hw _ (List.mem_of_getElem? (i := 26) rfl)) (hw _ (List.mem_of_getElem? (i := 7) rfl)) (by decide) (by decide)) (g := (mkF m 37 #[.val (.ref a1), .val (.int i1), .val (.long xv), .second, .val (.int (own_hm xv)), .val (.int ((i1 - (own_hm xv)) &&& (7 : Int32)))] [(.int ((i1 - (own_hm xv)) &&& (7 : Int32))), (.int (0 : Int32)), (.int (own_hm xv)), (.ref a1)])) rfl (by rw [hml]; rfl) (argsL := [(.ref a1), (.int (own_hm xv)), (.int (0 : Int32)), (.int ((i1 - (own_hm xv)) &&& (7 : Int32)))]) (rest := []) (lenOf own_pd2 rfl) rfl (by show 2 * 0 + _ ≤ _; exact Nat.le_of_eq rfl) (hb hby own_d7_37) (fun _ _ => ⟨rfl, e0, (by decide : 0 + 0 ≤ _), (by decide : 0 + 0 ≤ _)⟩)
    dsimp only [Pt.U, Pt.locs, Pt.cells, Pt.slots] at X3 tl3 ty3 tz3 st3 hQ3
    rw [tl3, ty3, tz3] at X3
    obtain ⟨rfl, Nq3, K3⟩ := hQ3
    have N3 := Fr.app N0 Nq3
    obtain ⟨_, _, ⟨T4, tL4, tk4, tn4⟩, -, X4, ⟨Lc4, hQ4, tl4, ty4, tz4⟩, st4⟩ := Jvm.LawKit.callS X3 hx (y := (⟨"com/example/tracegauge/tracegauge/MarkingSetDoubledPinLaw", "filled", "([JIII)Z"⟩ : MethodName)) hown (mvT hZ (hw _ (List.mem_of_getElem? (i := 24) rfl))) (mvT hZ (hw _ (List.mem_of_getElem? (i := 25) rfl))) (mvT hZ (hw _ (List.mem_of_getElem? (i := 7) rfl))) (mvT hZ (hw _ (List.mem_of_getElem? (i := 26) rfl))) (by decide) (backOf (W := 0) (own_rm8 l Z a0 hw [] a1 (own_hm xv) (1 : Int32) ((i1 - (own_hm xv)) &&& (7 : Int32)) kd x0 x1 x2 x3 x4 x5 x6 x7 h0 n0 Z0 P_V_a1 (hr1 h7)) hZ (hw _ (List.mem_of_getElem? (i := 26) rfl)) (hw _ (List.mem_of_getElem? (i := 7) rfl)) (by decide) (by decide)) (g := (mkF m 49 #[.val (.ref a1), .val (.int i1), .val (.long xv), .second, .val (.int (own_hm xv)), .val (.int ((i1 - (own_hm xv)) &&& (7 : Int32)))] [(.int ((i1 - (own_hm xv)) &&& (7 : Int32))), (.int (1 : Int32)), (.int (own_hm xv)), (.ref a1)])) rfl (by rw [hml]; rfl) (argsL := [(.ref a1), (.int (own_hm xv)), (.int (1 : Int32)), (.int ((i1 - (own_hm xv)) &&& (7 : Int32)))]) (rest := []) (lenOf own_pd2 rfl) rfl (by show 2 * 0 + _ ≤ _; exact Nat.le_of_eq rfl) (hb hby own_d7_49) (fun _ _ => ⟨rfl, K3, (by decide : 0 + 0 ≤ _), (by decide : 0 + 0 ≤ _)⟩)
    dsimp only [Pt.U, Pt.locs, Pt.cells, Pt.slots] at X4 tl4 ty4 tz4 st4 hQ4
    rw [tl4, ty4, tz4] at X4
    obtain ⟨rfl, Nq4, K4⟩ := hQ4
    have N4 := Fr.app N3 Nq4
    obtain ⟨_, _, ⟨T5, tL5, tk5, tn5⟩, -, X5, ⟨Lc5, hQ5, tl5, ty5, tz5⟩, st5⟩ := Jvm.LawKit.callS X4 hx (y := (⟨"com/example/tracegauge/tracegauge/MarkingSetDoubledPinLaw", "filled", "([JIII)Z"⟩ : MethodName)) hown (mvT hZ (hw _ (List.mem_of_getElem? (i := 24) rfl))) (mvT hZ (hw _ (List.mem_of_getElem? (i := 25) rfl))) (mvT hZ (hw _ (List.mem_of_getElem? (i := 7) rfl))) (mvT hZ (hw _ (List.mem_of_getElem? (i := 26) rfl))) (by decide) (backOf (W := 0) (own_rm8 l Z a0 hw [] a1 (own_hm xv) (2 : Int32) ((i1 - (own_hm xv)) &&& (7 : Int32)) kd x0 x1 x2 x3 x4 x5 x6 x7 h0 n0 Z0 P_V_a1 (hr2 h7)) hZ (hw _ (List.mem_of_getElem? (i := 26) rfl)) (hw _ (List.mem_of_getElem? (i := 7) rfl)) (by decide) (by decide)) (g := (mkF m 61 #[.val (.ref a1), .val (.int i1), .val (.long xv), .second, .val (.int (own_hm xv)), .val (.int ((i1 - (own_hm xv)) &&& (7 : Int32)))] [(.int ((i1 - (own_hm xv)) &&& (7 : Int32))), (.int (2 : Int32)), (.int (own_hm xv)), (.ref a1)])) rfl (by rw [hml]; rfl) (argsL := [(.ref a1), (.int (own_hm xv)), (.int (2 : Int32)), (.int ((i1 - (own_hm xv)) &&& (7 : Int32)))]) (rest := []) (lenOf own_pd2 rfl) rfl (by show 2 * 0 + _ ≤ _; exact Nat.le_of_eq rfl) (hb hby own_d7_61) (fun _ _ => ⟨rfl, K4, (by decide : 0 + 0 ≤ _), (by decide : 0 + 0 ≤ _)⟩)
    dsimp only [Pt.U, Pt.locs, Pt.cells, Pt.slots] at X5 tl5 ty5 tz5 st5 hQ5
    rw [tl5, ty5, tz5] at X5
    obtain ⟨rfl, Nq5, K5⟩ := hQ5
    have N5 := Fr.app N4 Nq5
    obtain ⟨_, _, ⟨T6, tL6, tk6, tn6⟩, -, X6, ⟨Lc6, hQ6, tl6, ty6, tz6⟩, st6⟩ := Jvm.LawKit.callS X5 hx (y := (⟨"com/example/tracegauge/tracegauge/MarkingSetDoubledPinLaw", "filled", "([JIII)Z"⟩ : MethodName)) hown (mvT hZ (hw _ (List.mem_of_getElem? (i := 24) rfl))) (mvT hZ (hw _ (List.mem_of_getElem? (i := 25) rfl))) (mvT hZ (hw _ (List.mem_of_getElem? (i := 7) rfl))) (mvT hZ (hw _ (List.mem_of_getElem? (i := 26) rfl))) (by decide) (backOf (W := 0) (own_rm8 l Z a0 hw [] a1 (own_hm xv) (3 : Int32) ((i1 - (own_hm xv)) &&& (7 : Int32)) kd x0 x1 x2 x3 x4 x5 x6 x7 h0 n0 Z0 P_V_a1 (hr3 h7)) hZ (hw _ (List.mem_of_getElem? (i := 26) rfl)) (hw _ (List.mem_of_getElem? (i := 7) rfl)) (by decide) (by decide)) (g := (mkF m 73 #[.val (.ref a1), .val (.int i1), .val (.long xv), .second, .val (.int (own_hm xv)), .val (.int ((i1 - (own_hm xv)) &&& (7 : Int32)))] [(.int ((i1 - (own_hm xv)) &&& (7 : Int32))), (.int (3 : Int32)), (.int (own_hm xv)), (.ref a1)])) rfl (by rw [hml]; rfl) (argsL := [(.ref a1), (.int (own_hm xv)), (.int (3 : Int32)), (.int ((i1 - (own_hm xv)) &&& (7 : Int32)))]) (rest := []) (lenOf own_pd2 rfl) rfl (by show 2 * 0 + _ ≤ _; exact Nat.le_of_eq rfl) (hb hby own_d7_73) (fun _ _ => ⟨rfl, K5, (by decide : 0 + 0 ≤ _), (by decide : 0 + 0 ≤ _)⟩)
    dsimp only [Pt.U, Pt.locs, Pt.cells, Pt.slots] at X6 tl6 ty6 tz6 st6 hQ6
    rw [tl6, ty6, tz6] at X6
    obtain ⟨rfl, Nq6, K6⟩ := hQ6
    have N6 := Fr.app N5 Nq6
    obtain ⟨_, _, ⟨T7, tL7, tk7, tn7⟩, -, X7, ⟨Lc7, hQ7, tl7, ty7, tz7⟩, st7⟩ := Jvm.LawKit.callS X6 hx (y := (⟨"com/example/tracegauge/tracegauge/MarkingSetDoubledPinLaw", "filled", "([JIII)Z"⟩ : MethodName)) hown (mvT hZ (hw _ (List.mem_of_getElem? (i := 24) rfl))) (mvT hZ (hw _ (List.mem_of_getElem? (i := 25) rfl))) (mvT hZ (hw _ (List.mem_of_getElem? (i := 7) rfl))) (mvT hZ (hw _ (List.mem_of_getElem? (i := 26) rfl))) (by decide) (backOf (W := 0) (own_rm8 l Z a0 hw [] a1 (own_hm xv) (4 : Int32) ((i1 - (own_hm xv)) &&& (7 : Int32)) kd x0 x1 x2 x3 x4 x5 x6 x7 h0 n0 Z0 P_V_a1 (hr4 h7)) hZ (hw _ (List.mem_of_getElem? (i := 26) rfl)) (hw _ (List.mem_of_getElem? (i := 7) rfl)) (by decide) (by decide)) (g := (mkF m 85 #[.val (.ref a1), .val (.int i1), .val (.long xv), .second, .val (.int (own_hm xv)), .val (.int ((i1 - (own_hm xv)) &&& (7 : Int32)))] [(.int ((i1 - (own_hm xv)) &&& (7 : Int32))), (.int (4 : Int32)), (.int (own_hm xv)), (.ref a1)])) rfl (by rw [hml]; rfl) (argsL := [(.ref a1), (.int (own_hm xv)), (.int (4 : Int32)), (.int ((i1 - (own_hm xv)) &&& (7 : Int32)))]) (rest := []) (lenOf own_pd2 rfl) rfl (by show 2 * 0 + _ ≤ _; exact Nat.le_of_eq rfl) (hb hby own_d7_85) (fun _ _ => ⟨rfl, K6, (by decide : 0 + 0 ≤ _), (by decide : 0 + 0 ≤ _)⟩)
    dsimp only [Pt.U, Pt.locs, Pt.cells, Pt.slots] at X7 tl7 ty7 tz7 st7 hQ7
    rw [tl7, ty7, tz7] at X7
    obtain ⟨rfl, Nq7, K7⟩ := hQ7
    have N7 := Fr.app N6 Nq7
    obtain ⟨_, _, ⟨T8, tL8, tk8, tn8⟩, -, X8, ⟨Lc8, hQ8, tl8, ty8, tz8⟩, st8⟩ := Jvm.LawKit.callS X7 hx (y := (⟨"com/example/tracegauge/tracegauge/MarkingSetDoubledPinLaw", "filled", "([JIII)Z"⟩ : MethodName)) hown (mvT hZ (hw _ (List.mem_of_getElem? (i := 24) rfl))) (mvT hZ (hw _ (List.mem_of_getElem? (i := 25) rfl))) (mvT hZ (hw _ (List.mem_of_getElem? (i := 7) rfl))) (mvT hZ (hw _ (List.mem_of_getElem? (i := 26) rfl))) (by decide) (backOf (W := 0) (own_rm8 l Z a0 hw [] a1 (own_hm xv) (5 : Int32) ((i1 - (own_hm xv)) &&& (7 : Int32)) kd x0 x1 x2 x3 x4 x5 x6 x7 h0 n0 Z0 P_V_a1 (hr5 h7)) hZ (hw _ (List.mem_of_getElem? (i := 26) rfl)) (hw _ (List.mem_of_getElem? (i := 7) rfl)) (by decide) (by decide)) (g := (mkF m 97 #[.val (.ref a1), .val (.int i1), .val (.long xv), .second, .val (.int (own_hm xv)), .val (.int ((i1 - (own_hm xv)) &&& (7 : Int32)))] [(.int ((i1 - (own_hm xv)) &&& (7 : Int32))), (.int (5 : Int32)), (.int (own_hm xv)), (.ref a1)])) rfl (by rw [hml]; rfl) (argsL := [(.ref a1), (.int (own_hm xv)), (.int (5 : Int32)), (.int ((i1 - (own_hm xv)) &&& (7 : Int32)))]) (rest := []) (lenOf own_pd2 rfl) rfl (by show 2 * 0 + _ ≤ _; exact Nat.le_of_eq rfl) (hb hby own_d7_97) (fun _ _ => ⟨rfl, K7, (by decide : 0 + 0 ≤ _), (by decide : 0 + 0 ≤ _)⟩)
    dsimp only [Pt.U, Pt.locs, Pt.cells, Pt.slots] at X8 tl8 ty8 tz8 st8 hQ8
    rw [tl8, ty8, tz8] at X8
    obtain ⟨rfl, Nq8, K8⟩ := hQ8
    have N8 := Fr.app N7 Nq8
    obtain ⟨_, _, ⟨T9, tL9, tk9, tn9⟩, -, X9, ⟨Lc9, hQ9, tl9, ty9, tz9⟩, st9⟩ := Jvm.LawKit.callS X8 hx (y := (⟨"com/example/tracegauge/tracegauge/MarkingSetDoubledPinLaw", "filled", "([JIII)Z"⟩ : MethodName)) hown (mvT hZ (hw _ (List.mem_of_getElem? (i := 24) rfl))) (mvT hZ (hw _ (List.mem_of_getElem? (i := 25) rfl))) (mvT hZ (hw _ (List.mem_of_getElem? (i := 7) rfl))) (mvT hZ (hw _ (List.mem_of_getElem? (i := 26) rfl))) (by decide) (backOf (W := 0) (own_rm8 l Z a0 hw [] a1 (own_hm xv) (6 : Int32) ((i1 - (own_hm xv)) &&& (7 : Int32)) kd x0 x1 x2 x3 x4 x5 x6 x7 h0 n0 Z0 P_V_a1 (hr6 h7)) hZ (hw _ (List.mem_of_getElem? (i := 26) rfl)) (hw _ (List.mem_of_getElem? (i := 7) rfl)) (by decide) (by decide)) (g := (mkF m 110 #[.val (.ref a1), .val (.int i1), .val (.long xv), .second, .val (.int (own_hm xv)), .val (.int ((i1 - (own_hm xv)) &&& (7 : Int32)))] [(.int ((i1 - (own_hm xv)) &&& (7 : Int32))), (.int (6 : Int32)), (.int (own_hm xv)), (.ref a1)])) rfl (by rw [hml]; rfl) (argsL := [(.ref a1), (.int (own_hm xv)), (.int (6 : Int32)), (.int ((i1 - (own_hm xv)) &&& (7 : Int32)))]) (rest := []) (lenOf own_pd2 rfl) rfl (by show 2 * 0 + _ ≤ _; exact Nat.le_of_eq rfl) (hb hby own_d7_110) (fun _ _ => ⟨rfl, K8, (by decide : 0 + 0 ≤ _), (by decide : 0 + 0 ≤ _)⟩)
    dsimp only [Pt.U, Pt.locs, Pt.cells, Pt.slots] at X9 tl9 ty9 tz9 st9 hQ9
    rw [tl9, ty9, tz9] at X9
    obtain ⟨rfl, Nq9, K9⟩ := hQ9
    have N9 := Fr.app N8 Nq9
    obtain ⟨fs, hr, hrun, hended, hW, hsame⟩ := X9.leave (v := some (.int (1 : Int32))) (fun h => by rw [Bd.returns] at h; cases h)
    refine ⟨_, _, pre2 _ ?_, hrun, hended, _, _, rfl, ?_, ⟨_, rfl⟩, hW, hsame.mono (by decide) (by decide)⟩
    · show Steps p.tables e below (s₁.setTop (mkF m 7 #[.val (.ref a1), .val (.int i1), .val (.long xv), .second, .unset, .unset] [(.int (XT.cmpL xv (0 : Int64)))])) _
      refine XS.ifYes X0.here hx rfl (pc0 := 7) (pc' := 12) rfl (hb hby own_d7_7) rfl (XT.ll_ne_t h7) (by decide) (by decide) ?_
      show Steps p.tables e below (s₁.setTop (mkF m 12 #[.val (.ref a1), .val (.int i1), .val (.long xv), .second, .unset, .unset] [])) _
      refine XT.lloadN X0.here hx rfl (hb hby own_d7_12) rfl ?_
      show Steps p.tables e below (s₁.setTop (mkF m 13 #[.val (.ref a1), .val (.int i1), .val (.long xv), .second, .unset, .unset] [(.long xv)])) _
      refine XT.bipushV X0.here hx rfl (32 : Int32) (hb hby own_d7_13) rfl ?_
      show Steps p.tables e below (s₁.setTop (mkF m 15 #[.val (.ref a1), .val (.int i1), .val (.long xv), .second, .unset, .unset] [(.int (32 : Int32)), (.long xv)])) _
      refine XT.lushr X0.here hx rfl (hb hby own_d7_15) rfl ?_
      show Steps p.tables e below (s₁.setTop (mkF m 16 #[.val (.ref a1), .val (.int i1), .val (.long xv), .second, .unset, .unset] [(.long (XT.ushrL xv (32 : Int32)))])) _
      refine XT.l2i X0.here hx rfl (hb hby own_d7_16) rfl ?_
      show Steps p.tables e below (s₁.setTop (mkF m 17 #[.val (.ref a1), .val (.int i1), .val (.long xv), .second, .unset, .unset] [(.int ((XT.ushrL xv (32 : Int32)).toInt32))])) _
      refine XT.bipushV X0.here hx rfl (7 : Int32) (hb hby own_d7_17) rfl ?_
      show Steps p.tables e below (s₁.setTop (mkF m 19 #[.val (.ref a1), .val (.int i1), .val (.long xv), .second, .unset, .unset] [(.int (7 : Int32)), (.int ((XT.ushrL xv (32 : Int32)).toInt32))])) _
      refine XS.iand X0.here hx rfl (hb hby own_d7_19) rfl ?_
      show Steps p.tables e below (s₁.setTop (mkF m 20 #[.val (.ref a1), .val (.int i1), .val (.long xv), .second, .unset, .unset] [(.int (((XT.ushrL xv (32 : Int32)).toInt32) &&& (7 : Int32)))])) _
      refine XS.istore X0.here hx rfl (hb hby own_d7_20) rfl (l' := #[.val (.ref a1), .val (.int i1), .val (.long xv), .second, .val (.int (((XT.ushrL xv (32 : Int32)).toInt32) &&& (7 : Int32))), .unset]) rfl ?_
      show Steps p.tables e below (s₁.setTop (mkF m 22 #[.val (.ref a1), .val (.int i1), .val (.long xv), .second, .val (.int (own_hm xv)), .unset] [])) _
      refine XS.iloadN X0.here hx rfl (hb hby own_d7_22) rfl ?_
      show Steps p.tables e below (s₁.setTop (mkF m 23 #[.val (.ref a1), .val (.int i1), .val (.long xv), .second, .val (.int (own_hm xv)), .unset] [(.int i1)])) _
      refine XS.iload X0.here hx rfl (hb hby own_d7_23) rfl ?_
      show Steps p.tables e below (s₁.setTop (mkF m 25 #[.val (.ref a1), .val (.int i1), .val (.long xv), .second, .val (.int (own_hm xv)), .unset] [(.int (own_hm xv)), (.int i1)])) _
      refine XS.isub X0.here hx rfl (hb hby own_d7_25) rfl ?_
      show Steps p.tables e below (s₁.setTop (mkF m 26 #[.val (.ref a1), .val (.int i1), .val (.long xv), .second, .val (.int (own_hm xv)), .unset] [(.int (i1 - (own_hm xv)))])) _
      refine XT.bipushV X0.here hx rfl (7 : Int32) (hb hby own_d7_26) rfl ?_
      show Steps p.tables e below (s₁.setTop (mkF m 28 #[.val (.ref a1), .val (.int i1), .val (.long xv), .second, .val (.int (own_hm xv)), .unset] [(.int (7 : Int32)), (.int (i1 - (own_hm xv)))])) _
      refine XS.iand X0.here hx rfl (hb hby own_d7_28) rfl ?_
      show Steps p.tables e below (s₁.setTop (mkF m 29 #[.val (.ref a1), .val (.int i1), .val (.long xv), .second, .val (.int (own_hm xv)), .unset] [(.int ((i1 - (own_hm xv)) &&& (7 : Int32)))])) _
      refine XS.istore X0.here hx rfl (hb hby own_d7_29) rfl (l' := #[.val (.ref a1), .val (.int i1), .val (.long xv), .second, .val (.int (own_hm xv)), .val (.int ((i1 - (own_hm xv)) &&& (7 : Int32)))]) rfl ?_
      show Steps p.tables e below (s₁.setTop (mkF m 31 #[.val (.ref a1), .val (.int i1), .val (.long xv), .second, .val (.int (own_hm xv)), .val (.int ((i1 - (own_hm xv)) &&& (7 : Int32)))] [])) _
      refine XS.aloadN X0.here hx rfl (hb hby own_d7_31) rfl rfl ?_
      show Steps p.tables e below (s₁.setTop (mkF m 32 #[.val (.ref a1), .val (.int i1), .val (.long xv), .second, .val (.int (own_hm xv)), .val (.int ((i1 - (own_hm xv)) &&& (7 : Int32)))] [(.ref a1)])) _
      refine XS.iload X0.here hx rfl (hb hby own_d7_32) rfl ?_
      show Steps p.tables e below (s₁.setTop (mkF m 34 #[.val (.ref a1), .val (.int i1), .val (.long xv), .second, .val (.int (own_hm xv)), .val (.int ((i1 - (own_hm xv)) &&& (7 : Int32)))] [(.int (own_hm xv)), (.ref a1)])) _
      refine XT.iconstV X0.here hx rfl (0 : Int32) (hb hby own_d7_34) rfl ?_
      show Steps p.tables e below (s₁.setTop (mkF m 35 #[.val (.ref a1), .val (.int i1), .val (.long xv), .second, .val (.int (own_hm xv)), .val (.int ((i1 - (own_hm xv)) &&& (7 : Int32)))] [(.int (0 : Int32)), (.int (own_hm xv)), (.ref a1)])) _
      refine XS.iload X0.here hx rfl (hb hby own_d7_35) rfl ?_
      show Steps p.tables e below (s₁.setTop (mkF m 37 #[.val (.ref a1), .val (.int i1), .val (.long xv), .second, .val (.int (own_hm xv)), .val (.int ((i1 - (own_hm xv)) &&& (7 : Int32)))] [(.int ((i1 - (own_hm xv)) &&& (7 : Int32))), (.int (0 : Int32)), (.int (own_hm xv)), (.ref a1)])) _
      refine st3 _ ?_
      show Steps p.tables e below (T3.setTop (mkF m 40 #[.val (.ref a1), .val (.int i1), .val (.long xv), .second, .val (.int (own_hm xv)), .val (.int ((i1 - (own_hm xv)) &&& (7 : Int32)))] [(.int (1 : Int32))])) _
      refine XS.ifNo X3.here hx rfl (hb hby own_d7_40) rfl (XT.i0_eq_f (by decide)) ?_
      show Steps p.tables e below (T3.setTop (mkF m 43 #[.val (.ref a1), .val (.int i1), .val (.long xv), .second, .val (.int (own_hm xv)), .val (.int ((i1 - (own_hm xv)) &&& (7 : Int32)))] [])) _
      refine XS.aloadN X3.here hx rfl (hb hby own_d7_43) rfl rfl ?_
      show Steps p.tables e below (T3.setTop (mkF m 44 #[.val (.ref a1), .val (.int i1), .val (.long xv), .second, .val (.int (own_hm xv)), .val (.int ((i1 - (own_hm xv)) &&& (7 : Int32)))] [(.ref a1)])) _
      refine XS.iload X3.here hx rfl (hb hby own_d7_44) rfl ?_
      show Steps p.tables e below (T3.setTop (mkF m 46 #[.val (.ref a1), .val (.int i1), .val (.long xv), .second, .val (.int (own_hm xv)), .val (.int ((i1 - (own_hm xv)) &&& (7 : Int32)))] [(.int (own_hm xv)), (.ref a1)])) _
      refine XT.iconstV X3.here hx rfl (1 : Int32) (hb hby own_d7_46) rfl ?_
      show Steps p.tables e below (T3.setTop (mkF m 47 #[.val (.ref a1), .val (.int i1), .val (.long xv), .second, .val (.int (own_hm xv)), .val (.int ((i1 - (own_hm xv)) &&& (7 : Int32)))] [(.int (1 : Int32)), (.int (own_hm xv)), (.ref a1)])) _
      refine XS.iload X3.here hx rfl (hb hby own_d7_47) rfl ?_
      show Steps p.tables e below (T3.setTop (mkF m 49 #[.val (.ref a1), .val (.int i1), .val (.long xv), .second, .val (.int (own_hm xv)), .val (.int ((i1 - (own_hm xv)) &&& (7 : Int32)))] [(.int ((i1 - (own_hm xv)) &&& (7 : Int32))), (.int (1 : Int32)), (.int (own_hm xv)), (.ref a1)])) _
      refine st4 _ ?_
      show Steps p.tables e below (T4.setTop (mkF m 52 #[.val (.ref a1), .val (.int i1), .val (.long xv), .second, .val (.int (own_hm xv)), .val (.int ((i1 - (own_hm xv)) &&& (7 : Int32)))] [(.int (1 : Int32))])) _
      refine XS.ifNo X4.here hx rfl (hb hby own_d7_52) rfl (XT.i0_eq_f (by decide)) ?_
      show Steps p.tables e below (T4.setTop (mkF m 55 #[.val (.ref a1), .val (.int i1), .val (.long xv), .second, .val (.int (own_hm xv)), .val (.int ((i1 - (own_hm xv)) &&& (7 : Int32)))] [])) _
      refine XS.aloadN X4.here hx rfl (hb hby own_d7_55) rfl rfl ?_
      show Steps p.tables e below (T4.setTop (mkF m 56 #[.val (.ref a1), .val (.int i1), .val (.long xv), .second, .val (.int (own_hm xv)), .val (.int ((i1 - (own_hm xv)) &&& (7 : Int32)))] [(.ref a1)])) _
      refine XS.iload X4.here hx rfl (hb hby own_d7_56) rfl ?_
      show Steps p.tables e below (T4.setTop (mkF m 58 #[.val (.ref a1), .val (.int i1), .val (.long xv), .second, .val (.int (own_hm xv)), .val (.int ((i1 - (own_hm xv)) &&& (7 : Int32)))] [(.int (own_hm xv)), (.ref a1)])) _
      refine XT.iconstV X4.here hx rfl (2 : Int32) (hb hby own_d7_58) rfl ?_
      show Steps p.tables e below (T4.setTop (mkF m 59 #[.val (.ref a1), .val (.int i1), .val (.long xv), .second, .val (.int (own_hm xv)), .val (.int ((i1 - (own_hm xv)) &&& (7 : Int32)))] [(.int (2 : Int32)), (.int (own_hm xv)), (.ref a1)])) _
      refine XS.iload X4.here hx rfl (hb hby own_d7_59) rfl ?_
      show Steps p.tables e below (T4.setTop (mkF m 61 #[.val (.ref a1), .val (.int i1), .val (.long xv), .second, .val (.int (own_hm xv)), .val (.int ((i1 - (own_hm xv)) &&& (7 : Int32)))] [(.int ((i1 - (own_hm xv)) &&& (7 : Int32))), (.int (2 : Int32)), (.int (own_hm xv)), (.ref a1)])) _
      refine st5 _ ?_
      show Steps p.tables e below (T5.setTop (mkF m 64 #[.val (.ref a1), .val (.int i1), .val (.long xv), .second, .val (.int (own_hm xv)), .val (.int ((i1 - (own_hm xv)) &&& (7 : Int32)))] [(.int (1 : Int32))])) _
      refine XS.ifNo X5.here hx rfl (hb hby own_d7_64) rfl (XT.i0_eq_f (by decide)) ?_
      show Steps p.tables e below (T5.setTop (mkF m 67 #[.val (.ref a1), .val (.int i1), .val (.long xv), .second, .val (.int (own_hm xv)), .val (.int ((i1 - (own_hm xv)) &&& (7 : Int32)))] [])) _
      refine XS.aloadN X5.here hx rfl (hb hby own_d7_67) rfl rfl ?_
      show Steps p.tables e below (T5.setTop (mkF m 68 #[.val (.ref a1), .val (.int i1), .val (.long xv), .second, .val (.int (own_hm xv)), .val (.int ((i1 - (own_hm xv)) &&& (7 : Int32)))] [(.ref a1)])) _
      refine XS.iload X5.here hx rfl (hb hby own_d7_68) rfl ?_
      show Steps p.tables e below (T5.setTop (mkF m 70 #[.val (.ref a1), .val (.int i1), .val (.long xv), .second, .val (.int (own_hm xv)), .val (.int ((i1 - (own_hm xv)) &&& (7 : Int32)))] [(.int (own_hm xv)), (.ref a1)])) _
      refine XT.iconstV X5.here hx rfl (3 : Int32) (hb hby own_d7_70) rfl ?_
      show Steps p.tables e below (T5.setTop (mkF m 71 #[.val (.ref a1), .val (.int i1), .val (.long xv), .second, .val (.int (own_hm xv)), .val (.int ((i1 - (own_hm xv)) &&& (7 : Int32)))] [(.int (3 : Int32)), (.int (own_hm xv)), (.ref a1)])) _
      refine XS.iload X5.here hx rfl (hb hby own_d7_71) rfl ?_
      show Steps p.tables e below (T5.setTop (mkF m 73 #[.val (.ref a1), .val (.int i1), .val (.long xv), .second, .val (.int (own_hm xv)), .val (.int ((i1 - (own_hm xv)) &&& (7 : Int32)))] [(.int ((i1 - (own_hm xv)) &&& (7 : Int32))), (.int (3 : Int32)), (.int (own_hm xv)), (.ref a1)])) _
      refine st6 _ ?_
      show Steps p.tables e below (T6.setTop (mkF m 76 #[.val (.ref a1), .val (.int i1), .val (.long xv), .second, .val (.int (own_hm xv)), .val (.int ((i1 - (own_hm xv)) &&& (7 : Int32)))] [(.int (1 : Int32))])) _
      refine XS.ifNo X6.here hx rfl (hb hby own_d7_76) rfl (XT.i0_eq_f (by decide)) ?_
      show Steps p.tables e below (T6.setTop (mkF m 79 #[.val (.ref a1), .val (.int i1), .val (.long xv), .second, .val (.int (own_hm xv)), .val (.int ((i1 - (own_hm xv)) &&& (7 : Int32)))] [])) _
      refine XS.aloadN X6.here hx rfl (hb hby own_d7_79) rfl rfl ?_
      show Steps p.tables e below (T6.setTop (mkF m 80 #[.val (.ref a1), .val (.int i1), .val (.long xv), .second, .val (.int (own_hm xv)), .val (.int ((i1 - (own_hm xv)) &&& (7 : Int32)))] [(.ref a1)])) _
      refine XS.iload X6.here hx rfl (hb hby own_d7_80) rfl ?_
      show Steps p.tables e below (T6.setTop (mkF m 82 #[.val (.ref a1), .val (.int i1), .val (.long xv), .second, .val (.int (own_hm xv)), .val (.int ((i1 - (own_hm xv)) &&& (7 : Int32)))] [(.int (own_hm xv)), (.ref a1)])) _
      refine XT.iconstV X6.here hx rfl (4 : Int32) (hb hby own_d7_82) rfl ?_
      show Steps p.tables e below (T6.setTop (mkF m 83 #[.val (.ref a1), .val (.int i1), .val (.long xv), .second, .val (.int (own_hm xv)), .val (.int ((i1 - (own_hm xv)) &&& (7 : Int32)))] [(.int (4 : Int32)), (.int (own_hm xv)), (.ref a1)])) _
      refine XS.iload X6.here hx rfl (hb hby own_d7_83) rfl ?_
      show Steps p.tables e below (T6.setTop (mkF m 85 #[.val (.ref a1), .val (.int i1), .val (.long xv), .second, .val (.int (own_hm xv)), .val (.int ((i1 - (own_hm xv)) &&& (7 : Int32)))] [(.int ((i1 - (own_hm xv)) &&& (7 : Int32))), (.int (4 : Int32)), (.int (own_hm xv)), (.ref a1)])) _
      refine st7 _ ?_
      show Steps p.tables e below (T7.setTop (mkF m 88 #[.val (.ref a1), .val (.int i1), .val (.long xv), .second, .val (.int (own_hm xv)), .val (.int ((i1 - (own_hm xv)) &&& (7 : Int32)))] [(.int (1 : Int32))])) _
      refine XS.ifNo X7.here hx rfl (hb hby own_d7_88) rfl (XT.i0_eq_f (by decide)) ?_
      show Steps p.tables e below (T7.setTop (mkF m 91 #[.val (.ref a1), .val (.int i1), .val (.long xv), .second, .val (.int (own_hm xv)), .val (.int ((i1 - (own_hm xv)) &&& (7 : Int32)))] [])) _
      refine XS.aloadN X7.here hx rfl (hb hby own_d7_91) rfl rfl ?_
      show Steps p.tables e below (T7.setTop (mkF m 92 #[.val (.ref a1), .val (.int i1), .val (.long xv), .second, .val (.int (own_hm xv)), .val (.int ((i1 - (own_hm xv)) &&& (7 : Int32)))] [(.ref a1)])) _
      refine XS.iload X7.here hx rfl (hb hby own_d7_92) rfl ?_
      show Steps p.tables e below (T7.setTop (mkF m 94 #[.val (.ref a1), .val (.int i1), .val (.long xv), .second, .val (.int (own_hm xv)), .val (.int ((i1 - (own_hm xv)) &&& (7 : Int32)))] [(.int (own_hm xv)), (.ref a1)])) _
      refine XT.iconstV X7.here hx rfl (5 : Int32) (hb hby own_d7_94) rfl ?_
      show Steps p.tables e below (T7.setTop (mkF m 95 #[.val (.ref a1), .val (.int i1), .val (.long xv), .second, .val (.int (own_hm xv)), .val (.int ((i1 - (own_hm xv)) &&& (7 : Int32)))] [(.int (5 : Int32)), (.int (own_hm xv)), (.ref a1)])) _
      refine XS.iload X7.here hx rfl (hb hby own_d7_95) rfl ?_
      show Steps p.tables e below (T7.setTop (mkF m 97 #[.val (.ref a1), .val (.int i1), .val (.long xv), .second, .val (.int (own_hm xv)), .val (.int ((i1 - (own_hm xv)) &&& (7 : Int32)))] [(.int ((i1 - (own_hm xv)) &&& (7 : Int32))), (.int (5 : Int32)), (.int (own_hm xv)), (.ref a1)])) _
      refine st8 _ ?_
      show Steps p.tables e below (T8.setTop (mkF m 100 #[.val (.ref a1), .val (.int i1), .val (.long xv), .second, .val (.int (own_hm xv)), .val (.int ((i1 - (own_hm xv)) &&& (7 : Int32)))] [(.int (1 : Int32))])) _
      refine XS.ifNo X8.here hx rfl (hb hby own_d7_100) rfl (XT.i0_eq_f (by decide)) ?_
      show Steps p.tables e below (T8.setTop (mkF m 103 #[.val (.ref a1), .val (.int i1), .val (.long xv), .second, .val (.int (own_hm xv)), .val (.int ((i1 - (own_hm xv)) &&& (7 : Int32)))] [])) _
      refine XS.aloadN X8.here hx rfl (hb hby own_d7_103) rfl rfl ?_
      show Steps p.tables e below (T8.setTop (mkF m 104 #[.val (.ref a1), .val (.int i1), .val (.long xv), .second, .val (.int (own_hm xv)), .val (.int ((i1 - (own_hm xv)) &&& (7 : Int32)))] [(.ref a1)])) _
      refine XS.iload X8.here hx rfl (hb hby own_d7_104) rfl ?_
      show Steps p.tables e below (T8.setTop (mkF m 106 #[.val (.ref a1), .val (.int i1), .val (.long xv), .second, .val (.int (own_hm xv)), .val (.int ((i1 - (own_hm xv)) &&& (7 : Int32)))] [(.int (own_hm xv)), (.ref a1)])) _
      refine XT.bipushV X8.here hx rfl (6 : Int32) (hb hby own_d7_106) rfl ?_
      show Steps p.tables e below (T8.setTop (mkF m 108 #[.val (.ref a1), .val (.int i1), .val (.long xv), .second, .val (.int (own_hm xv)), .val (.int ((i1 - (own_hm xv)) &&& (7 : Int32)))] [(.int (6 : Int32)), (.int (own_hm xv)), (.ref a1)])) _
      refine XS.iload X8.here hx rfl (hb hby own_d7_108) rfl ?_
      show Steps p.tables e below (T8.setTop (mkF m 110 #[.val (.ref a1), .val (.int i1), .val (.long xv), .second, .val (.int (own_hm xv)), .val (.int ((i1 - (own_hm xv)) &&& (7 : Int32)))] [(.int ((i1 - (own_hm xv)) &&& (7 : Int32))), (.int (6 : Int32)), (.int (own_hm xv)), (.ref a1)])) _
      refine st9 _ ?_
      show Steps p.tables e below (T9.setTop (mkF m 113 #[.val (.ref a1), .val (.int i1), .val (.long xv), .second, .val (.int (own_hm xv)), .val (.int ((i1 - (own_hm xv)) &&& (7 : Int32)))] [(.int (1 : Int32))])) _
      refine XS.ifNo X9.here hx rfl (hb hby own_d7_113) rfl (XT.i0_eq_f (by decide)) ?_
      show Steps p.tables e below (T9.setTop (mkF m 116 #[.val (.ref a1), .val (.int i1), .val (.long xv), .second, .val (.int (own_hm xv)), .val (.int ((i1 - (own_hm xv)) &&& (7 : Int32)))] [])) _
      refine XT.iconstV X9.here hx rfl (1 : Int32) (hb hby own_d7_116) rfl ?_
      show Steps p.tables e below (T9.setTop (mkF m 117 #[.val (.ref a1), .val (.int i1), .val (.long xv), .second, .val (.int (own_hm xv)), .val (.int ((i1 - (own_hm xv)) &&& (7 : Int32)))] [(.int (1 : Int32))])) _
      refine XS.goto X9.here hx rfl (pc0 := 117) (pc' := 121) rfl (hb hby own_d7_117) (by decide) (by decide) ?_
      show Steps p.tables e below (T9.setTop (mkF m 121 #[.val (.ref a1), .val (.int i1), .val (.long xv), .second, .val (.int (own_hm xv)), .val (.int ((i1 - (own_hm xv)) &&& (7 : Int32)))] [(.int (1 : Int32))])) _
      exact retN X9 hx (t := .boolean) Bd.returns (by simp) (hb hby own_d7_121) hr
    · show own_Q7 Z a1 i1 kd x0 x1 x2 x3 x4 x5 x6 x7 xv h0 n0 _ T9.heap _
      exact ⟨rfl, N9, K9⟩
theorem own_pn0 : plainName "com/example/tracegauge/tracegauge/MarkingSetDoubledPinLaw" = true := by first | (simp [plainName, overriddenIn]; done) | decide +kernel
theorem own_ef0 (m : MethodId) (ja : Int64) (jb : Int64) (jc : Int64) (jd : Int64) (iz : Int32) : entryFrame m #[(.long ja), (.long jb), (.long jc), (.long jd), (.int iz)] maxLocals = mkF m 0 #[.val (.long ja), .second, .val (.long jb), .second, .val (.long jc), .second, .val (.long jd), .second, .val (.int iz), .unset, .unset] [] := by first | (simp [entryFrame, mkF, argsToLocals, Value.category, maxLocals]; done) | rfl
def own_Q0 (Z : State) (ja : Int64) (jb : Int64) (jc : Int64) (jd : Int64) (iz : Int32) (h0 : Heap) (n0 : Nat) (v : Option Value) (h : Heap) (L : List Loc) : Prop := (v = some (.int (1 : Int32))) ∧ (Fr n0 L)
set_option maxRecDepth 65536 in
set_option maxHeartbeats 40000000 in
theorem own_rm0 (l : Launch) (Z : State) (a0 : Array Value) (hw : ∀ d ∈ tables_1, d.before a0 Z = true) (ws : List Jvm.Cond) (ja : Int64) (jb : Int64) (jc : Int64) (jd : Int64) (iz : Int32) (h0 : Heap) (n0 : Nat) (Z0 : n0 ≤ h0.size)  :
    MetFree l x (head1 (Jvm.Cond.code x code maxLocals ret :: ws) room_1) (fun ar_ U_ => ar_ = #[(.long ja), (.long jb), (.long jc), (.long jd), (.int iz)] ∧ Z.Warmed39 U_.vm ∧ U_.heap = h0) (fun _ _ _ _ _ => True) (fun _ U_ o_ U_' => ∃ v_ L_, o_ = .returned v_ ∧ own_Q0 Z ja jb jc jd iz h0 n0 v_ U_'.heap L_ ∧ FrameEnd U_ o_ U_' L_ room_1.cells room_1.slots) := by
  refine MetFree.of_bodySF (plainFor_of_name own_pn0) hisR ?_
  intro p e s m args below meth c s₁ Bd hml0 hP hK
  obtain ⟨rfl, hZ, hh⟩ := hP
  have hx := Bd.exec
  have hby := Bd.bytes
  have hml : c.maxLocals = 11 := hml0
  have hown : s.vm.findClass "com/example/tracegauge/tracegauge/MarkingSetDoubledPinLaw" = some m.cls := findClass_of_methodNamed Bd.named
  have hnm := (name_of_methodNamed Bd.named Bd.method).1
  have X0 : Stand p l e room_1 s m #[(.long ja), (.long jb), (.long jc), (.long jd), (.int iz)] below meth c s₁ [] 0 0 := Stand.of_body Bd
  have e0 : s₁.heap = h0 := by rw [← hh, Bd.state]; rfl
  have N0 := Fr.nil n0
  have pre0 : ∀ t, Steps p.tables e below (s₁.setTop (mkF m 0 #[.val (.long ja), .second, .val (.long jb), .second, .val (.long jc), .second, .val (.long jd), .second, .val (.int iz), .unset, .unset] [])) t → Steps p.tables e below (s₁.setTop (entryFrame m #[(.long ja), (.long jb), (.long jc), (.long jd), (.int iz)] maxLocals)) t := fun t k => castTop (own_ef0 m ja jb jc jd iz) k
  obtain ⟨T1, h1, kc1, X1, e1, E1, A1, st1⟩ := newP X0 hx hZ (hw _ (List.mem_of_getElem? (i := 0) rfl)) e0 (g := (mkF m 1 #[.val (.long ja), .second, .val (.long jb), .second, .val (.long jc), .second, .val (.long jd), .second, .val (.int iz), .unset, .unset] [(.int (4 : Int32))])) rfl (hb hby at_1) rfl (by decide) (cap := 4) (by decide) (by decide) (by decide) (by decide)
  obtain ⟨ob1, g1⟩ : ∃ z, z = h0.size := ⟨_, rfl⟩
  rw [← g1] at A1 st1
  have sz1 : n0 ≤ h1.size := Nat.le_trans Z0 E1.1
  have gn_ob1 : n0 ≤ ob1 := Nat.le_trans Z0 (Nat.le_of_eq g1.symm)
  have bo_ob1 : h0.size ≤ ob1 := Nat.le_trans (Keep.refl h0 []).1 (Nat.le_of_eq g1.symm)
  have K1 : Keep h0 h1 [] := (Keep.refl h0 []).ext E1
  have V_ob1 : Arv Z h1 ob1 kc1 .long (4 : Int32) [(.long (0 : Int64)), (.long (0 : Int64)), (.long (0 : Int64)), (.long (0 : Int64))] (.long (0 : Int64)) := (Arv.new A1 (by decide)).pad (pad_rep [] (.long (0 : Int64)) 4)
  have pre2 : ∀ t, Steps p.tables e below (T1.setTop (mkF m 20 #[.val (.long ja), .second, .val (.long jb), .second, .val (.long jc), .second, .val (.long jd), .second, .val (.int iz), .val (.ref ob1), .unset] [(.long (if (iz &&& (1 : Int32)) = 0 then ja else (0 : Int64))), (.int (0 : Int32)), (.ref ob1)])) t → Steps p.tables e below (s₁.setTop (entryFrame m #[(.long ja), (.long jb), (.long jc), (.long jd), (.int iz)] maxLocals)) t := fun t k => pre0 t (by
    show Steps p.tables e below (s₁.setTop (mkF m 0 #[.val (.long ja), .second, .val (.long jb), .second, .val (.long jc), .second, .val (.long jd), .second, .val (.int iz), .unset, .unset] [])) _
    refine XT.iconstV X0.here hx rfl (4 : Int32) (hb hby at_0) rfl ?_
    show Steps p.tables e below (s₁.setTop (mkF m 1 #[.val (.long ja), .second, .val (.long jb), .second, .val (.long jc), .second, .val (.long jd), .second, .val (.int iz), .unset, .unset] [(.int (4 : Int32))])) _
    refine st1 _ ?_
    show Steps p.tables e below (T1.setTop (mkF m 3 #[.val (.long ja), .second, .val (.long jb), .second, .val (.long jc), .second, .val (.long jd), .second, .val (.int iz), .unset, .unset] [(.ref ob1)])) _
    refine XS.astore X1.here hx rfl (hb hby at_3) rfl rfl (l' := #[.val (.long ja), .second, .val (.long jb), .second, .val (.long jc), .second, .val (.long jd), .second, .val (.int iz), .val (.ref ob1), .unset]) rfl ?_
    show Steps p.tables e below (T1.setTop (mkF m 5 #[.val (.long ja), .second, .val (.long jb), .second, .val (.long jc), .second, .val (.long jd), .second, .val (.int iz), .val (.ref ob1), .unset] [])) _
    refine XS.aload X1.here hx rfl (hb hby at_5) rfl rfl ?_
    show Steps p.tables e below (T1.setTop (mkF m 7 #[.val (.long ja), .second, .val (.long jb), .second, .val (.long jc), .second, .val (.long jd), .second, .val (.int iz), .val (.ref ob1), .unset] [(.ref ob1)])) _
    refine XT.iconstV X1.here hx rfl (0 : Int32) (hb hby at_7) rfl ?_
    show Steps p.tables e below (T1.setTop (mkF m 8 #[.val (.long ja), .second, .val (.long jb), .second, .val (.long jc), .second, .val (.long jd), .second, .val (.int iz), .val (.ref ob1), .unset] [(.int (0 : Int32)), (.ref ob1)])) _
    refine XS.iload X1.here hx rfl (hb hby at_8) rfl ?_
    show Steps p.tables e below (T1.setTop (mkF m 10 #[.val (.long ja), .second, .val (.long jb), .second, .val (.long jc), .second, .val (.long jd), .second, .val (.int iz), .val (.ref ob1), .unset] [(.int iz), (.int (0 : Int32)), (.ref ob1)])) _
    refine XT.iconstV X1.here hx rfl (1 : Int32) (hb hby at_10) rfl ?_
    show Steps p.tables e below (T1.setTop (mkF m 11 #[.val (.long ja), .second, .val (.long jb), .second, .val (.long jc), .second, .val (.long jd), .second, .val (.int iz), .val (.ref ob1), .unset] [(.int (1 : Int32)), (.int iz), (.int (0 : Int32)), (.ref ob1)])) _
    refine XS.iand X1.here hx rfl (hb hby at_11) rfl ?_
    by_cases hj12 : (iz &&& (1 : Int32)) = 0
    · rw [if_pos hj12] at k
      show Steps p.tables e below (T1.setTop (mkF m 12 #[.val (.long ja), .second, .val (.long jb), .second, .val (.long jc), .second, .val (.long jd), .second, .val (.int iz), .val (.ref ob1), .unset] [(.int (iz &&& (1 : Int32))), (.int (0 : Int32)), (.ref ob1)])) _
      refine XS.ifYes X1.here hx rfl (pc0 := 12) (pc' := 19) rfl (hb hby at_12) rfl (XT.i0_eq_t hj12) (by decide) (by decide) ?_
      show Steps p.tables e below (T1.setTop (mkF m 19 #[.val (.long ja), .second, .val (.long jb), .second, .val (.long jc), .second, .val (.long jd), .second, .val (.int iz), .val (.ref ob1), .unset] [(.int (0 : Int32)), (.ref ob1)])) _
      refine XT.lloadN X1.here hx rfl (hb hby at_19) rfl ?_
      exact k
    · rw [if_neg hj12] at k
      show Steps p.tables e below (T1.setTop (mkF m 12 #[.val (.long ja), .second, .val (.long jb), .second, .val (.long jc), .second, .val (.long jd), .second, .val (.int iz), .val (.ref ob1), .unset] [(.int (iz &&& (1 : Int32))), (.int (0 : Int32)), (.ref ob1)])) _
      refine XS.ifNo X1.here hx rfl (hb hby at_12) rfl (XT.i0_eq_f hj12) ?_
      show Steps p.tables e below (T1.setTop (mkF m 15 #[.val (.long ja), .second, .val (.long jb), .second, .val (.long jc), .second, .val (.long jd), .second, .val (.int iz), .val (.ref ob1), .unset] [(.int (0 : Int32)), (.ref ob1)])) _
      refine XT.lconstV X1.here hx rfl (0 : Int64) (hb hby at_15) rfl ?_
      show Steps p.tables e below (T1.setTop (mkF m 16 #[.val (.long ja), .second, .val (.long jb), .second, .val (.long jc), .second, .val (.long jd), .second, .val (.int iz), .val (.ref ob1), .unset] [(.long (0 : Int64)), (.int (0 : Int32)), (.ref ob1)])) _
      refine XS.goto X1.here hx rfl (pc0 := 16) (pc' := 20) rfl (hb hby at_16) (by decide) (by decide) ?_
      exact k)
  obtain ⟨v0, q_v0⟩ : ∃ z : Int64, z = (if (iz &&& (1 : Int32)) = 0 then ja else (0 : Int64)) := ⟨_, rfl⟩
  rw [← q_v0] at pre2
  obtain ⟨cl3, Ar3, Q3, Sz3, Nn3, Ha3, Gf3⟩ := id V_ob1
  have ghin3 : ¬ ((0 : Int32) < 0 ∨ cl3.slots.size ≤ ((0 : Int32)).toNatClampNeg) := inb_of Sz3 ⟨by decide, by decide⟩
  obtain ⟨T4, h4, X4, e4, W4, st4⟩ := stJ X1 hx hZ e1 Ar3 (j := (0 : Int32)) ghin3 (g := (mkF m 20 #[.val (.long ja), .second, .val (.long jb), .second, .val (.long jc), .second, .val (.long jd), .second, .val (.int iz), .val (.ref ob1), .unset] [(.long v0), (.int (0 : Int32)), (.ref ob1)])) rfl rfl (hb hby at_20)
  have V4 : Arv Z h4 ob1 kc1 .long (4 : Int32) [(.long v0), (.long (0 : Int64)), (.long (0 : Int64)), (.long (0 : Int64))] (.long (0 : Int64)) := Arv.set Ar3 Q3 Sz3 Nn3 Ha3 Gf3 rfl W4 0 rfl (Nat.le_of_ble_eq_true rfl)
  have K4 : Keep h0 h4 [] := K1.wr W4 (Or.inr bo_ob1)
  have N4 := Fr.snoc X4 N0 gn_ob1
  have pre5 : ∀ t, Steps p.tables e below (T4.setTop (mkF m 36 #[.val (.long ja), .second, .val (.long jb), .second, .val (.long jc), .second, .val (.long jd), .second, .val (.int iz), .val (.ref ob1), .unset] [(.long (if (iz &&& (2 : Int32)) = 0 then jb else (0 : Int64))), (.int (1 : Int32)), (.ref ob1)])) t → Steps p.tables e below (s₁.setTop (entryFrame m #[(.long ja), (.long jb), (.long jc), (.long jd), (.int iz)] maxLocals)) t := fun t k => pre2 t (by
    show Steps p.tables e below (T1.setTop (mkF m 20 #[.val (.long ja), .second, .val (.long jb), .second, .val (.long jc), .second, .val (.long jd), .second, .val (.int iz), .val (.ref ob1), .unset] [(.long v0), (.int (0 : Int32)), (.ref ob1)])) _
    refine st4 _ ?_
    show Steps p.tables e below (T4.setTop (mkF m 21 #[.val (.long ja), .second, .val (.long jb), .second, .val (.long jc), .second, .val (.long jd), .second, .val (.int iz), .val (.ref ob1), .unset] [])) _
    refine XS.aload X4.here hx rfl (hb hby at_21) rfl rfl ?_
    show Steps p.tables e below (T4.setTop (mkF m 23 #[.val (.long ja), .second, .val (.long jb), .second, .val (.long jc), .second, .val (.long jd), .second, .val (.int iz), .val (.ref ob1), .unset] [(.ref ob1)])) _
    refine XT.iconstV X4.here hx rfl (1 : Int32) (hb hby at_23) rfl ?_
    show Steps p.tables e below (T4.setTop (mkF m 24 #[.val (.long ja), .second, .val (.long jb), .second, .val (.long jc), .second, .val (.long jd), .second, .val (.int iz), .val (.ref ob1), .unset] [(.int (1 : Int32)), (.ref ob1)])) _
    refine XS.iload X4.here hx rfl (hb hby at_24) rfl ?_
    show Steps p.tables e below (T4.setTop (mkF m 26 #[.val (.long ja), .second, .val (.long jb), .second, .val (.long jc), .second, .val (.long jd), .second, .val (.int iz), .val (.ref ob1), .unset] [(.int iz), (.int (1 : Int32)), (.ref ob1)])) _
    refine XT.iconstV X4.here hx rfl (2 : Int32) (hb hby at_26) rfl ?_
    show Steps p.tables e below (T4.setTop (mkF m 27 #[.val (.long ja), .second, .val (.long jb), .second, .val (.long jc), .second, .val (.long jd), .second, .val (.int iz), .val (.ref ob1), .unset] [(.int (2 : Int32)), (.int iz), (.int (1 : Int32)), (.ref ob1)])) _
    refine XS.iand X4.here hx rfl (hb hby at_27) rfl ?_
    by_cases hj28 : (iz &&& (2 : Int32)) = 0
    · rw [if_pos hj28] at k
      show Steps p.tables e below (T4.setTop (mkF m 28 #[.val (.long ja), .second, .val (.long jb), .second, .val (.long jc), .second, .val (.long jd), .second, .val (.int iz), .val (.ref ob1), .unset] [(.int (iz &&& (2 : Int32))), (.int (1 : Int32)), (.ref ob1)])) _
      refine XS.ifYes X4.here hx rfl (pc0 := 28) (pc' := 35) rfl (hb hby at_28) rfl (XT.i0_eq_t hj28) (by decide) (by decide) ?_
      show Steps p.tables e below (T4.setTop (mkF m 35 #[.val (.long ja), .second, .val (.long jb), .second, .val (.long jc), .second, .val (.long jd), .second, .val (.int iz), .val (.ref ob1), .unset] [(.int (1 : Int32)), (.ref ob1)])) _
      refine XT.lloadN X4.here hx rfl (hb hby at_35) rfl ?_
      exact k
    · rw [if_neg hj28] at k
      show Steps p.tables e below (T4.setTop (mkF m 28 #[.val (.long ja), .second, .val (.long jb), .second, .val (.long jc), .second, .val (.long jd), .second, .val (.int iz), .val (.ref ob1), .unset] [(.int (iz &&& (2 : Int32))), (.int (1 : Int32)), (.ref ob1)])) _
      refine XS.ifNo X4.here hx rfl (hb hby at_28) rfl (XT.i0_eq_f hj28) ?_
      show Steps p.tables e below (T4.setTop (mkF m 31 #[.val (.long ja), .second, .val (.long jb), .second, .val (.long jc), .second, .val (.long jd), .second, .val (.int iz), .val (.ref ob1), .unset] [(.int (1 : Int32)), (.ref ob1)])) _
      refine XT.lconstV X4.here hx rfl (0 : Int64) (hb hby at_31) rfl ?_
      show Steps p.tables e below (T4.setTop (mkF m 32 #[.val (.long ja), .second, .val (.long jb), .second, .val (.long jc), .second, .val (.long jd), .second, .val (.int iz), .val (.ref ob1), .unset] [(.long (0 : Int64)), (.int (1 : Int32)), (.ref ob1)])) _
      refine XS.goto X4.here hx rfl (pc0 := 32) (pc' := 36) rfl (hb hby at_32) (by decide) (by decide) ?_
      exact k)
  obtain ⟨v1, q_v1⟩ : ∃ z : Int64, z = (if (iz &&& (2 : Int32)) = 0 then jb else (0 : Int64)) := ⟨_, rfl⟩
  rw [← q_v1] at pre5
  obtain ⟨cl6, Ar6, Q6, Sz6, Nn6, Ha6, Gf6⟩ := id V4
  have ghin6 : ¬ ((1 : Int32) < 0 ∨ cl6.slots.size ≤ ((1 : Int32)).toNatClampNeg) := inb_of Sz6 ⟨by decide, by decide⟩
  obtain ⟨T7, h7, X7, e7, W7, st7⟩ := stJ X4 hx hZ e4 Ar6 (j := (1 : Int32)) ghin6 (g := (mkF m 36 #[.val (.long ja), .second, .val (.long jb), .second, .val (.long jc), .second, .val (.long jd), .second, .val (.int iz), .val (.ref ob1), .unset] [(.long v1), (.int (1 : Int32)), (.ref ob1)])) rfl rfl (hb hby at_36)
  have V7 : Arv Z h7 ob1 kc1 .long (4 : Int32) [(.long v0), (.long v1), (.long (0 : Int64)), (.long (0 : Int64))] (.long (0 : Int64)) := Arv.set Ar6 Q6 Sz6 Nn6 Ha6 Gf6 rfl W7 1 rfl (Nat.le_of_ble_eq_true rfl)
  have K7 : Keep h0 h7 [] := K4.wr W7 (Or.inr bo_ob1)
  have N7 := Fr.snoc X7 N4 gn_ob1
  have pre8 : ∀ t, Steps p.tables e below (T7.setTop (mkF m 53 #[.val (.long ja), .second, .val (.long jb), .second, .val (.long jc), .second, .val (.long jd), .second, .val (.int iz), .val (.ref ob1), .unset] [(.long (if (iz &&& (4 : Int32)) = 0 then jc else (0 : Int64))), (.int (2 : Int32)), (.ref ob1)])) t → Steps p.tables e below (s₁.setTop (entryFrame m #[(.long ja), (.long jb), (.long jc), (.long jd), (.int iz)] maxLocals)) t := fun t k => pre5 t (by
    show Steps p.tables e below (T4.setTop (mkF m 36 #[.val (.long ja), .second, .val (.long jb), .second, .val (.long jc), .second, .val (.long jd), .second, .val (.int iz), .val (.ref ob1), .unset] [(.long v1), (.int (1 : Int32)), (.ref ob1)])) _
    refine st7 _ ?_
    show Steps p.tables e below (T7.setTop (mkF m 37 #[.val (.long ja), .second, .val (.long jb), .second, .val (.long jc), .second, .val (.long jd), .second, .val (.int iz), .val (.ref ob1), .unset] [])) _
    refine XS.aload X7.here hx rfl (hb hby at_37) rfl rfl ?_
    show Steps p.tables e below (T7.setTop (mkF m 39 #[.val (.long ja), .second, .val (.long jb), .second, .val (.long jc), .second, .val (.long jd), .second, .val (.int iz), .val (.ref ob1), .unset] [(.ref ob1)])) _
    refine XT.iconstV X7.here hx rfl (2 : Int32) (hb hby at_39) rfl ?_
    show Steps p.tables e below (T7.setTop (mkF m 40 #[.val (.long ja), .second, .val (.long jb), .second, .val (.long jc), .second, .val (.long jd), .second, .val (.int iz), .val (.ref ob1), .unset] [(.int (2 : Int32)), (.ref ob1)])) _
    refine XS.iload X7.here hx rfl (hb hby at_40) rfl ?_
    show Steps p.tables e below (T7.setTop (mkF m 42 #[.val (.long ja), .second, .val (.long jb), .second, .val (.long jc), .second, .val (.long jd), .second, .val (.int iz), .val (.ref ob1), .unset] [(.int iz), (.int (2 : Int32)), (.ref ob1)])) _
    refine XT.iconstV X7.here hx rfl (4 : Int32) (hb hby at_42) rfl ?_
    show Steps p.tables e below (T7.setTop (mkF m 43 #[.val (.long ja), .second, .val (.long jb), .second, .val (.long jc), .second, .val (.long jd), .second, .val (.int iz), .val (.ref ob1), .unset] [(.int (4 : Int32)), (.int iz), (.int (2 : Int32)), (.ref ob1)])) _
    refine XS.iand X7.here hx rfl (hb hby at_43) rfl ?_
    by_cases hj44 : (iz &&& (4 : Int32)) = 0
    · rw [if_pos hj44] at k
      show Steps p.tables e below (T7.setTop (mkF m 44 #[.val (.long ja), .second, .val (.long jb), .second, .val (.long jc), .second, .val (.long jd), .second, .val (.int iz), .val (.ref ob1), .unset] [(.int (iz &&& (4 : Int32))), (.int (2 : Int32)), (.ref ob1)])) _
      refine XS.ifYes X7.here hx rfl (pc0 := 44) (pc' := 51) rfl (hb hby at_44) rfl (XT.i0_eq_t hj44) (by decide) (by decide) ?_
      show Steps p.tables e below (T7.setTop (mkF m 51 #[.val (.long ja), .second, .val (.long jb), .second, .val (.long jc), .second, .val (.long jd), .second, .val (.int iz), .val (.ref ob1), .unset] [(.int (2 : Int32)), (.ref ob1)])) _
      refine XT.lload X7.here hx rfl (hb hby at_51) rfl ?_
      exact k
    · rw [if_neg hj44] at k
      show Steps p.tables e below (T7.setTop (mkF m 44 #[.val (.long ja), .second, .val (.long jb), .second, .val (.long jc), .second, .val (.long jd), .second, .val (.int iz), .val (.ref ob1), .unset] [(.int (iz &&& (4 : Int32))), (.int (2 : Int32)), (.ref ob1)])) _
      refine XS.ifNo X7.here hx rfl (hb hby at_44) rfl (XT.i0_eq_f hj44) ?_
      show Steps p.tables e below (T7.setTop (mkF m 47 #[.val (.long ja), .second, .val (.long jb), .second, .val (.long jc), .second, .val (.long jd), .second, .val (.int iz), .val (.ref ob1), .unset] [(.int (2 : Int32)), (.ref ob1)])) _
      refine XT.lconstV X7.here hx rfl (0 : Int64) (hb hby at_47) rfl ?_
      show Steps p.tables e below (T7.setTop (mkF m 48 #[.val (.long ja), .second, .val (.long jb), .second, .val (.long jc), .second, .val (.long jd), .second, .val (.int iz), .val (.ref ob1), .unset] [(.long (0 : Int64)), (.int (2 : Int32)), (.ref ob1)])) _
      refine XS.goto X7.here hx rfl (pc0 := 48) (pc' := 53) rfl (hb hby at_48) (by decide) (by decide) ?_
      exact k)
  obtain ⟨v2, q_v2⟩ : ∃ z : Int64, z = (if (iz &&& (4 : Int32)) = 0 then jc else (0 : Int64)) := ⟨_, rfl⟩
  rw [← q_v2] at pre8
  obtain ⟨cl9, Ar9, Q9, Sz9, Nn9, Ha9, Gf9⟩ := id V7
  have ghin9 : ¬ ((2 : Int32) < 0 ∨ cl9.slots.size ≤ ((2 : Int32)).toNatClampNeg) := inb_of Sz9 ⟨by decide, by decide⟩
  obtain ⟨T10, h10, X10, e10, W10, st10⟩ := stJ X7 hx hZ e7 Ar9 (j := (2 : Int32)) ghin9 (g := (mkF m 53 #[.val (.long ja), .second, .val (.long jb), .second, .val (.long jc), .second, .val (.long jd), .second, .val (.int iz), .val (.ref ob1), .unset] [(.long v2), (.int (2 : Int32)), (.ref ob1)])) rfl rfl (hb hby at_53)
  have V10 : Arv Z h10 ob1 kc1 .long (4 : Int32) [(.long v0), (.long v1), (.long v2), (.long (0 : Int64))] (.long (0 : Int64)) := Arv.set Ar9 Q9 Sz9 Nn9 Ha9 Gf9 rfl W10 2 rfl (Nat.le_of_ble_eq_true rfl)
  have K10 : Keep h0 h10 [] := K7.wr W10 (Or.inr bo_ob1)
  have N10 := Fr.snoc X10 N7 gn_ob1
  have pre11 : ∀ t, Steps p.tables e below (T10.setTop (mkF m 71 #[.val (.long ja), .second, .val (.long jb), .second, .val (.long jc), .second, .val (.long jd), .second, .val (.int iz), .val (.ref ob1), .unset] [(.long (if (iz &&& (8 : Int32)) = 0 then jd else (0 : Int64))), (.int (3 : Int32)), (.ref ob1)])) t → Steps p.tables e below (s₁.setTop (entryFrame m #[(.long ja), (.long jb), (.long jc), (.long jd), (.int iz)] maxLocals)) t := fun t k => pre8 t (by
    show Steps p.tables e below (T7.setTop (mkF m 53 #[.val (.long ja), .second, .val (.long jb), .second, .val (.long jc), .second, .val (.long jd), .second, .val (.int iz), .val (.ref ob1), .unset] [(.long v2), (.int (2 : Int32)), (.ref ob1)])) _
    refine st10 _ ?_
    show Steps p.tables e below (T10.setTop (mkF m 54 #[.val (.long ja), .second, .val (.long jb), .second, .val (.long jc), .second, .val (.long jd), .second, .val (.int iz), .val (.ref ob1), .unset] [])) _
    refine XS.aload X10.here hx rfl (hb hby at_54) rfl rfl ?_
    show Steps p.tables e below (T10.setTop (mkF m 56 #[.val (.long ja), .second, .val (.long jb), .second, .val (.long jc), .second, .val (.long jd), .second, .val (.int iz), .val (.ref ob1), .unset] [(.ref ob1)])) _
    refine XT.iconstV X10.here hx rfl (3 : Int32) (hb hby at_56) rfl ?_
    show Steps p.tables e below (T10.setTop (mkF m 57 #[.val (.long ja), .second, .val (.long jb), .second, .val (.long jc), .second, .val (.long jd), .second, .val (.int iz), .val (.ref ob1), .unset] [(.int (3 : Int32)), (.ref ob1)])) _
    refine XS.iload X10.here hx rfl (hb hby at_57) rfl ?_
    show Steps p.tables e below (T10.setTop (mkF m 59 #[.val (.long ja), .second, .val (.long jb), .second, .val (.long jc), .second, .val (.long jd), .second, .val (.int iz), .val (.ref ob1), .unset] [(.int iz), (.int (3 : Int32)), (.ref ob1)])) _
    refine XT.bipushV X10.here hx rfl (8 : Int32) (hb hby at_59) rfl ?_
    show Steps p.tables e below (T10.setTop (mkF m 61 #[.val (.long ja), .second, .val (.long jb), .second, .val (.long jc), .second, .val (.long jd), .second, .val (.int iz), .val (.ref ob1), .unset] [(.int (8 : Int32)), (.int iz), (.int (3 : Int32)), (.ref ob1)])) _
    refine XS.iand X10.here hx rfl (hb hby at_61) rfl ?_
    by_cases hj62 : (iz &&& (8 : Int32)) = 0
    · rw [if_pos hj62] at k
      show Steps p.tables e below (T10.setTop (mkF m 62 #[.val (.long ja), .second, .val (.long jb), .second, .val (.long jc), .second, .val (.long jd), .second, .val (.int iz), .val (.ref ob1), .unset] [(.int (iz &&& (8 : Int32))), (.int (3 : Int32)), (.ref ob1)])) _
      refine XS.ifYes X10.here hx rfl (pc0 := 62) (pc' := 69) rfl (hb hby at_62) rfl (XT.i0_eq_t hj62) (by decide) (by decide) ?_
      show Steps p.tables e below (T10.setTop (mkF m 69 #[.val (.long ja), .second, .val (.long jb), .second, .val (.long jc), .second, .val (.long jd), .second, .val (.int iz), .val (.ref ob1), .unset] [(.int (3 : Int32)), (.ref ob1)])) _
      refine XT.lload X10.here hx rfl (hb hby at_69) rfl ?_
      exact k
    · rw [if_neg hj62] at k
      show Steps p.tables e below (T10.setTop (mkF m 62 #[.val (.long ja), .second, .val (.long jb), .second, .val (.long jc), .second, .val (.long jd), .second, .val (.int iz), .val (.ref ob1), .unset] [(.int (iz &&& (8 : Int32))), (.int (3 : Int32)), (.ref ob1)])) _
      refine XS.ifNo X10.here hx rfl (hb hby at_62) rfl (XT.i0_eq_f hj62) ?_
      show Steps p.tables e below (T10.setTop (mkF m 65 #[.val (.long ja), .second, .val (.long jb), .second, .val (.long jc), .second, .val (.long jd), .second, .val (.int iz), .val (.ref ob1), .unset] [(.int (3 : Int32)), (.ref ob1)])) _
      refine XT.lconstV X10.here hx rfl (0 : Int64) (hb hby at_65) rfl ?_
      show Steps p.tables e below (T10.setTop (mkF m 66 #[.val (.long ja), .second, .val (.long jb), .second, .val (.long jc), .second, .val (.long jd), .second, .val (.int iz), .val (.ref ob1), .unset] [(.long (0 : Int64)), (.int (3 : Int32)), (.ref ob1)])) _
      refine XS.goto X10.here hx rfl (pc0 := 66) (pc' := 71) rfl (hb hby at_66) (by decide) (by decide) ?_
      exact k)
  obtain ⟨v3, q_v3⟩ : ∃ z : Int64, z = (if (iz &&& (8 : Int32)) = 0 then jd else (0 : Int64)) := ⟨_, rfl⟩
  rw [← q_v3] at pre11
  obtain ⟨cl12, Ar12, Q12, Sz12, Nn12, Ha12, Gf12⟩ := id V10
  have ghin12 : ¬ ((3 : Int32) < 0 ∨ cl12.slots.size ≤ ((3 : Int32)).toNatClampNeg) := inb_of Sz12 ⟨by decide, by decide⟩
  obtain ⟨T13, h13, X13, e13, W13, st13⟩ := stJ X10 hx hZ e10 Ar12 (j := (3 : Int32)) ghin12 (g := (mkF m 71 #[.val (.long ja), .second, .val (.long jb), .second, .val (.long jc), .second, .val (.long jd), .second, .val (.int iz), .val (.ref ob1), .unset] [(.long v3), (.int (3 : Int32)), (.ref ob1)])) rfl rfl (hb hby at_71)
  have V13 : Arv Z h13 ob1 kc1 .long (4 : Int32) [(.long v0), (.long v1), (.long v2), (.long v3)] (.long (0 : Int64)) := Arv.set Ar12 Q12 Sz12 Nn12 Ha12 Gf12 rfl W13 3 rfl (Nat.le_of_ble_eq_true rfl)
  have K13 : Keep h0 h13 [] := K10.wr W13 (Or.inr bo_ob1)
  have N13 := Fr.snoc X13 N10 gn_ob1
  have szn14 : n0 ≤ h13.size := (Nat.le_trans (Nat.le_trans (Nat.le_trans (Nat.le_trans sz1 (Keep.of_wr W4).1) (Keep.of_wr W7).1) (Keep.of_wr W10).1) (Keep.of_wr W13).1)
  obtain ⟨_, _, ⟨T15, tL15, tk15, tn15⟩, -, X15, ⟨Lc15, hQ15, tl15, ty15, tz15⟩, st15⟩ := Jvm.LawKit.callS X13 hx (y := (⟨"com/example/tracegauge/tracegauge/MarkingSet", "doubled", "([J)[J"⟩ : MethodName)) hown (mvT hZ (hw _ (List.mem_of_getElem? (i := 1) rfl))) (mvT hZ (hw _ (List.mem_of_getElem? (i := 2) rfl))) (mvT hZ (hw _ (List.mem_of_getElem? (i := 3) rfl))) (mvT hZ (hw _ (List.mem_of_getElem? (i := 4) rfl))) (by decide) (backOf (W := 0) (own_rm1 l Z a0 hw [] ob1 kc1 v0 v1 v2 v3 h13 n0 szn14 V13) hZ (hw _ (List.mem_of_getElem? (i := 4) rfl)) (hw _ (List.mem_of_getElem? (i := 3) rfl)) (by decide) (by decide)) (g := (mkF m 74 #[.val (.long ja), .second, .val (.long jb), .second, .val (.long jc), .second, .val (.long jd), .second, .val (.int iz), .val (.ref ob1), .unset] [(.ref ob1)])) rfl (by rw [hml]; rfl) (argsL := [(.ref ob1)]) (rest := []) (lenOf own_pd3 rfl) rfl (by show 2 * 0 + _ ≤ _; exact Nat.le_of_eq rfl) (hb hby at_74) (fun _ _ => ⟨rfl, e13, (by decide : 1 + 1 ≤ _), (by decide : 4 + 8 ≤ _)⟩)
  dsimp only [Pt.U, Pt.locs, Pt.cells, Pt.slots] at X15 tl15 ty15 tz15 st15 hQ15
  rw [tl15, ty15, tz15] at X15
  obtain ⟨o1_15, kd_15, rfl, Nq15, K15, Fa15_V_o1, hb_15⟩ := hQ15
  have N15 := Fr.app N13 Nq15
  have sz15 : n0 ≤ T15.heap.size := Nat.le_trans szn14 K15.1
  have KK15 : Keep h0 T15.heap [] := K13.trans K15 all0
  have gn_o1_15 : n0 ≤ o1_15 := Nat.le_trans szn14 hb_15
  have bo_o1_15 : h0.size ≤ o1_15 := Nat.le_trans K13.1 hb_15
  have ne_ob1_o1_15 : ob1 ≠ o1_15 := Nat.ne_of_lt (Nat.lt_of_lt_of_le V13.lt hb_15)
  obtain ⟨hInv, hS, -, -⟩ := own_law v0 v1 v2 v3
  obtain ⟨x0, x1, x2, x3, x4, x5, x6, x7, hL⟩ := own_eight (own_L4 v0 v1 v2 v3) hInv.1
  have Vn16 : Arv Z T15.heap o1_15 kd_15 .long (8 : Int32) [(.long x0), (.long x1), (.long x2), (.long x3), (.long x4), (.long x5), (.long x6), (.long x7)] (.long (0 : Int64)) := by
    have hq := Fa15_V_o1
    rw [hL] at hq; exact hq
  rw [hL] at hInv hS
  obtain ⟨cl17, Ar17, -, Sz17, Nn17, -, -⟩ := id Vn16
  have FV_ob1_18 : Arv Z T15.heap ob1 kc1 .long (4 : Int32) [(.long v0), (.long v1), (.long v2), (.long v3)] (.long (0 : Int64)) := (V13.keep K15 nin0)
  obtain ⟨_, _, ⟨T19, tL19, tk19, tn19⟩, -, X19, ⟨Lc19, hQ19, tl19, ty19, tz19⟩, st19⟩ := Jvm.LawKit.callS X15 hx (y := (⟨"com/example/tracegauge/tracegauge/MarkingSetDoubledPinLaw", "nonZero4", "([J)I"⟩ : MethodName)) hown (mvT hZ (hw _ (List.mem_of_getElem? (i := 5) rfl))) (mvT hZ (hw _ (List.mem_of_getElem? (i := 6) rfl))) (mvT hZ (hw _ (List.mem_of_getElem? (i := 7) rfl))) (mvT hZ (hw _ (List.mem_of_getElem? (i := 8) rfl))) (by decide) (backOf (W := 0) (own_rm2 l Z a0 hw [] ob1 kc1 v0 v1 v2 v3 T15.heap n0 sz15 FV_ob1_18) hZ (hw _ (List.mem_of_getElem? (i := 8) rfl)) (hw _ (List.mem_of_getElem? (i := 7) rfl)) (by decide) (by decide)) (g := (mkF m 91 #[.val (.long ja), .second, .val (.long jb), .second, .val (.long jc), .second, .val (.long jd), .second, .val (.int iz), .val (.ref ob1), .val (.ref o1_15)] [(.ref ob1)])) rfl (by rw [hml]; rfl) (argsL := [(.ref ob1)]) (rest := []) (lenOf own_pd4 rfl) rfl (by show 2 * 0 + _ ≤ _; exact Nat.le_of_eq rfl) (hb hby at_91) (fun _ _ => ⟨rfl, rfl, (by decide : 2 + 0 ≤ _), (by decide : 12 + 0 ≤ _)⟩)
  dsimp only [Pt.U, Pt.locs, Pt.cells, Pt.slots] at X19 tl19 ty19 tz19 st19 hQ19
  rw [tl19, ty19, tz19] at X19
  obtain ⟨rfl, Nq19, K19⟩ := hQ19
  have N19 := Fr.app N15 Nq19
  obtain ⟨_, _, ⟨T20, tL20, tk20, tn20⟩, -, X20, ⟨Lc20, hQ20, tl20, ty20, tz20⟩, st20⟩ := Jvm.LawKit.callS X19 hx (y := (⟨"com/example/tracegauge/tracegauge/MarkingSetDoubledPinLaw", "nonZero8", "([J)I"⟩ : MethodName)) hown (mvT hZ (hw _ (List.mem_of_getElem? (i := 12) rfl))) (mvT hZ (hw _ (List.mem_of_getElem? (i := 13) rfl))) (mvT hZ (hw _ (List.mem_of_getElem? (i := 7) rfl))) (mvT hZ (hw _ (List.mem_of_getElem? (i := 14) rfl))) (by decide) (backOf (W := 1) (own_rm4 l Z a0 hw [] o1_15 kd_15 x0 x1 x2 x3 x4 x5 x6 x7 T15.heap n0 sz15 Vn16) hZ (hw _ (List.mem_of_getElem? (i := 14) rfl)) (hw _ (List.mem_of_getElem? (i := 7) rfl)) (by decide) (by decide)) (g := (mkF m 96 #[.val (.long ja), .second, .val (.long jb), .second, .val (.long jc), .second, .val (.long jd), .second, .val (.int iz), .val (.ref ob1), .val (.ref o1_15)] [(.ref o1_15), (.int ((((own_nz v0) + (own_nz v1)) + (own_nz v2)) + (own_nz v3)))])) rfl (by rw [hml]; rfl) (argsL := [(.ref o1_15)]) (rest := [(.int ((((own_nz v0) + (own_nz v1)) + (own_nz v2)) + (own_nz v3)))]) (lenOf own_pd4 rfl) rfl (by show 2 * 0 + _ ≤ _; exact Nat.le_of_eq rfl) (hb hby at_96) (fun _ _ => ⟨rfl, K19, (by decide : 2 + 0 ≤ _), (by decide : 12 + 0 ≤ _)⟩)
  dsimp only [Pt.U, Pt.locs, Pt.cells, Pt.slots] at X20 tl20 ty20 tz20 st20 hQ20
  rw [tl20, ty20, tz20] at X20
  obtain ⟨rfl, Nq20, K20⟩ := hQ20
  have N20 := Fr.app N19 Nq20
  obtain ⟨cl21, Ar21, Q21, Sz21, Nn21, Ha21, Gf21⟩ := id FV_ob1_18
  have ghin21 : ¬ ((0 : Int32) < 0 ∨ cl21.slots.size ≤ ((0 : Int32)).toNatClampNeg) := inb_of Sz21 ⟨by decide, by decide⟩
  have ghat21 : cl21.slots[((0 : Int32)).toNatClampNeg]? = some (.long v0) := Ha21.at ghin21 rfl
  obtain ⟨_, _, ⟨T22, tL22, tk22, tn22⟩, -, X22, ⟨Lc22, hQ22, tl22, ty22, tz22⟩, st22⟩ := Jvm.LawKit.callS X20 hx (y := (⟨"com/example/tracegauge/tracegauge/MarkingSetDoubledPinLaw", "sameCount", "([J[JJ)Z"⟩ : MethodName)) hown (mvT hZ (hw _ (List.mem_of_getElem? (i := 15) rfl))) (mvT hZ (hw _ (List.mem_of_getElem? (i := 16) rfl))) (mvT hZ (hw _ (List.mem_of_getElem? (i := 7) rfl))) (mvT hZ (hw _ (List.mem_of_getElem? (i := 17) rfl))) (by decide) (backOf (W := 0) (own_rm5 l Z a0 hw [] ob1 o1_15 v0 kc1 v0 v1 v2 v3 kd_15 x0 x1 x2 x3 x4 x5 x6 x7 T15.heap n0 sz15 FV_ob1_18 Vn16 (own_eqs v0 v0 v1 v2 v3 x0 x1 x2 x3 x4 x5 x6 x7 hS)) hZ (hw _ (List.mem_of_getElem? (i := 17) rfl)) (hw _ (List.mem_of_getElem? (i := 7) rfl)) (by decide) (by decide)) (g := (mkF m 112 #[.val (.long ja), .second, .val (.long jb), .second, .val (.long jc), .second, .val (.long jd), .second, .val (.int iz), .val (.ref ob1), .val (.ref o1_15)] [(.long v0), (.ref o1_15), (.ref ob1)])) rfl (by rw [hml]; rfl) (argsL := [(.ref ob1), (.ref o1_15), (.long v0)]) (rest := []) (lenOf own_pd5 rfl) rfl (by show 2 * 0 + _ ≤ _; exact Nat.le_of_eq rfl) (hb hby at_112) (fun _ _ => ⟨rfl, K20, (by decide : 2 + 0 ≤ _), (by decide : 12 + 0 ≤ _)⟩)
  dsimp only [Pt.U, Pt.locs, Pt.cells, Pt.slots] at X22 tl22 ty22 tz22 st22 hQ22
  rw [tl22, ty22, tz22] at X22
  obtain ⟨rfl, Nq22, K22⟩ := hQ22
  have N22 := Fr.app N20 Nq22
  obtain ⟨cl23, Ar23, Q23, Sz23, Nn23, Ha23, Gf23⟩ := id FV_ob1_18
  have ghin23 : ¬ ((1 : Int32) < 0 ∨ cl23.slots.size ≤ ((1 : Int32)).toNatClampNeg) := inb_of Sz23 ⟨by decide, by decide⟩
  have ghat23 : cl23.slots[((1 : Int32)).toNatClampNeg]? = some (.long v1) := Ha23.at ghin23 rfl
  obtain ⟨_, _, ⟨T24, tL24, tk24, tn24⟩, -, X24, ⟨Lc24, hQ24, tl24, ty24, tz24⟩, st24⟩ := Jvm.LawKit.callS X22 hx (y := (⟨"com/example/tracegauge/tracegauge/MarkingSetDoubledPinLaw", "sameCount", "([J[JJ)Z"⟩ : MethodName)) hown (mvT hZ (hw _ (List.mem_of_getElem? (i := 15) rfl))) (mvT hZ (hw _ (List.mem_of_getElem? (i := 16) rfl))) (mvT hZ (hw _ (List.mem_of_getElem? (i := 7) rfl))) (mvT hZ (hw _ (List.mem_of_getElem? (i := 17) rfl))) (by decide) (backOf (W := 0) (own_rm5 l Z a0 hw [] ob1 o1_15 v1 kc1 v0 v1 v2 v3 kd_15 x0 x1 x2 x3 x4 x5 x6 x7 T15.heap n0 sz15 FV_ob1_18 Vn16 (own_eqs v1 v0 v1 v2 v3 x0 x1 x2 x3 x4 x5 x6 x7 hS)) hZ (hw _ (List.mem_of_getElem? (i := 17) rfl)) (hw _ (List.mem_of_getElem? (i := 7) rfl)) (by decide) (by decide)) (g := (mkF m 126 #[.val (.long ja), .second, .val (.long jb), .second, .val (.long jc), .second, .val (.long jd), .second, .val (.int iz), .val (.ref ob1), .val (.ref o1_15)] [(.long v1), (.ref o1_15), (.ref ob1)])) rfl (by rw [hml]; rfl) (argsL := [(.ref ob1), (.ref o1_15), (.long v1)]) (rest := []) (lenOf own_pd5 rfl) rfl (by show 2 * 0 + _ ≤ _; exact Nat.le_of_eq rfl) (hb hby at_126) (fun _ _ => ⟨rfl, K22, (by decide : 2 + 0 ≤ _), (by decide : 12 + 0 ≤ _)⟩)
  dsimp only [Pt.U, Pt.locs, Pt.cells, Pt.slots] at X24 tl24 ty24 tz24 st24 hQ24
  rw [tl24, ty24, tz24] at X24
  obtain ⟨rfl, Nq24, K24⟩ := hQ24
  have N24 := Fr.app N22 Nq24
  obtain ⟨cl25, Ar25, Q25, Sz25, Nn25, Ha25, Gf25⟩ := id FV_ob1_18
  have ghin25 : ¬ ((2 : Int32) < 0 ∨ cl25.slots.size ≤ ((2 : Int32)).toNatClampNeg) := inb_of Sz25 ⟨by decide, by decide⟩
  have ghat25 : cl25.slots[((2 : Int32)).toNatClampNeg]? = some (.long v2) := Ha25.at ghin25 rfl
  obtain ⟨_, _, ⟨T26, tL26, tk26, tn26⟩, -, X26, ⟨Lc26, hQ26, tl26, ty26, tz26⟩, st26⟩ := Jvm.LawKit.callS X24 hx (y := (⟨"com/example/tracegauge/tracegauge/MarkingSetDoubledPinLaw", "sameCount", "([J[JJ)Z"⟩ : MethodName)) hown (mvT hZ (hw _ (List.mem_of_getElem? (i := 15) rfl))) (mvT hZ (hw _ (List.mem_of_getElem? (i := 16) rfl))) (mvT hZ (hw _ (List.mem_of_getElem? (i := 7) rfl))) (mvT hZ (hw _ (List.mem_of_getElem? (i := 17) rfl))) (by decide) (backOf (W := 0) (own_rm5 l Z a0 hw [] ob1 o1_15 v2 kc1 v0 v1 v2 v3 kd_15 x0 x1 x2 x3 x4 x5 x6 x7 T15.heap n0 sz15 FV_ob1_18 Vn16 (own_eqs v2 v0 v1 v2 v3 x0 x1 x2 x3 x4 x5 x6 x7 hS)) hZ (hw _ (List.mem_of_getElem? (i := 17) rfl)) (hw _ (List.mem_of_getElem? (i := 7) rfl)) (by decide) (by decide)) (g := (mkF m 140 #[.val (.long ja), .second, .val (.long jb), .second, .val (.long jc), .second, .val (.long jd), .second, .val (.int iz), .val (.ref ob1), .val (.ref o1_15)] [(.long v2), (.ref o1_15), (.ref ob1)])) rfl (by rw [hml]; rfl) (argsL := [(.ref ob1), (.ref o1_15), (.long v2)]) (rest := []) (lenOf own_pd5 rfl) rfl (by show 2 * 0 + _ ≤ _; exact Nat.le_of_eq rfl) (hb hby at_140) (fun _ _ => ⟨rfl, K24, (by decide : 2 + 0 ≤ _), (by decide : 12 + 0 ≤ _)⟩)
  dsimp only [Pt.U, Pt.locs, Pt.cells, Pt.slots] at X26 tl26 ty26 tz26 st26 hQ26
  rw [tl26, ty26, tz26] at X26
  obtain ⟨rfl, Nq26, K26⟩ := hQ26
  have N26 := Fr.app N24 Nq26
  obtain ⟨cl27, Ar27, Q27, Sz27, Nn27, Ha27, Gf27⟩ := id FV_ob1_18
  have ghin27 : ¬ ((3 : Int32) < 0 ∨ cl27.slots.size ≤ ((3 : Int32)).toNatClampNeg) := inb_of Sz27 ⟨by decide, by decide⟩
  have ghat27 : cl27.slots[((3 : Int32)).toNatClampNeg]? = some (.long v3) := Ha27.at ghin27 rfl
  obtain ⟨_, _, ⟨T28, tL28, tk28, tn28⟩, -, X28, ⟨Lc28, hQ28, tl28, ty28, tz28⟩, st28⟩ := Jvm.LawKit.callS X26 hx (y := (⟨"com/example/tracegauge/tracegauge/MarkingSetDoubledPinLaw", "sameCount", "([J[JJ)Z"⟩ : MethodName)) hown (mvT hZ (hw _ (List.mem_of_getElem? (i := 15) rfl))) (mvT hZ (hw _ (List.mem_of_getElem? (i := 16) rfl))) (mvT hZ (hw _ (List.mem_of_getElem? (i := 7) rfl))) (mvT hZ (hw _ (List.mem_of_getElem? (i := 17) rfl))) (by decide) (backOf (W := 0) (own_rm5 l Z a0 hw [] ob1 o1_15 v3 kc1 v0 v1 v2 v3 kd_15 x0 x1 x2 x3 x4 x5 x6 x7 T15.heap n0 sz15 FV_ob1_18 Vn16 (own_eqs v3 v0 v1 v2 v3 x0 x1 x2 x3 x4 x5 x6 x7 hS)) hZ (hw _ (List.mem_of_getElem? (i := 17) rfl)) (hw _ (List.mem_of_getElem? (i := 7) rfl)) (by decide) (by decide)) (g := (mkF m 154 #[.val (.long ja), .second, .val (.long jb), .second, .val (.long jc), .second, .val (.long jd), .second, .val (.int iz), .val (.ref ob1), .val (.ref o1_15)] [(.long v3), (.ref o1_15), (.ref ob1)])) rfl (by rw [hml]; rfl) (argsL := [(.ref ob1), (.ref o1_15), (.long v3)]) (rest := []) (lenOf own_pd5 rfl) rfl (by show 2 * 0 + _ ≤ _; exact Nat.le_of_eq rfl) (hb hby at_154) (fun _ _ => ⟨rfl, K26, (by decide : 2 + 0 ≤ _), (by decide : 12 + 0 ≤ _)⟩)
  dsimp only [Pt.U, Pt.locs, Pt.cells, Pt.slots] at X28 tl28 ty28 tz28 st28 hQ28
  rw [tl28, ty28, tz28] at X28
  obtain ⟨rfl, Nq28, K28⟩ := hQ28
  have N28 := Fr.app N26 Nq28
  obtain ⟨_, _, ⟨T29, tL29, tk29, tn29⟩, -, X29, ⟨Lc29, hQ29, tl29, ty29, tz29⟩, st29⟩ := Jvm.LawKit.callS X28 hx (y := (⟨"com/example/tracegauge/tracegauge/MarkingSetDoubledPinLaw", "reachable", "([JI)Z"⟩ : MethodName)) hown (mvT hZ (hw _ (List.mem_of_getElem? (i := 21) rfl))) (mvT hZ (hw _ (List.mem_of_getElem? (i := 22) rfl))) (mvT hZ (hw _ (List.mem_of_getElem? (i := 7) rfl))) (mvT hZ (hw _ (List.mem_of_getElem? (i := 23) rfl))) (by decide) (backOf (W := 0) (own_rm7 l Z a0 hw [] o1_15 (0 : Int32) kd_15 x0 x1 x2 x3 x4 x5 x6 x7 x0 T15.heap n0 sz15 Vn16 (by decide) (rfl) (own_reach ([x0, x1, x2, x3, x4, x5, x6, x7] : List Int64) hInv 0 0 (by decide) (by decide) x0 rfl) (own_reach ([x0, x1, x2, x3, x4, x5, x6, x7] : List Int64) hInv 0 1 (by decide) (by decide) x0 rfl) (own_reach ([x0, x1, x2, x3, x4, x5, x6, x7] : List Int64) hInv 0 2 (by decide) (by decide) x0 rfl) (own_reach ([x0, x1, x2, x3, x4, x5, x6, x7] : List Int64) hInv 0 3 (by decide) (by decide) x0 rfl) (own_reach ([x0, x1, x2, x3, x4, x5, x6, x7] : List Int64) hInv 0 4 (by decide) (by decide) x0 rfl) (own_reach ([x0, x1, x2, x3, x4, x5, x6, x7] : List Int64) hInv 0 5 (by decide) (by decide) x0 rfl) (own_reach ([x0, x1, x2, x3, x4, x5, x6, x7] : List Int64) hInv 0 6 (by decide) (by decide) x0 rfl)) hZ (hw _ (List.mem_of_getElem? (i := 23) rfl)) (hw _ (List.mem_of_getElem? (i := 7) rfl)) (by decide) (by decide)) (g := (mkF m 165 #[.val (.long ja), .second, .val (.long jb), .second, .val (.long jc), .second, .val (.long jd), .second, .val (.int iz), .val (.ref ob1), .val (.ref o1_15)] [(.int (0 : Int32)), (.ref o1_15)])) rfl (by rw [hml]; rfl) (argsL := [(.ref o1_15), (.int (0 : Int32))]) (rest := []) (lenOf own_pd6 rfl) rfl (by show 2 * 0 + _ ≤ _; exact Nat.le_of_eq rfl) (hb hby at_165) (fun _ _ => ⟨rfl, K28, (by decide : 2 + 0 ≤ _), (by decide : 12 + 0 ≤ _)⟩)
  dsimp only [Pt.U, Pt.locs, Pt.cells, Pt.slots] at X29 tl29 ty29 tz29 st29 hQ29
  rw [tl29, ty29, tz29] at X29
  obtain ⟨rfl, Nq29, K29⟩ := hQ29
  have N29 := Fr.app N28 Nq29
  obtain ⟨_, _, ⟨T30, tL30, tk30, tn30⟩, -, X30, ⟨Lc30, hQ30, tl30, ty30, tz30⟩, st30⟩ := Jvm.LawKit.callS X29 hx (y := (⟨"com/example/tracegauge/tracegauge/MarkingSetDoubledPinLaw", "reachable", "([JI)Z"⟩ : MethodName)) hown (mvT hZ (hw _ (List.mem_of_getElem? (i := 21) rfl))) (mvT hZ (hw _ (List.mem_of_getElem? (i := 22) rfl))) (mvT hZ (hw _ (List.mem_of_getElem? (i := 7) rfl))) (mvT hZ (hw _ (List.mem_of_getElem? (i := 23) rfl))) (by decide) (backOf (W := 0) (own_rm7 l Z a0 hw [] o1_15 (1 : Int32) kd_15 x0 x1 x2 x3 x4 x5 x6 x7 x1 T15.heap n0 sz15 Vn16 (by decide) (rfl) (own_reach ([x0, x1, x2, x3, x4, x5, x6, x7] : List Int64) hInv 1 0 (by decide) (by decide) x1 rfl) (own_reach ([x0, x1, x2, x3, x4, x5, x6, x7] : List Int64) hInv 1 1 (by decide) (by decide) x1 rfl) (own_reach ([x0, x1, x2, x3, x4, x5, x6, x7] : List Int64) hInv 1 2 (by decide) (by decide) x1 rfl) (own_reach ([x0, x1, x2, x3, x4, x5, x6, x7] : List Int64) hInv 1 3 (by decide) (by decide) x1 rfl) (own_reach ([x0, x1, x2, x3, x4, x5, x6, x7] : List Int64) hInv 1 4 (by decide) (by decide) x1 rfl) (own_reach ([x0, x1, x2, x3, x4, x5, x6, x7] : List Int64) hInv 1 5 (by decide) (by decide) x1 rfl) (own_reach ([x0, x1, x2, x3, x4, x5, x6, x7] : List Int64) hInv 1 6 (by decide) (by decide) x1 rfl)) hZ (hw _ (List.mem_of_getElem? (i := 23) rfl)) (hw _ (List.mem_of_getElem? (i := 7) rfl)) (by decide) (by decide)) (g := (mkF m 174 #[.val (.long ja), .second, .val (.long jb), .second, .val (.long jc), .second, .val (.long jd), .second, .val (.int iz), .val (.ref ob1), .val (.ref o1_15)] [(.int (1 : Int32)), (.ref o1_15)])) rfl (by rw [hml]; rfl) (argsL := [(.ref o1_15), (.int (1 : Int32))]) (rest := []) (lenOf own_pd6 rfl) rfl (by show 2 * 0 + _ ≤ _; exact Nat.le_of_eq rfl) (hb hby at_174) (fun _ _ => ⟨rfl, K29, (by decide : 2 + 0 ≤ _), (by decide : 12 + 0 ≤ _)⟩)
  dsimp only [Pt.U, Pt.locs, Pt.cells, Pt.slots] at X30 tl30 ty30 tz30 st30 hQ30
  rw [tl30, ty30, tz30] at X30
  obtain ⟨rfl, Nq30, K30⟩ := hQ30
  have N30 := Fr.app N29 Nq30
  obtain ⟨_, _, ⟨T31, tL31, tk31, tn31⟩, -, X31, ⟨Lc31, hQ31, tl31, ty31, tz31⟩, st31⟩ := Jvm.LawKit.callS X30 hx (y := (⟨"com/example/tracegauge/tracegauge/MarkingSetDoubledPinLaw", "reachable", "([JI)Z"⟩ : MethodName)) hown (mvT hZ (hw _ (List.mem_of_getElem? (i := 21) rfl))) (mvT hZ (hw _ (List.mem_of_getElem? (i := 22) rfl))) (mvT hZ (hw _ (List.mem_of_getElem? (i := 7) rfl))) (mvT hZ (hw _ (List.mem_of_getElem? (i := 23) rfl))) (by decide) (backOf (W := 0) (own_rm7 l Z a0 hw [] o1_15 (2 : Int32) kd_15 x0 x1 x2 x3 x4 x5 x6 x7 x2 T15.heap n0 sz15 Vn16 (by decide) (rfl) (own_reach ([x0, x1, x2, x3, x4, x5, x6, x7] : List Int64) hInv 2 0 (by decide) (by decide) x2 rfl) (own_reach ([x0, x1, x2, x3, x4, x5, x6, x7] : List Int64) hInv 2 1 (by decide) (by decide) x2 rfl) (own_reach ([x0, x1, x2, x3, x4, x5, x6, x7] : List Int64) hInv 2 2 (by decide) (by decide) x2 rfl) (own_reach ([x0, x1, x2, x3, x4, x5, x6, x7] : List Int64) hInv 2 3 (by decide) (by decide) x2 rfl) (own_reach ([x0, x1, x2, x3, x4, x5, x6, x7] : List Int64) hInv 2 4 (by decide) (by decide) x2 rfl) (own_reach ([x0, x1, x2, x3, x4, x5, x6, x7] : List Int64) hInv 2 5 (by decide) (by decide) x2 rfl) (own_reach ([x0, x1, x2, x3, x4, x5, x6, x7] : List Int64) hInv 2 6 (by decide) (by decide) x2 rfl)) hZ (hw _ (List.mem_of_getElem? (i := 23) rfl)) (hw _ (List.mem_of_getElem? (i := 7) rfl)) (by decide) (by decide)) (g := (mkF m 183 #[.val (.long ja), .second, .val (.long jb), .second, .val (.long jc), .second, .val (.long jd), .second, .val (.int iz), .val (.ref ob1), .val (.ref o1_15)] [(.int (2 : Int32)), (.ref o1_15)])) rfl (by rw [hml]; rfl) (argsL := [(.ref o1_15), (.int (2 : Int32))]) (rest := []) (lenOf own_pd6 rfl) rfl (by show 2 * 0 + _ ≤ _; exact Nat.le_of_eq rfl) (hb hby at_183) (fun _ _ => ⟨rfl, K30, (by decide : 2 + 0 ≤ _), (by decide : 12 + 0 ≤ _)⟩)
  dsimp only [Pt.U, Pt.locs, Pt.cells, Pt.slots] at X31 tl31 ty31 tz31 st31 hQ31
  rw [tl31, ty31, tz31] at X31
  obtain ⟨rfl, Nq31, K31⟩ := hQ31
  have N31 := Fr.app N30 Nq31
  obtain ⟨_, _, ⟨T32, tL32, tk32, tn32⟩, -, X32, ⟨Lc32, hQ32, tl32, ty32, tz32⟩, st32⟩ := Jvm.LawKit.callS X31 hx (y := (⟨"com/example/tracegauge/tracegauge/MarkingSetDoubledPinLaw", "reachable", "([JI)Z"⟩ : MethodName)) hown (mvT hZ (hw _ (List.mem_of_getElem? (i := 21) rfl))) (mvT hZ (hw _ (List.mem_of_getElem? (i := 22) rfl))) (mvT hZ (hw _ (List.mem_of_getElem? (i := 7) rfl))) (mvT hZ (hw _ (List.mem_of_getElem? (i := 23) rfl))) (by decide) (backOf (W := 0) (own_rm7 l Z a0 hw [] o1_15 (3 : Int32) kd_15 x0 x1 x2 x3 x4 x5 x6 x7 x3 T15.heap n0 sz15 Vn16 (by decide) (rfl) (own_reach ([x0, x1, x2, x3, x4, x5, x6, x7] : List Int64) hInv 3 0 (by decide) (by decide) x3 rfl) (own_reach ([x0, x1, x2, x3, x4, x5, x6, x7] : List Int64) hInv 3 1 (by decide) (by decide) x3 rfl) (own_reach ([x0, x1, x2, x3, x4, x5, x6, x7] : List Int64) hInv 3 2 (by decide) (by decide) x3 rfl) (own_reach ([x0, x1, x2, x3, x4, x5, x6, x7] : List Int64) hInv 3 3 (by decide) (by decide) x3 rfl) (own_reach ([x0, x1, x2, x3, x4, x5, x6, x7] : List Int64) hInv 3 4 (by decide) (by decide) x3 rfl) (own_reach ([x0, x1, x2, x3, x4, x5, x6, x7] : List Int64) hInv 3 5 (by decide) (by decide) x3 rfl) (own_reach ([x0, x1, x2, x3, x4, x5, x6, x7] : List Int64) hInv 3 6 (by decide) (by decide) x3 rfl)) hZ (hw _ (List.mem_of_getElem? (i := 23) rfl)) (hw _ (List.mem_of_getElem? (i := 7) rfl)) (by decide) (by decide)) (g := (mkF m 192 #[.val (.long ja), .second, .val (.long jb), .second, .val (.long jc), .second, .val (.long jd), .second, .val (.int iz), .val (.ref ob1), .val (.ref o1_15)] [(.int (3 : Int32)), (.ref o1_15)])) rfl (by rw [hml]; rfl) (argsL := [(.ref o1_15), (.int (3 : Int32))]) (rest := []) (lenOf own_pd6 rfl) rfl (by show 2 * 0 + _ ≤ _; exact Nat.le_of_eq rfl) (hb hby at_192) (fun _ _ => ⟨rfl, K31, (by decide : 2 + 0 ≤ _), (by decide : 12 + 0 ≤ _)⟩)
  dsimp only [Pt.U, Pt.locs, Pt.cells, Pt.slots] at X32 tl32 ty32 tz32 st32 hQ32
  rw [tl32, ty32, tz32] at X32
  obtain ⟨rfl, Nq32, K32⟩ := hQ32
  have N32 := Fr.app N31 Nq32
  obtain ⟨_, _, ⟨T33, tL33, tk33, tn33⟩, -, X33, ⟨Lc33, hQ33, tl33, ty33, tz33⟩, st33⟩ := Jvm.LawKit.callS X32 hx (y := (⟨"com/example/tracegauge/tracegauge/MarkingSetDoubledPinLaw", "reachable", "([JI)Z"⟩ : MethodName)) hown (mvT hZ (hw _ (List.mem_of_getElem? (i := 21) rfl))) (mvT hZ (hw _ (List.mem_of_getElem? (i := 22) rfl))) (mvT hZ (hw _ (List.mem_of_getElem? (i := 7) rfl))) (mvT hZ (hw _ (List.mem_of_getElem? (i := 23) rfl))) (by decide) (backOf (W := 0) (own_rm7 l Z a0 hw [] o1_15 (4 : Int32) kd_15 x0 x1 x2 x3 x4 x5 x6 x7 x4 T15.heap n0 sz15 Vn16 (by decide) (rfl) (own_reach ([x0, x1, x2, x3, x4, x5, x6, x7] : List Int64) hInv 4 0 (by decide) (by decide) x4 rfl) (own_reach ([x0, x1, x2, x3, x4, x5, x6, x7] : List Int64) hInv 4 1 (by decide) (by decide) x4 rfl) (own_reach ([x0, x1, x2, x3, x4, x5, x6, x7] : List Int64) hInv 4 2 (by decide) (by decide) x4 rfl) (own_reach ([x0, x1, x2, x3, x4, x5, x6, x7] : List Int64) hInv 4 3 (by decide) (by decide) x4 rfl) (own_reach ([x0, x1, x2, x3, x4, x5, x6, x7] : List Int64) hInv 4 4 (by decide) (by decide) x4 rfl) (own_reach ([x0, x1, x2, x3, x4, x5, x6, x7] : List Int64) hInv 4 5 (by decide) (by decide) x4 rfl) (own_reach ([x0, x1, x2, x3, x4, x5, x6, x7] : List Int64) hInv 4 6 (by decide) (by decide) x4 rfl)) hZ (hw _ (List.mem_of_getElem? (i := 23) rfl)) (hw _ (List.mem_of_getElem? (i := 7) rfl)) (by decide) (by decide)) (g := (mkF m 201 #[.val (.long ja), .second, .val (.long jb), .second, .val (.long jc), .second, .val (.long jd), .second, .val (.int iz), .val (.ref ob1), .val (.ref o1_15)] [(.int (4 : Int32)), (.ref o1_15)])) rfl (by rw [hml]; rfl) (argsL := [(.ref o1_15), (.int (4 : Int32))]) (rest := []) (lenOf own_pd6 rfl) rfl (by show 2 * 0 + _ ≤ _; exact Nat.le_of_eq rfl) (hb hby at_201) (fun _ _ => ⟨rfl, K32, (by decide : 2 + 0 ≤ _), (by decide : 12 + 0 ≤ _)⟩)
  dsimp only [Pt.U, Pt.locs, Pt.cells, Pt.slots] at X33 tl33 ty33 tz33 st33 hQ33
  rw [tl33, ty33, tz33] at X33
  obtain ⟨rfl, Nq33, K33⟩ := hQ33
  have N33 := Fr.app N32 Nq33
  obtain ⟨_, _, ⟨T34, tL34, tk34, tn34⟩, -, X34, ⟨Lc34, hQ34, tl34, ty34, tz34⟩, st34⟩ := Jvm.LawKit.callS X33 hx (y := (⟨"com/example/tracegauge/tracegauge/MarkingSetDoubledPinLaw", "reachable", "([JI)Z"⟩ : MethodName)) hown (mvT hZ (hw _ (List.mem_of_getElem? (i := 21) rfl))) (mvT hZ (hw _ (List.mem_of_getElem? (i := 22) rfl))) (mvT hZ (hw _ (List.mem_of_getElem? (i := 7) rfl))) (mvT hZ (hw _ (List.mem_of_getElem? (i := 23) rfl))) (by decide) (backOf (W := 0) (own_rm7 l Z a0 hw [] o1_15 (5 : Int32) kd_15 x0 x1 x2 x3 x4 x5 x6 x7 x5 T15.heap n0 sz15 Vn16 (by decide) (rfl) (own_reach ([x0, x1, x2, x3, x4, x5, x6, x7] : List Int64) hInv 5 0 (by decide) (by decide) x5 rfl) (own_reach ([x0, x1, x2, x3, x4, x5, x6, x7] : List Int64) hInv 5 1 (by decide) (by decide) x5 rfl) (own_reach ([x0, x1, x2, x3, x4, x5, x6, x7] : List Int64) hInv 5 2 (by decide) (by decide) x5 rfl) (own_reach ([x0, x1, x2, x3, x4, x5, x6, x7] : List Int64) hInv 5 3 (by decide) (by decide) x5 rfl) (own_reach ([x0, x1, x2, x3, x4, x5, x6, x7] : List Int64) hInv 5 4 (by decide) (by decide) x5 rfl) (own_reach ([x0, x1, x2, x3, x4, x5, x6, x7] : List Int64) hInv 5 5 (by decide) (by decide) x5 rfl) (own_reach ([x0, x1, x2, x3, x4, x5, x6, x7] : List Int64) hInv 5 6 (by decide) (by decide) x5 rfl)) hZ (hw _ (List.mem_of_getElem? (i := 23) rfl)) (hw _ (List.mem_of_getElem? (i := 7) rfl)) (by decide) (by decide)) (g := (mkF m 210 #[.val (.long ja), .second, .val (.long jb), .second, .val (.long jc), .second, .val (.long jd), .second, .val (.int iz), .val (.ref ob1), .val (.ref o1_15)] [(.int (5 : Int32)), (.ref o1_15)])) rfl (by rw [hml]; rfl) (argsL := [(.ref o1_15), (.int (5 : Int32))]) (rest := []) (lenOf own_pd6 rfl) rfl (by show 2 * 0 + _ ≤ _; exact Nat.le_of_eq rfl) (hb hby at_210) (fun _ _ => ⟨rfl, K33, (by decide : 2 + 0 ≤ _), (by decide : 12 + 0 ≤ _)⟩)
  dsimp only [Pt.U, Pt.locs, Pt.cells, Pt.slots] at X34 tl34 ty34 tz34 st34 hQ34
  rw [tl34, ty34, tz34] at X34
  obtain ⟨rfl, Nq34, K34⟩ := hQ34
  have N34 := Fr.app N33 Nq34
  obtain ⟨_, _, ⟨T35, tL35, tk35, tn35⟩, -, X35, ⟨Lc35, hQ35, tl35, ty35, tz35⟩, st35⟩ := Jvm.LawKit.callS X34 hx (y := (⟨"com/example/tracegauge/tracegauge/MarkingSetDoubledPinLaw", "reachable", "([JI)Z"⟩ : MethodName)) hown (mvT hZ (hw _ (List.mem_of_getElem? (i := 21) rfl))) (mvT hZ (hw _ (List.mem_of_getElem? (i := 22) rfl))) (mvT hZ (hw _ (List.mem_of_getElem? (i := 7) rfl))) (mvT hZ (hw _ (List.mem_of_getElem? (i := 23) rfl))) (by decide) (backOf (W := 0) (own_rm7 l Z a0 hw [] o1_15 (6 : Int32) kd_15 x0 x1 x2 x3 x4 x5 x6 x7 x6 T15.heap n0 sz15 Vn16 (by decide) (rfl) (own_reach ([x0, x1, x2, x3, x4, x5, x6, x7] : List Int64) hInv 6 0 (by decide) (by decide) x6 rfl) (own_reach ([x0, x1, x2, x3, x4, x5, x6, x7] : List Int64) hInv 6 1 (by decide) (by decide) x6 rfl) (own_reach ([x0, x1, x2, x3, x4, x5, x6, x7] : List Int64) hInv 6 2 (by decide) (by decide) x6 rfl) (own_reach ([x0, x1, x2, x3, x4, x5, x6, x7] : List Int64) hInv 6 3 (by decide) (by decide) x6 rfl) (own_reach ([x0, x1, x2, x3, x4, x5, x6, x7] : List Int64) hInv 6 4 (by decide) (by decide) x6 rfl) (own_reach ([x0, x1, x2, x3, x4, x5, x6, x7] : List Int64) hInv 6 5 (by decide) (by decide) x6 rfl) (own_reach ([x0, x1, x2, x3, x4, x5, x6, x7] : List Int64) hInv 6 6 (by decide) (by decide) x6 rfl)) hZ (hw _ (List.mem_of_getElem? (i := 23) rfl)) (hw _ (List.mem_of_getElem? (i := 7) rfl)) (by decide) (by decide)) (g := (mkF m 220 #[.val (.long ja), .second, .val (.long jb), .second, .val (.long jc), .second, .val (.long jd), .second, .val (.int iz), .val (.ref ob1), .val (.ref o1_15)] [(.int (6 : Int32)), (.ref o1_15)])) rfl (by rw [hml]; rfl) (argsL := [(.ref o1_15), (.int (6 : Int32))]) (rest := []) (lenOf own_pd6 rfl) rfl (by show 2 * 0 + _ ≤ _; exact Nat.le_of_eq rfl) (hb hby at_220) (fun _ _ => ⟨rfl, K34, (by decide : 2 + 0 ≤ _), (by decide : 12 + 0 ≤ _)⟩)
  dsimp only [Pt.U, Pt.locs, Pt.cells, Pt.slots] at X35 tl35 ty35 tz35 st35 hQ35
  rw [tl35, ty35, tz35] at X35
  obtain ⟨rfl, Nq35, K35⟩ := hQ35
  have N35 := Fr.app N34 Nq35
  obtain ⟨_, _, ⟨T36, tL36, tk36, tn36⟩, -, X36, ⟨Lc36, hQ36, tl36, ty36, tz36⟩, st36⟩ := Jvm.LawKit.callS X35 hx (y := (⟨"com/example/tracegauge/tracegauge/MarkingSetDoubledPinLaw", "reachable", "([JI)Z"⟩ : MethodName)) hown (mvT hZ (hw _ (List.mem_of_getElem? (i := 21) rfl))) (mvT hZ (hw _ (List.mem_of_getElem? (i := 22) rfl))) (mvT hZ (hw _ (List.mem_of_getElem? (i := 7) rfl))) (mvT hZ (hw _ (List.mem_of_getElem? (i := 23) rfl))) (by decide) (backOf (W := 0) (own_rm7 l Z a0 hw [] o1_15 (7 : Int32) kd_15 x0 x1 x2 x3 x4 x5 x6 x7 x7 T15.heap n0 sz15 Vn16 (by decide) (rfl) (own_reach ([x0, x1, x2, x3, x4, x5, x6, x7] : List Int64) hInv 7 0 (by decide) (by decide) x7 rfl) (own_reach ([x0, x1, x2, x3, x4, x5, x6, x7] : List Int64) hInv 7 1 (by decide) (by decide) x7 rfl) (own_reach ([x0, x1, x2, x3, x4, x5, x6, x7] : List Int64) hInv 7 2 (by decide) (by decide) x7 rfl) (own_reach ([x0, x1, x2, x3, x4, x5, x6, x7] : List Int64) hInv 7 3 (by decide) (by decide) x7 rfl) (own_reach ([x0, x1, x2, x3, x4, x5, x6, x7] : List Int64) hInv 7 4 (by decide) (by decide) x7 rfl) (own_reach ([x0, x1, x2, x3, x4, x5, x6, x7] : List Int64) hInv 7 5 (by decide) (by decide) x7 rfl) (own_reach ([x0, x1, x2, x3, x4, x5, x6, x7] : List Int64) hInv 7 6 (by decide) (by decide) x7 rfl)) hZ (hw _ (List.mem_of_getElem? (i := 23) rfl)) (hw _ (List.mem_of_getElem? (i := 7) rfl)) (by decide) (by decide)) (g := (mkF m 230 #[.val (.long ja), .second, .val (.long jb), .second, .val (.long jc), .second, .val (.long jd), .second, .val (.int iz), .val (.ref ob1), .val (.ref o1_15)] [(.int (7 : Int32)), (.ref o1_15)])) rfl (by rw [hml]; rfl) (argsL := [(.ref o1_15), (.int (7 : Int32))]) (rest := []) (lenOf own_pd6 rfl) rfl (by show 2 * 0 + _ ≤ _; exact Nat.le_of_eq rfl) (hb hby at_230) (fun _ _ => ⟨rfl, K35, (by decide : 2 + 0 ≤ _), (by decide : 12 + 0 ≤ _)⟩)
  dsimp only [Pt.U, Pt.locs, Pt.cells, Pt.slots] at X36 tl36 ty36 tz36 st36 hQ36
  rw [tl36, ty36, tz36] at X36
  obtain ⟨rfl, Nq36, K36⟩ := hQ36
  have N36 := Fr.app N35 Nq36
  obtain ⟨fs, hr, hrun, hended, hW, hsame⟩ := X36.leave (v := some (.int (1 : Int32))) (fun h => by rw [Bd.returns] at h; cases h)
  refine ⟨_, _, pre11 _ ?_, hrun, hended, _, _, rfl, ?_, ⟨_, rfl⟩, hW, hsame.mono (by decide) (by decide)⟩
  · show Steps p.tables e below (T10.setTop (mkF m 71 #[.val (.long ja), .second, .val (.long jb), .second, .val (.long jc), .second, .val (.long jd), .second, .val (.int iz), .val (.ref ob1), .unset] [(.long v3), (.int (3 : Int32)), (.ref ob1)])) _
    refine st13 _ ?_
    show Steps p.tables e below (T13.setTop (mkF m 72 #[.val (.long ja), .second, .val (.long jb), .second, .val (.long jc), .second, .val (.long jd), .second, .val (.int iz), .val (.ref ob1), .unset] [])) _
    refine XS.aload X13.here hx rfl (hb hby at_72) rfl rfl ?_
    show Steps p.tables e below (T13.setTop (mkF m 74 #[.val (.long ja), .second, .val (.long jb), .second, .val (.long jc), .second, .val (.long jd), .second, .val (.int iz), .val (.ref ob1), .unset] [(.ref ob1)])) _
    refine st15 _ ?_
    show Steps p.tables e below (T15.setTop (mkF m 77 #[.val (.long ja), .second, .val (.long jb), .second, .val (.long jc), .second, .val (.long jd), .second, .val (.int iz), .val (.ref ob1), .unset] [(.ref o1_15)])) _
    refine XS.astore X15.here hx rfl (hb hby at_77) rfl rfl (l' := #[.val (.long ja), .second, .val (.long jb), .second, .val (.long jc), .second, .val (.long jd), .second, .val (.int iz), .val (.ref ob1), .val (.ref o1_15)]) rfl ?_
    show Steps p.tables e below (T15.setTop (mkF m 79 #[.val (.long ja), .second, .val (.long jb), .second, .val (.long jc), .second, .val (.long jd), .second, .val (.int iz), .val (.ref ob1), .val (.ref o1_15)] [])) _
    refine XS.aload X15.here hx rfl (hb hby at_79) rfl rfl ?_
    show Steps p.tables e below (T15.setTop (mkF m 81 #[.val (.long ja), .second, .val (.long jb), .second, .val (.long jc), .second, .val (.long jd), .second, .val (.int iz), .val (.ref ob1), .val (.ref o1_15)] [(.ref o1_15)])) _
    refine X15.arraylength hx Ar17.1 (State.isArrayOf_alike hZ.alike Ar17.2.1) (g := (mkF m 81 #[.val (.long ja), .second, .val (.long jb), .second, .val (.long jc), .second, .val (.long jd), .second, .val (.int iz), .val (.ref ob1), .val (.ref o1_15)] [(.ref o1_15)])) rfl rfl (hb hby at_81) _ ?_
    rw [len_of Sz17 Nn17]
    show Steps p.tables e below (T15.setTop (mkF m 82 #[.val (.long ja), .second, .val (.long jb), .second, .val (.long jc), .second, .val (.long jd), .second, .val (.int iz), .val (.ref ob1), .val (.ref o1_15)] [(.int (8 : Int32))])) _
    refine XT.bipushV X15.here hx rfl (8 : Int32) (hb hby at_82) rfl ?_
    show Steps p.tables e below (T15.setTop (mkF m 84 #[.val (.long ja), .second, .val (.long jb), .second, .val (.long jc), .second, .val (.long jd), .second, .val (.int iz), .val (.ref ob1), .val (.ref o1_15)] [(.int (8 : Int32)), (.int (8 : Int32))])) _
    refine XS.icmpYes X15.here hx rfl (pc0 := 84) (pc' := 89) rfl (hb hby at_84) rfl (XT.ii_eq_t rfl) (by decide) (by decide) ?_
    show Steps p.tables e below (T15.setTop (mkF m 89 #[.val (.long ja), .second, .val (.long jb), .second, .val (.long jc), .second, .val (.long jd), .second, .val (.int iz), .val (.ref ob1), .val (.ref o1_15)] [])) _
    refine XS.aload X15.here hx rfl (hb hby at_89) rfl rfl ?_
    show Steps p.tables e below (T15.setTop (mkF m 91 #[.val (.long ja), .second, .val (.long jb), .second, .val (.long jc), .second, .val (.long jd), .second, .val (.int iz), .val (.ref ob1), .val (.ref o1_15)] [(.ref ob1)])) _
    refine st19 _ ?_
    show Steps p.tables e below (T19.setTop (mkF m 94 #[.val (.long ja), .second, .val (.long jb), .second, .val (.long jc), .second, .val (.long jd), .second, .val (.int iz), .val (.ref ob1), .val (.ref o1_15)] [(.int ((((own_nz v0) + (own_nz v1)) + (own_nz v2)) + (own_nz v3)))])) _
    refine XS.aload X19.here hx rfl (hb hby at_94) rfl rfl ?_
    show Steps p.tables e below (T19.setTop (mkF m 96 #[.val (.long ja), .second, .val (.long jb), .second, .val (.long jc), .second, .val (.long jd), .second, .val (.int iz), .val (.ref ob1), .val (.ref o1_15)] [(.ref o1_15), (.int ((((own_nz v0) + (own_nz v1)) + (own_nz v2)) + (own_nz v3)))])) _
    refine st20 _ ?_
    show Steps p.tables e below (T20.setTop (mkF m 99 #[.val (.long ja), .second, .val (.long jb), .second, .val (.long jc), .second, .val (.long jd), .second, .val (.int iz), .val (.ref ob1), .val (.ref o1_15)] [(.int ((((((((own_nz x0) + (own_nz x1)) + (own_nz x2)) + (own_nz x3)) + (own_nz x4)) + (own_nz x5)) + (own_nz x6)) + (own_nz x7))), (.int ((((own_nz v0) + (own_nz v1)) + (own_nz v2)) + (own_nz v3)))])) _
    refine XS.icmpYes X20.here hx rfl (pc0 := 99) (pc' := 104) rfl (hb hby at_99) rfl (XT.ii_eq_t (own_nzs v0 v1 v2 v3 x0 x1 x2 x3 x4 x5 x6 x7 hS)) (by decide) (by decide) ?_
    show Steps p.tables e below (T20.setTop (mkF m 104 #[.val (.long ja), .second, .val (.long jb), .second, .val (.long jc), .second, .val (.long jd), .second, .val (.int iz), .val (.ref ob1), .val (.ref o1_15)] [])) _
    refine XS.aload X20.here hx rfl (hb hby at_104) rfl rfl ?_
    show Steps p.tables e below (T20.setTop (mkF m 106 #[.val (.long ja), .second, .val (.long jb), .second, .val (.long jc), .second, .val (.long jd), .second, .val (.int iz), .val (.ref ob1), .val (.ref o1_15)] [(.ref ob1)])) _
    refine XS.aload X20.here hx rfl (hb hby at_106) rfl rfl ?_
    show Steps p.tables e below (T20.setTop (mkF m 108 #[.val (.long ja), .second, .val (.long jb), .second, .val (.long jc), .second, .val (.long jd), .second, .val (.int iz), .val (.ref ob1), .val (.ref o1_15)] [(.ref o1_15), (.ref ob1)])) _
    refine XS.aload X20.here hx rfl (hb hby at_108) rfl rfl ?_
    show Steps p.tables e below (T20.setTop (mkF m 110 #[.val (.long ja), .second, .val (.long jb), .second, .val (.long jc), .second, .val (.long jd), .second, .val (.int iz), .val (.ref ob1), .val (.ref o1_15)] [(.ref ob1), (.ref o1_15), (.ref ob1)])) _
    refine XT.iconstV X20.here hx rfl (0 : Int32) (hb hby at_110) rfl ?_
    show Steps p.tables e below (T20.setTop (mkF m 111 #[.val (.long ja), .second, .val (.long jb), .second, .val (.long jc), .second, .val (.long jd), .second, .val (.int iz), .val (.ref ob1), .val (.ref o1_15)] [(.int (0 : Int32)), (.ref ob1), (.ref o1_15), (.ref ob1)])) _
    refine X20.laload hx (j := (0 : Int32)) (v := (.long v0)) (by rw [K20]; exact Ar21.1) (State.isArrayOf_alike hZ.alike Ar21.2.1) Ar21.2.2 ghin21 ghat21 (g := (mkF m 111 #[.val (.long ja), .second, .val (.long jb), .second, .val (.long jc), .second, .val (.long jd), .second, .val (.int iz), .val (.ref ob1), .val (.ref o1_15)] [(.int (0 : Int32)), (.ref ob1), (.ref o1_15), (.ref ob1)])) rfl rfl (hb hby at_111) _ ?_
    show Steps p.tables e below (T20.setTop (mkF m 112 #[.val (.long ja), .second, .val (.long jb), .second, .val (.long jc), .second, .val (.long jd), .second, .val (.int iz), .val (.ref ob1), .val (.ref o1_15)] [(.long v0), (.ref o1_15), (.ref ob1)])) _
    refine st22 _ ?_
    show Steps p.tables e below (T22.setTop (mkF m 115 #[.val (.long ja), .second, .val (.long jb), .second, .val (.long jc), .second, .val (.long jd), .second, .val (.int iz), .val (.ref ob1), .val (.ref o1_15)] [(.int (1 : Int32))])) _
    refine XS.ifNo X22.here hx rfl (hb hby at_115) rfl (XT.i0_eq_f (by decide)) ?_
    show Steps p.tables e below (T22.setTop (mkF m 118 #[.val (.long ja), .second, .val (.long jb), .second, .val (.long jc), .second, .val (.long jd), .second, .val (.int iz), .val (.ref ob1), .val (.ref o1_15)] [])) _
    refine XS.aload X22.here hx rfl (hb hby at_118) rfl rfl ?_
    show Steps p.tables e below (T22.setTop (mkF m 120 #[.val (.long ja), .second, .val (.long jb), .second, .val (.long jc), .second, .val (.long jd), .second, .val (.int iz), .val (.ref ob1), .val (.ref o1_15)] [(.ref ob1)])) _
    refine XS.aload X22.here hx rfl (hb hby at_120) rfl rfl ?_
    show Steps p.tables e below (T22.setTop (mkF m 122 #[.val (.long ja), .second, .val (.long jb), .second, .val (.long jc), .second, .val (.long jd), .second, .val (.int iz), .val (.ref ob1), .val (.ref o1_15)] [(.ref o1_15), (.ref ob1)])) _
    refine XS.aload X22.here hx rfl (hb hby at_122) rfl rfl ?_
    show Steps p.tables e below (T22.setTop (mkF m 124 #[.val (.long ja), .second, .val (.long jb), .second, .val (.long jc), .second, .val (.long jd), .second, .val (.int iz), .val (.ref ob1), .val (.ref o1_15)] [(.ref ob1), (.ref o1_15), (.ref ob1)])) _
    refine XT.iconstV X22.here hx rfl (1 : Int32) (hb hby at_124) rfl ?_
    show Steps p.tables e below (T22.setTop (mkF m 125 #[.val (.long ja), .second, .val (.long jb), .second, .val (.long jc), .second, .val (.long jd), .second, .val (.int iz), .val (.ref ob1), .val (.ref o1_15)] [(.int (1 : Int32)), (.ref ob1), (.ref o1_15), (.ref ob1)])) _
    refine X22.laload hx (j := (1 : Int32)) (v := (.long v1)) (by rw [K22]; exact Ar23.1) (State.isArrayOf_alike hZ.alike Ar23.2.1) Ar23.2.2 ghin23 ghat23 (g := (mkF m 125 #[.val (.long ja), .second, .val (.long jb), .second, .val (.long jc), .second, .val (.long jd), .second, .val (.int iz), .val (.ref ob1), .val (.ref o1_15)] [(.int (1 : Int32)), (.ref ob1), (.ref o1_15), (.ref ob1)])) rfl rfl (hb hby at_125) _ ?_
    show Steps p.tables e below (T22.setTop (mkF m 126 #[.val (.long ja), .second, .val (.long jb), .second, .val (.long jc), .second, .val (.long jd), .second, .val (.int iz), .val (.ref ob1), .val (.ref o1_15)] [(.long v1), (.ref o1_15), (.ref ob1)])) _
    refine st24 _ ?_
    show Steps p.tables e below (T24.setTop (mkF m 129 #[.val (.long ja), .second, .val (.long jb), .second, .val (.long jc), .second, .val (.long jd), .second, .val (.int iz), .val (.ref ob1), .val (.ref o1_15)] [(.int (1 : Int32))])) _
    refine XS.ifNo X24.here hx rfl (hb hby at_129) rfl (XT.i0_eq_f (by decide)) ?_
    show Steps p.tables e below (T24.setTop (mkF m 132 #[.val (.long ja), .second, .val (.long jb), .second, .val (.long jc), .second, .val (.long jd), .second, .val (.int iz), .val (.ref ob1), .val (.ref o1_15)] [])) _
    refine XS.aload X24.here hx rfl (hb hby at_132) rfl rfl ?_
    show Steps p.tables e below (T24.setTop (mkF m 134 #[.val (.long ja), .second, .val (.long jb), .second, .val (.long jc), .second, .val (.long jd), .second, .val (.int iz), .val (.ref ob1), .val (.ref o1_15)] [(.ref ob1)])) _
    refine XS.aload X24.here hx rfl (hb hby at_134) rfl rfl ?_
    show Steps p.tables e below (T24.setTop (mkF m 136 #[.val (.long ja), .second, .val (.long jb), .second, .val (.long jc), .second, .val (.long jd), .second, .val (.int iz), .val (.ref ob1), .val (.ref o1_15)] [(.ref o1_15), (.ref ob1)])) _
    refine XS.aload X24.here hx rfl (hb hby at_136) rfl rfl ?_
    show Steps p.tables e below (T24.setTop (mkF m 138 #[.val (.long ja), .second, .val (.long jb), .second, .val (.long jc), .second, .val (.long jd), .second, .val (.int iz), .val (.ref ob1), .val (.ref o1_15)] [(.ref ob1), (.ref o1_15), (.ref ob1)])) _
    refine XT.iconstV X24.here hx rfl (2 : Int32) (hb hby at_138) rfl ?_
    show Steps p.tables e below (T24.setTop (mkF m 139 #[.val (.long ja), .second, .val (.long jb), .second, .val (.long jc), .second, .val (.long jd), .second, .val (.int iz), .val (.ref ob1), .val (.ref o1_15)] [(.int (2 : Int32)), (.ref ob1), (.ref o1_15), (.ref ob1)])) _
    refine X24.laload hx (j := (2 : Int32)) (v := (.long v2)) (by rw [K24]; exact Ar25.1) (State.isArrayOf_alike hZ.alike Ar25.2.1) Ar25.2.2 ghin25 ghat25 (g := (mkF m 139 #[.val (.long ja), .second, .val (.long jb), .second, .val (.long jc), .second, .val (.long jd), .second, .val (.int iz), .val (.ref ob1), .val (.ref o1_15)] [(.int (2 : Int32)), (.ref ob1), (.ref o1_15), (.ref ob1)])) rfl rfl (hb hby at_139) _ ?_
    show Steps p.tables e below (T24.setTop (mkF m 140 #[.val (.long ja), .second, .val (.long jb), .second, .val (.long jc), .second, .val (.long jd), .second, .val (.int iz), .val (.ref ob1), .val (.ref o1_15)] [(.long v2), (.ref o1_15), (.ref ob1)])) _
    refine st26 _ ?_
    show Steps p.tables e below (T26.setTop (mkF m 143 #[.val (.long ja), .second, .val (.long jb), .second, .val (.long jc), .second, .val (.long jd), .second, .val (.int iz), .val (.ref ob1), .val (.ref o1_15)] [(.int (1 : Int32))])) _
    refine XS.ifNo X26.here hx rfl (hb hby at_143) rfl (XT.i0_eq_f (by decide)) ?_
    show Steps p.tables e below (T26.setTop (mkF m 146 #[.val (.long ja), .second, .val (.long jb), .second, .val (.long jc), .second, .val (.long jd), .second, .val (.int iz), .val (.ref ob1), .val (.ref o1_15)] [])) _
    refine XS.aload X26.here hx rfl (hb hby at_146) rfl rfl ?_
    show Steps p.tables e below (T26.setTop (mkF m 148 #[.val (.long ja), .second, .val (.long jb), .second, .val (.long jc), .second, .val (.long jd), .second, .val (.int iz), .val (.ref ob1), .val (.ref o1_15)] [(.ref ob1)])) _
    refine XS.aload X26.here hx rfl (hb hby at_148) rfl rfl ?_
    show Steps p.tables e below (T26.setTop (mkF m 150 #[.val (.long ja), .second, .val (.long jb), .second, .val (.long jc), .second, .val (.long jd), .second, .val (.int iz), .val (.ref ob1), .val (.ref o1_15)] [(.ref o1_15), (.ref ob1)])) _
    refine XS.aload X26.here hx rfl (hb hby at_150) rfl rfl ?_
    show Steps p.tables e below (T26.setTop (mkF m 152 #[.val (.long ja), .second, .val (.long jb), .second, .val (.long jc), .second, .val (.long jd), .second, .val (.int iz), .val (.ref ob1), .val (.ref o1_15)] [(.ref ob1), (.ref o1_15), (.ref ob1)])) _
    refine XT.iconstV X26.here hx rfl (3 : Int32) (hb hby at_152) rfl ?_
    show Steps p.tables e below (T26.setTop (mkF m 153 #[.val (.long ja), .second, .val (.long jb), .second, .val (.long jc), .second, .val (.long jd), .second, .val (.int iz), .val (.ref ob1), .val (.ref o1_15)] [(.int (3 : Int32)), (.ref ob1), (.ref o1_15), (.ref ob1)])) _
    refine X26.laload hx (j := (3 : Int32)) (v := (.long v3)) (by rw [K26]; exact Ar27.1) (State.isArrayOf_alike hZ.alike Ar27.2.1) Ar27.2.2 ghin27 ghat27 (g := (mkF m 153 #[.val (.long ja), .second, .val (.long jb), .second, .val (.long jc), .second, .val (.long jd), .second, .val (.int iz), .val (.ref ob1), .val (.ref o1_15)] [(.int (3 : Int32)), (.ref ob1), (.ref o1_15), (.ref ob1)])) rfl rfl (hb hby at_153) _ ?_
    show Steps p.tables e below (T26.setTop (mkF m 154 #[.val (.long ja), .second, .val (.long jb), .second, .val (.long jc), .second, .val (.long jd), .second, .val (.int iz), .val (.ref ob1), .val (.ref o1_15)] [(.long v3), (.ref o1_15), (.ref ob1)])) _
    refine st28 _ ?_
    show Steps p.tables e below (T28.setTop (mkF m 157 #[.val (.long ja), .second, .val (.long jb), .second, .val (.long jc), .second, .val (.long jd), .second, .val (.int iz), .val (.ref ob1), .val (.ref o1_15)] [(.int (1 : Int32))])) _
    refine XS.ifYes X28.here hx rfl (pc0 := 157) (pc' := 162) rfl (hb hby at_157) rfl (XT.i0_ne_t (by decide)) (by decide) (by decide) ?_
    show Steps p.tables e below (T28.setTop (mkF m 162 #[.val (.long ja), .second, .val (.long jb), .second, .val (.long jc), .second, .val (.long jd), .second, .val (.int iz), .val (.ref ob1), .val (.ref o1_15)] [])) _
    refine XS.aload X28.here hx rfl (hb hby at_162) rfl rfl ?_
    show Steps p.tables e below (T28.setTop (mkF m 164 #[.val (.long ja), .second, .val (.long jb), .second, .val (.long jc), .second, .val (.long jd), .second, .val (.int iz), .val (.ref ob1), .val (.ref o1_15)] [(.ref o1_15)])) _
    refine XT.iconstV X28.here hx rfl (0 : Int32) (hb hby at_164) rfl ?_
    show Steps p.tables e below (T28.setTop (mkF m 165 #[.val (.long ja), .second, .val (.long jb), .second, .val (.long jc), .second, .val (.long jd), .second, .val (.int iz), .val (.ref ob1), .val (.ref o1_15)] [(.int (0 : Int32)), (.ref o1_15)])) _
    refine st29 _ ?_
    show Steps p.tables e below (T29.setTop (mkF m 168 #[.val (.long ja), .second, .val (.long jb), .second, .val (.long jc), .second, .val (.long jd), .second, .val (.int iz), .val (.ref ob1), .val (.ref o1_15)] [(.int (1 : Int32))])) _
    refine XS.ifNo X29.here hx rfl (hb hby at_168) rfl (XT.i0_eq_f (by decide)) ?_
    show Steps p.tables e below (T29.setTop (mkF m 171 #[.val (.long ja), .second, .val (.long jb), .second, .val (.long jc), .second, .val (.long jd), .second, .val (.int iz), .val (.ref ob1), .val (.ref o1_15)] [])) _
    refine XS.aload X29.here hx rfl (hb hby at_171) rfl rfl ?_
    show Steps p.tables e below (T29.setTop (mkF m 173 #[.val (.long ja), .second, .val (.long jb), .second, .val (.long jc), .second, .val (.long jd), .second, .val (.int iz), .val (.ref ob1), .val (.ref o1_15)] [(.ref o1_15)])) _
    refine XT.iconstV X29.here hx rfl (1 : Int32) (hb hby at_173) rfl ?_
    show Steps p.tables e below (T29.setTop (mkF m 174 #[.val (.long ja), .second, .val (.long jb), .second, .val (.long jc), .second, .val (.long jd), .second, .val (.int iz), .val (.ref ob1), .val (.ref o1_15)] [(.int (1 : Int32)), (.ref o1_15)])) _
    refine st30 _ ?_
    show Steps p.tables e below (T30.setTop (mkF m 177 #[.val (.long ja), .second, .val (.long jb), .second, .val (.long jc), .second, .val (.long jd), .second, .val (.int iz), .val (.ref ob1), .val (.ref o1_15)] [(.int (1 : Int32))])) _
    refine XS.ifNo X30.here hx rfl (hb hby at_177) rfl (XT.i0_eq_f (by decide)) ?_
    show Steps p.tables e below (T30.setTop (mkF m 180 #[.val (.long ja), .second, .val (.long jb), .second, .val (.long jc), .second, .val (.long jd), .second, .val (.int iz), .val (.ref ob1), .val (.ref o1_15)] [])) _
    refine XS.aload X30.here hx rfl (hb hby at_180) rfl rfl ?_
    show Steps p.tables e below (T30.setTop (mkF m 182 #[.val (.long ja), .second, .val (.long jb), .second, .val (.long jc), .second, .val (.long jd), .second, .val (.int iz), .val (.ref ob1), .val (.ref o1_15)] [(.ref o1_15)])) _
    refine XT.iconstV X30.here hx rfl (2 : Int32) (hb hby at_182) rfl ?_
    show Steps p.tables e below (T30.setTop (mkF m 183 #[.val (.long ja), .second, .val (.long jb), .second, .val (.long jc), .second, .val (.long jd), .second, .val (.int iz), .val (.ref ob1), .val (.ref o1_15)] [(.int (2 : Int32)), (.ref o1_15)])) _
    refine st31 _ ?_
    show Steps p.tables e below (T31.setTop (mkF m 186 #[.val (.long ja), .second, .val (.long jb), .second, .val (.long jc), .second, .val (.long jd), .second, .val (.int iz), .val (.ref ob1), .val (.ref o1_15)] [(.int (1 : Int32))])) _
    refine XS.ifNo X31.here hx rfl (hb hby at_186) rfl (XT.i0_eq_f (by decide)) ?_
    show Steps p.tables e below (T31.setTop (mkF m 189 #[.val (.long ja), .second, .val (.long jb), .second, .val (.long jc), .second, .val (.long jd), .second, .val (.int iz), .val (.ref ob1), .val (.ref o1_15)] [])) _
    refine XS.aload X31.here hx rfl (hb hby at_189) rfl rfl ?_
    show Steps p.tables e below (T31.setTop (mkF m 191 #[.val (.long ja), .second, .val (.long jb), .second, .val (.long jc), .second, .val (.long jd), .second, .val (.int iz), .val (.ref ob1), .val (.ref o1_15)] [(.ref o1_15)])) _
    refine XT.iconstV X31.here hx rfl (3 : Int32) (hb hby at_191) rfl ?_
    show Steps p.tables e below (T31.setTop (mkF m 192 #[.val (.long ja), .second, .val (.long jb), .second, .val (.long jc), .second, .val (.long jd), .second, .val (.int iz), .val (.ref ob1), .val (.ref o1_15)] [(.int (3 : Int32)), (.ref o1_15)])) _
    refine st32 _ ?_
    show Steps p.tables e below (T32.setTop (mkF m 195 #[.val (.long ja), .second, .val (.long jb), .second, .val (.long jc), .second, .val (.long jd), .second, .val (.int iz), .val (.ref ob1), .val (.ref o1_15)] [(.int (1 : Int32))])) _
    refine XS.ifNo X32.here hx rfl (hb hby at_195) rfl (XT.i0_eq_f (by decide)) ?_
    show Steps p.tables e below (T32.setTop (mkF m 198 #[.val (.long ja), .second, .val (.long jb), .second, .val (.long jc), .second, .val (.long jd), .second, .val (.int iz), .val (.ref ob1), .val (.ref o1_15)] [])) _
    refine XS.aload X32.here hx rfl (hb hby at_198) rfl rfl ?_
    show Steps p.tables e below (T32.setTop (mkF m 200 #[.val (.long ja), .second, .val (.long jb), .second, .val (.long jc), .second, .val (.long jd), .second, .val (.int iz), .val (.ref ob1), .val (.ref o1_15)] [(.ref o1_15)])) _
    refine XT.iconstV X32.here hx rfl (4 : Int32) (hb hby at_200) rfl ?_
    show Steps p.tables e below (T32.setTop (mkF m 201 #[.val (.long ja), .second, .val (.long jb), .second, .val (.long jc), .second, .val (.long jd), .second, .val (.int iz), .val (.ref ob1), .val (.ref o1_15)] [(.int (4 : Int32)), (.ref o1_15)])) _
    refine st33 _ ?_
    show Steps p.tables e below (T33.setTop (mkF m 204 #[.val (.long ja), .second, .val (.long jb), .second, .val (.long jc), .second, .val (.long jd), .second, .val (.int iz), .val (.ref ob1), .val (.ref o1_15)] [(.int (1 : Int32))])) _
    refine XS.ifNo X33.here hx rfl (hb hby at_204) rfl (XT.i0_eq_f (by decide)) ?_
    show Steps p.tables e below (T33.setTop (mkF m 207 #[.val (.long ja), .second, .val (.long jb), .second, .val (.long jc), .second, .val (.long jd), .second, .val (.int iz), .val (.ref ob1), .val (.ref o1_15)] [])) _
    refine XS.aload X33.here hx rfl (hb hby at_207) rfl rfl ?_
    show Steps p.tables e below (T33.setTop (mkF m 209 #[.val (.long ja), .second, .val (.long jb), .second, .val (.long jc), .second, .val (.long jd), .second, .val (.int iz), .val (.ref ob1), .val (.ref o1_15)] [(.ref o1_15)])) _
    refine XT.iconstV X33.here hx rfl (5 : Int32) (hb hby at_209) rfl ?_
    show Steps p.tables e below (T33.setTop (mkF m 210 #[.val (.long ja), .second, .val (.long jb), .second, .val (.long jc), .second, .val (.long jd), .second, .val (.int iz), .val (.ref ob1), .val (.ref o1_15)] [(.int (5 : Int32)), (.ref o1_15)])) _
    refine st34 _ ?_
    show Steps p.tables e below (T34.setTop (mkF m 213 #[.val (.long ja), .second, .val (.long jb), .second, .val (.long jc), .second, .val (.long jd), .second, .val (.int iz), .val (.ref ob1), .val (.ref o1_15)] [(.int (1 : Int32))])) _
    refine XS.ifNo X34.here hx rfl (hb hby at_213) rfl (XT.i0_eq_f (by decide)) ?_
    show Steps p.tables e below (T34.setTop (mkF m 216 #[.val (.long ja), .second, .val (.long jb), .second, .val (.long jc), .second, .val (.long jd), .second, .val (.int iz), .val (.ref ob1), .val (.ref o1_15)] [])) _
    refine XS.aload X34.here hx rfl (hb hby at_216) rfl rfl ?_
    show Steps p.tables e below (T34.setTop (mkF m 218 #[.val (.long ja), .second, .val (.long jb), .second, .val (.long jc), .second, .val (.long jd), .second, .val (.int iz), .val (.ref ob1), .val (.ref o1_15)] [(.ref o1_15)])) _
    refine XT.bipushV X34.here hx rfl (6 : Int32) (hb hby at_218) rfl ?_
    show Steps p.tables e below (T34.setTop (mkF m 220 #[.val (.long ja), .second, .val (.long jb), .second, .val (.long jc), .second, .val (.long jd), .second, .val (.int iz), .val (.ref ob1), .val (.ref o1_15)] [(.int (6 : Int32)), (.ref o1_15)])) _
    refine st35 _ ?_
    show Steps p.tables e below (T35.setTop (mkF m 223 #[.val (.long ja), .second, .val (.long jb), .second, .val (.long jc), .second, .val (.long jd), .second, .val (.int iz), .val (.ref ob1), .val (.ref o1_15)] [(.int (1 : Int32))])) _
    refine XS.ifNo X35.here hx rfl (hb hby at_223) rfl (XT.i0_eq_f (by decide)) ?_
    show Steps p.tables e below (T35.setTop (mkF m 226 #[.val (.long ja), .second, .val (.long jb), .second, .val (.long jc), .second, .val (.long jd), .second, .val (.int iz), .val (.ref ob1), .val (.ref o1_15)] [])) _
    refine XS.aload X35.here hx rfl (hb hby at_226) rfl rfl ?_
    show Steps p.tables e below (T35.setTop (mkF m 228 #[.val (.long ja), .second, .val (.long jb), .second, .val (.long jc), .second, .val (.long jd), .second, .val (.int iz), .val (.ref ob1), .val (.ref o1_15)] [(.ref o1_15)])) _
    refine XT.bipushV X35.here hx rfl (7 : Int32) (hb hby at_228) rfl ?_
    show Steps p.tables e below (T35.setTop (mkF m 230 #[.val (.long ja), .second, .val (.long jb), .second, .val (.long jc), .second, .val (.long jd), .second, .val (.int iz), .val (.ref ob1), .val (.ref o1_15)] [(.int (7 : Int32)), (.ref o1_15)])) _
    refine st36 _ ?_
    show Steps p.tables e below (T36.setTop (mkF m 233 #[.val (.long ja), .second, .val (.long jb), .second, .val (.long jc), .second, .val (.long jd), .second, .val (.int iz), .val (.ref ob1), .val (.ref o1_15)] [(.int (1 : Int32))])) _
    refine XS.ifNo X36.here hx rfl (hb hby at_233) rfl (XT.i0_eq_f (by decide)) ?_
    show Steps p.tables e below (T36.setTop (mkF m 236 #[.val (.long ja), .second, .val (.long jb), .second, .val (.long jc), .second, .val (.long jd), .second, .val (.int iz), .val (.ref ob1), .val (.ref o1_15)] [])) _
    refine XT.iconstV X36.here hx rfl (1 : Int32) (hb hby at_236) rfl ?_
    show Steps p.tables e below (T36.setTop (mkF m 237 #[.val (.long ja), .second, .val (.long jb), .second, .val (.long jc), .second, .val (.long jd), .second, .val (.int iz), .val (.ref ob1), .val (.ref o1_15)] [(.int (1 : Int32))])) _
    refine XS.goto X36.here hx rfl (pc0 := 237) (pc' := 241) rfl (hb hby at_237) (by decide) (by decide) ?_
    show Steps p.tables e below (T36.setTop (mkF m 241 #[.val (.long ja), .second, .val (.long jb), .second, .val (.long jc), .second, .val (.long jd), .second, .val (.int iz), .val (.ref ob1), .val (.ref o1_15)] [(.int (1 : Int32))])) _
    exact retN X36 hx (t := .boolean) Bd.returns (by simp) (hb hby at_241) hr
  · show own_Q0 Z ja jb jc jd iz h0 n0 _ T36.heap _
    exact ⟨rfl, N36⟩
set_option maxRecDepth 65536 in
set_option maxHeartbeats 40000000 in
theorem comes_1 {Post : Tables → Env → Array Value → State → Outcome → State → Prop} (hpost : ∀ tb e args s v u, (limb_1_1.after args s (.returned v) u = true ∧ limb_1_2.after args s (.returned v) u = true ∧ True) → FrameEnd s (.returned v) u (Jvm.fieldLocs frame_1_writes args s ++ Jvm.arrayLocs frame_1_arrays args s ++ Jvm.staticLocs frame_1_statics s) 16 128 → Post tb e args s (.returned v) u) :
    ArmFor flags0 classFile x code maxLocals ret World_1 tables_1 room_1 Calls_1 rest_1 Pre_1 Post := by
  intro l hfl _ _ p e ha hc hk s m args below hf hA hF happ hP
  obtain ⟨hcalls, hrest, hpre⟩ := hP
  obtain ⟨-, -, -, hnamed, -, -, -, hat⟩ := (Spec.applies_iff hf).mp happ
  obtain ⟨hg, hn⟩ := and_e (Cond.before_iff.mp (show (Jvm.Cond.and given_1 narrow_1).before args s = true from hpre))
  obtain ⟨gc, gr0⟩ := and_e hg
  obtain ⟨ga0, gr1⟩ := and_e gr0
  obtain ⟨ga1, gr2⟩ := and_e gr1
  obtain ⟨ga2, gr3⟩ := and_e gr2
  obtain ⟨ga3, gr4⟩ := and_e gr3
  obtain ⟨w0, w1, w2, w3, w4, rfl⟩ : ∃ w0 w1 w2 w3 w4 : Value, args = #[w0, w1, w2, w3, w4] := by
    have hs : args.size = 5 := by simpa [Cond.value, given_1] using gc
    obtain ⟨L⟩ := args
    match L, hs with
    | [w0, w1, w2, w3, w4], _ => exact ⟨w0, w1, w2, w3, w4, rfl⟩
  have hw := fun d (hd : d ∈ tables_1) => atoms_spec (ws := Jvm.Cond.code x code maxLocals ret :: tables_1) hat d (List.mem_cons_of_mem _ hd)
  obtain ⟨i0, ei0⟩ := isL_v ga0
  obtain rfl : w0 = (.long i0) := Option.some.inj ei0
  obtain ⟨i1, ei1⟩ := isL_v ga1
  obtain rfl : w1 = (.long i1) := Option.some.inj ei1
  obtain ⟨i2, ei2⟩ := isL_v ga2
  obtain rfl : w2 = (.long i2) := Option.some.inj ei2
  obtain ⟨i3, ei3⟩ := isL_v ga3
  obtain rfl : w3 = (.long i3) := Option.some.inj ei3
  obtain ⟨i4, ei4⟩ := is_v gr4
  obtain rfl : w4 = (.int i4) := Option.some.inj ei4
  obtain ⟨n, o, h1, h2, h3, _, L, rfl, ⟨rfl, N⟩, hq⟩ := own_rm0 l s _ hw tables_1 i0 i1 i2 i3 i4 s.heap s.heap.size (Nat.le_refl _) p e ha hc hk s m _ below hf ((Spec.applies_iff_loose hf).mp happ).1 ⟨rfl, State.Warmed39.refl s, rfl⟩ trivial
  refine ⟨n, _, h1, h2, h3, hpost _ _ _ _ _ _ ⟨Cond.after_iff.mpr rfl, Cond.after_iff.mpr (eq_i res_at (Term.int_eval (1)) rfl), trivial⟩ ⟨hq.1, hq.2.1, (hq.2.2.sift fun y hy => Or.inr (N y hy)).mono (by decide) (by decide)⟩⟩
theorem main_1_1 : Claimed_1_1 := comes_1 fun _ _ _ _ _ _ h hF => ⟨h.1, hF⟩
theorem main_1_2 : Claimed_1_2 := comes_1 fun _ _ _ _ _ _ h hF => ⟨h.2.1, hF⟩
end Jvm.Pilot.@@N@@
namespace Jvm.Pilot.@@N@@
open Jvm Jvm.ClassFile Sem Op Lib Jvm.Free Jvm.Stand Jvm.Pilot.@@N@@.Jvm.D
/-! MADE BY PROGRAM (witnessworld.py) out of the Statement's table words and the real class files: 11 classes; the members and pool entries that the words name. The judged class is class 1, her method 1. -/
namespace start1
open Jvm.ClassFile
def u (s : String) : CpInfo := .utf8 (stringToUtf16 s)
/-- a pool by its gaps: so many unusable entries, then the entry; so many at the end -/
def gap : Nat → List CpInfo → List CpInfo
  | 0, r => r
  | n + 1, r => .unusable :: gap n r
def poolList (es : List (Nat × CpInfo)) (last : Nat) : List CpInfo := es.foldr (fun e r => gap e.1 (e.2 :: r)) (gap last [])
def pool (es : List (Nat × CpInfo)) (last : Nat) : Array CpInfo := ⟨poolList es last⟩
def fileOf (pool : Array CpInfo) (this : Nat) (attrs : Array Attribute := #[]) (ms : Array MethodInfo := #[]) (fl : Nat := 33) (sup : Nat := 0) (ifs : Array Nat := #[]) (fds : Array FieldInfo := #[]) : ClassFile where
  minorVersion := 0
  majorVersion := 65
  constantPool := pool
  accessFlags := fl
  thisClass := this
  superClass := sup
  interfaces := ifs
  fields := fds
  methods := ms
  attributes := attrs
def plain (name : String) (sup : Option ClassId) : Class where
  name := name
  kind := .ordinary
  loader := none
  accessFlags := 33
  super := sup
  interfaces := #[]
  cf := none
  fields := #[]
  methods := #[]
  instanceTypes := #[]
  staticTypes := #[]
  resolved := #[]
  callSites := []
  init := .initialized
  statics := none
  mirror := none

def pool0 : Array CpInfo := pool [(5, u "<init>"), (0, u "()V"), (1, .class_ 10), (1, u "java/lang/Object")] 113

def k0m0 : Method := { name := "<init>", desc := "()V", sig := { parameters := [], returnType := none }, accessFlags := 1, code := none }
/-- java/lang/Object -/
def k0 : Class := { plain "java/lang/Object" none with
  accessFlags := 33
  interfaces := #[]
  cf := some (fileOf pool0 8 #[] #[{ accessFlags := 1, nameIndex := 5, descriptorIndex := 6, attributes := #[] }] 33 0 #[] #[])
  fields := #[]
  methods := #[k0m0]
  instanceTypes := #[]
  staticTypes := #[]
  resolved := Array.replicate 124 none
  statics := none }

def pool1 : Array CpInfo := pool [(2, .class_ 4), (1, u "java/lang/Object"), (0, u "<init>"), (0, u "()V"), (0, .methodref 8 9), (0, .class_ 10), (0, .nameAndType 11 12), (0, u "com/example/tracegauge/tracegauge/MarkingSet"), (0, u "doubled"), (0, u "([J)[J"), (0, .methodref 14 15), (0, .class_ 16), (0, .nameAndType 17 18), (0, u "com/example/tracegauge/tracegauge/MarkingSetDoubledPinLaw"), (0, u "nonZero4"), (0, u "([J)I"), (0, .methodref 14 20), (0, .nameAndType 21 18), (0, u "nonZero8"), (0, .methodref 14 23), (0, .nameAndType 24 25), (0, u "sameCount"), (0, u "([J[JJ)Z"), (0, .methodref 14 27), (0, .nameAndType 28 29), (0, u "reachable"), (0, u "([JI)Z"), (0, .methodref 14 31), (0, .nameAndType 32 33), (0, u "nz"), (0, u "(J)I"), (0, .methodref 14 35), (0, .nameAndType 36 37), (0, u "eq"), (0, u "(JJ)I"), (0, .methodref 14 39), (0, .nameAndType 40 41), (0, u "filled"), (0, u "([JIII)Z"), (2, u "law"), (0, u "(JJJJI)Z")] 5

def k1m0 : Method := { name := "<init>", desc := "()V", sig := { parameters := [], returnType := none }, accessFlags := 1, code := none }
def k1c1 : Code := { maxStack := 4, maxLocals := 11, code := code, exceptionTable := #[], attributes := #[] }
def k1m1 : Method := { name := "law", desc := "(JJJJI)Z", sig := { parameters := [.long, .long, .long, .long, .int], returnType := some .boolean }, accessFlags := 9, code := some k1c1 }
def k1c2 : Code := { maxStack := 4, maxLocals := 2, code := method_3_code, exceptionTable := #[], attributes := #[] }
def k1m2 : Method := { name := "nz", desc := "(J)I", sig := { parameters := [.long], returnType := some .int }, accessFlags := 10, code := some k1c2 }
def k1c3 : Code := { maxStack := 3, maxLocals := 1, code := method_4_code, exceptionTable := #[], attributes := #[] }
def k1m3 : Method := { name := "nonZero4", desc := "([J)I", sig := { parameters := [(.array .long)], returnType := some .int }, accessFlags := 10, code := some k1c3 }
def k1c4 : Code := { maxStack := 3, maxLocals := 1, code := method_5_code, exceptionTable := #[], attributes := #[] }
def k1m4 : Method := { name := "nonZero8", desc := "([J)I", sig := { parameters := [(.array .long)], returnType := some .int }, accessFlags := 10, code := some k1c4 }
def k1c5 : Code := { maxStack := 4, maxLocals := 4, code := method_6_code, exceptionTable := #[], attributes := #[] }
def k1m5 : Method := { name := "eq", desc := "(JJ)I", sig := { parameters := [.long, .long], returnType := some .int }, accessFlags := 10, code := some k1c5 }
def k1c6 : Code := { maxStack := 5, maxLocals := 6, code := method_7_code, exceptionTable := #[], attributes := #[] }
def k1m6 : Method := { name := "sameCount", desc := "([J[JJ)Z", sig := { parameters := [(.array .long), (.array .long), .long], returnType := some .boolean }, accessFlags := 10, code := some k1c6 }
def k1c7 : Code := { maxStack := 4, maxLocals := 4, code := method_8_code, exceptionTable := #[], attributes := #[] }
def k1m7 : Method := { name := "filled", desc := "([JIII)Z", sig := { parameters := [(.array .long), .int, .int, .int], returnType := some .boolean }, accessFlags := 10, code := some k1c7 }
def k1c8 : Code := { maxStack := 4, maxLocals := 6, code := method_9_code, exceptionTable := #[], attributes := #[] }
def k1m8 : Method := { name := "reachable", desc := "([JI)Z", sig := { parameters := [(.array .long), .int], returnType := some .boolean }, accessFlags := 10, code := some k1c8 }
/-- com/example/tracegauge/tracegauge/MarkingSetDoubledPinLaw -/
def k1 : Class := { plain "com/example/tracegauge/tracegauge/MarkingSetDoubledPinLaw" (some 0) with
  accessFlags := 49
  interfaces := #[]
  cf := some (fileOf pool1 14 #[] #[{ accessFlags := 1, nameIndex := 5, descriptorIndex := 6, attributes := #[] }, { accessFlags := 9, nameIndex := 44, descriptorIndex := 45, attributes := #[] }, { accessFlags := 10, nameIndex := 32, descriptorIndex := 33, attributes := #[] }, { accessFlags := 10, nameIndex := 17, descriptorIndex := 18, attributes := #[] }, { accessFlags := 10, nameIndex := 21, descriptorIndex := 18, attributes := #[] }, { accessFlags := 10, nameIndex := 36, descriptorIndex := 37, attributes := #[] }, { accessFlags := 10, nameIndex := 24, descriptorIndex := 25, attributes := #[] }, { accessFlags := 10, nameIndex := 40, descriptorIndex := 41, attributes := #[] }, { accessFlags := 10, nameIndex := 28, descriptorIndex := 29, attributes := #[] }] 49 2 #[] #[])
  fields := #[]
  methods := #[k1m0, k1m1, k1m2, k1m3, k1m4, k1m5, k1m6, k1m7, k1m8]
  instanceTypes := #[]
  staticTypes := #[]
  resolved := Array.replicate 51 none
  statics := none }

def pool2 : Array CpInfo := pool [(2, .class_ 4), (1, u "java/lang/Object"), (0, u "<init>"), (0, u "()V"), (0, .class_ 8), (0, u "com/example/tracegauge/tracegauge/MarkingSet"), (2, u "bytes"), (0, u "[B"), (2, u "starts"), (0, u "[I"), (2, u "slots"), (0, u "[J"), (2, u "size"), (0, u "I"), (14, u "used"), (56, u "doubled"), (0, u "([J)[J"), (11, u "FIRST_CAPACITY")] 18

def k2m0 : Method := { name := "<init>", desc := "()V", sig := { parameters := [], returnType := none }, accessFlags := 0, code := none }
def k2c1 : Code := { maxStack := 4, maxLocals := 9, code := prog_76_method_16_code, exceptionTable := #[], attributes := #[] }
def k2m1 : Method := { name := "doubled", desc := "([J)[J", sig := { parameters := [(.array .long)], returnType := some (.array .long) }, accessFlags := 8, code := some k2c1 }
/-- com/example/tracegauge/tracegauge/MarkingSet -/
def k2 : Class := { plain "com/example/tracegauge/tracegauge/MarkingSet" (some 0) with
  accessFlags := 48
  interfaces := #[]
  cf := some (fileOf pool2 7 #[] #[{ accessFlags := 0, nameIndex := 5, descriptorIndex := 6, attributes := #[] }, { accessFlags := 8, nameIndex := 96, descriptorIndex := 97, attributes := #[] }] 48 2 #[] #[{ accessFlags := 26, nameIndex := 109, descriptorIndex := 24, attributes := #[] }, { accessFlags := 2, nameIndex := 11, descriptorIndex := 12, attributes := #[] }, { accessFlags := 2, nameIndex := 39, descriptorIndex := 24, attributes := #[] }, { accessFlags := 2, nameIndex := 15, descriptorIndex := 16, attributes := #[] }, { accessFlags := 2, nameIndex := 23, descriptorIndex := 24, attributes := #[] }, { accessFlags := 2, nameIndex := 19, descriptorIndex := 20, attributes := #[] }])
  fields := #[{ name := "FIRST_CAPACITY", type := .int, accessFlags := 26, slot := 0, constantValue := 0 }, { name := "bytes", type := (.array .byte), accessFlags := 2, slot := 0, constantValue := 0 }, { name := "used", type := .int, accessFlags := 2, slot := 1, constantValue := 0 }, { name := "starts", type := (.array .int), accessFlags := 2, slot := 2, constantValue := 0 }, { name := "size", type := .int, accessFlags := 2, slot := 3, constantValue := 0 }, { name := "slots", type := (.array .long), accessFlags := 2, slot := 4, constantValue := 0 }]
  methods := #[k2m0, k2m1]
  instanceTypes := #[(.array .byte), .int, (.array .int), .int, (.array .long)]
  staticTypes := #[.int]
  resolved := Array.replicate 128 none
  statics := none }

def pool3 : Array CpInfo := pool [(1, u "java/lang/Cloneable"), (0, .class_ 1), (0, u "java/lang/Object"), (0, .class_ 3)] 3

/-- java/lang/Cloneable -/
def k3 : Class := { plain "java/lang/Cloneable" (some 0) with
  accessFlags := 1537
  interfaces := #[]
  cf := some (fileOf pool3 2 #[] #[] 1537 4 #[] #[])
  fields := #[]
  methods := #[]
  instanceTypes := #[]
  staticTypes := #[]
  resolved := Array.replicate 8 none
  statics := none }

def pool4 : Array CpInfo := pool [(1, u "java/io/Serializable"), (0, .class_ 1), (0, u "java/lang/Object"), (0, .class_ 3)] 3

/-- java/io/Serializable -/
def k4 : Class := { plain "java/io/Serializable" (some 0) with
  accessFlags := 1537
  interfaces := #[]
  cf := some (fileOf pool4 2 #[] #[] 1537 4 #[] #[])
  fields := #[]
  methods := #[]
  instanceTypes := #[]
  staticTypes := #[]
  resolved := Array.replicate 8 none
  statics := none }

/-- the primitive byte -/
def k5 : Class := { plain "byte" none with kind := .primitive 'B', accessFlags := 0x411 }
/-- [B -/
def k6 : Class := { plain "[B" (some 0) with kind := .array 5 .byte, interfaces := #[3, 4], accessFlags := 1041 }

/-- the primitive int -/
def k7 : Class := { plain "int" none with kind := .primitive 'I', accessFlags := 0x411 }
/-- [I -/
def k8 : Class := { plain "[I" (some 0) with kind := .array 7 .int, interfaces := #[3, 4], accessFlags := 1041 }

/-- the primitive long -/
def k9 : Class := { plain "long" none with kind := .primitive 'J', accessFlags := 0x411 }
/-- [J -/
def k10 : Class := { plain "[J" (some 0) with kind := .array 9 .long, interfaces := #[3, 4], accessFlags := 1041 }

def heap : Heap := #[]
def classes : Array Class := #[k0, k1, k2, k3, k4, k5, k6, k7, k8, k9, k10]
def interned : List (Array UInt16 × Addr) := []
def slotsUsed : Nat := 0
def theMethod : MethodId := ⟨1, 1⟩
def args0 : Array Value := #[.long 5, .long 5, .long 5, .long 5, .int 5]
def aboutOver (below : List Frame) : State where
  vm := { classes := classes, interned := interned.toArray }
  heap := heap
  slotsUsed := slotsUsed
  threads := #[{ frames := .invoking theMethod args0 :: below }]
def below0 : List Frame := [.native { method := ⟨0, 0⟩, args := #[] }]
def about1 : State := aboutOver below0
def p0 : Program := .bare "" "" ""
def e0 : Env := launch0.env 0 0 0
theorem w_frames : about1.frames = Frame.invoking theMethod args0 :: below0 := rfl
set_option maxRecDepth 65536 in
theorem w_args : argsFit about1.vm theMethod args0 = true := by decide +kernel
set_option maxRecDepth 65536 in
theorem w_heap : heapFits about1 = true := by decide +kernel
set_option maxRecDepth 65536 in
theorem w_runnable : about1.curStatus? = some .runnable := by decide +kernel
set_option maxRecDepth 65536 in
theorem w_alone : about1.alone = true := by decide +kernel
set_option maxRecDepth 65536 in
theorem w_named : about1.methodNamed? x = some theMethod := by decide +kernel
set_option maxRecDepth 65536 in
theorem w_hears : about1.hears theMethod below0 = true := by decide +kernel
set_option maxRecDepth 65536 in
theorem w_ripe : about1.ripe theMethod args0 below0 = true := by decide +kernel
theorem w_running : about1.status = .running := rfl
set_option maxRecDepth 65536 in
theorem w_room : about1.hasRoom e0.platform room_1 = true :=
  launch0.hasRoom_least _ room_1 (by decide +kernel) (by decide +kernel) (by decide +kernel) (by decide +kernel) (by decide +kernel) (by decide +kernel)
theorem allAtoms_all (ts : List Jvm.Cond) (a : Array Jvm.Value) (st : Jvm.State) : (allAtoms ts).before a st = ts.all (fun c => c.before a st) := by
  induction ts with
  | nil => rfl
  | cons c t ih =>
    show (Jvm.Cond.and c (allAtoms t)).before a st = _
    rw [Jvm.Cond.before_and, ih, List.all_cons]
def words1 : List Jvm.Cond := Jvm.Cond.code x code maxLocals ret :: tables_1
/-- a 'code' word, met by the world's own term for the bytes: nothing is compared byte by byte -/
theorem code_word {y : MethodName} {bytes : ByteArray} {mx : Nat} {rt : Option FieldType} {a : Array Value} {s : State} {m : MethodId} {meth : Method} {c : Code} (h1 : s.methodNamed? y = some m) (h2 : s.vm.method? m = some meth) (h3 : meth.code = some c) (h4 : c.code = bytes)
    (h5 : (c.maxLocals == mx && c.exceptionTable.isEmpty && decide (c.maxStack ≤ mostOperands) && decide (meth.sig.returnType = rt) && !meth.locks && decide (parseMethodDescriptor y.desc = some meth.sig)) = true) : (Jvm.Cond.code y bytes mx rt).before a s = true := by
  simp only [Bool.and_eq_true, beq_iff_eq, Bool.not_eq_true', decide_eq_true_eq] at h5
  obtain ⟨⟨⟨⟨⟨g1, g2⟩, g3⟩, g4⟩, g5⟩, g6⟩ := h5
  simp [Cond.before, Cond.holds, Cond.value, h1, h2, h3, h4, g1, g2, g3, g4, g5, g6]
def isCode : Jvm.Cond → Bool
  | .code _ _ _ _ => true
  | _ => false
theorem all_split {L : List Jvm.Cond} {P : Jvm.Cond → Bool} (h1 : L.all (fun c => isCode c || P c) = true) (h2 : ∀ c ∈ L.filter isCode, P c = true) : L.all P = true := by
  refine List.all_eq_true.mpr fun c hc => ?_
  have h := List.all_eq_true.mp h1 c hc
  rcases Bool.eq_false_or_eq_true (isCode c) with hi | hi
  · exact h2 c (List.mem_filter.mpr ⟨hc, hi⟩)
  · simpa [hi] using h
set_option maxRecDepth 65536 in
theorem w_c0 : (Jvm.Cond.code x code maxLocals ret).before args0 about1 = true := code_word (m := ⟨1, 1⟩) (meth := k1m1) (c := k1c1) (by decide +kernel) rfl rfl rfl (by decide +kernel)
set_option maxRecDepth 65536 in
theorem w_c1 : (Jvm.Cond.code ({ cls := "com/example/tracegauge/tracegauge/MarkingSet", name := "doubled", desc := "([J)[J" } : Jvm.MethodName) prog_76_method_16_code (9 : Nat) (Option.some (Jvm.ClassFile.FieldType.array Jvm.ClassFile.FieldType.long))).before args0 about1 = true := code_word (m := ⟨2, 1⟩) (meth := k2m1) (c := k2c1) (by decide +kernel) rfl rfl rfl (by decide +kernel)
set_option maxRecDepth 65536 in
theorem w_c2 : (Jvm.Cond.code ({ cls := "com/example/tracegauge/tracegauge/MarkingSetDoubledPinLaw", name := "nonZero4", desc := "([J)I" } : Jvm.MethodName) method_4_code (1 : Nat) (Option.some Jvm.ClassFile.FieldType.int)).before args0 about1 = true := code_word (m := ⟨1, 3⟩) (meth := k1m3) (c := k1c3) (by decide +kernel) rfl rfl rfl (by decide +kernel)
set_option maxRecDepth 65536 in
theorem w_c3 : (Jvm.Cond.code ({ cls := "com/example/tracegauge/tracegauge/MarkingSetDoubledPinLaw", name := "nz", desc := "(J)I" } : Jvm.MethodName) method_3_code (2 : Nat) (Option.some Jvm.ClassFile.FieldType.int)).before args0 about1 = true := code_word (m := ⟨1, 2⟩) (meth := k1m2) (c := k1c2) (by decide +kernel) rfl rfl rfl (by decide +kernel)
set_option maxRecDepth 65536 in
theorem w_c4 : (Jvm.Cond.code ({ cls := "com/example/tracegauge/tracegauge/MarkingSetDoubledPinLaw", name := "nonZero8", desc := "([J)I" } : Jvm.MethodName) method_5_code (1 : Nat) (Option.some Jvm.ClassFile.FieldType.int)).before args0 about1 = true := code_word (m := ⟨1, 4⟩) (meth := k1m4) (c := k1c4) (by decide +kernel) rfl rfl rfl (by decide +kernel)
set_option maxRecDepth 65536 in
theorem w_c5 : (Jvm.Cond.code ({ cls := "com/example/tracegauge/tracegauge/MarkingSetDoubledPinLaw", name := "sameCount", desc := "([J[JJ)Z" } : Jvm.MethodName) method_7_code (6 : Nat) (Option.some Jvm.ClassFile.FieldType.boolean)).before args0 about1 = true := code_word (m := ⟨1, 6⟩) (meth := k1m6) (c := k1c6) (by decide +kernel) rfl rfl rfl (by decide +kernel)
set_option maxRecDepth 65536 in
theorem w_c6 : (Jvm.Cond.code ({ cls := "com/example/tracegauge/tracegauge/MarkingSetDoubledPinLaw", name := "eq", desc := "(JJ)I" } : Jvm.MethodName) method_6_code (4 : Nat) (Option.some Jvm.ClassFile.FieldType.int)).before args0 about1 = true := code_word (m := ⟨1, 5⟩) (meth := k1m5) (c := k1c5) (by decide +kernel) rfl rfl rfl (by decide +kernel)
set_option maxRecDepth 65536 in
theorem w_c7 : (Jvm.Cond.code ({ cls := "com/example/tracegauge/tracegauge/MarkingSetDoubledPinLaw", name := "reachable", desc := "([JI)Z" } : Jvm.MethodName) method_9_code (6 : Nat) (Option.some Jvm.ClassFile.FieldType.boolean)).before args0 about1 = true := code_word (m := ⟨1, 8⟩) (meth := k1m8) (c := k1c8) (by decide +kernel) rfl rfl rfl (by decide +kernel)
set_option maxRecDepth 65536 in
theorem w_c8 : (Jvm.Cond.code ({ cls := "com/example/tracegauge/tracegauge/MarkingSetDoubledPinLaw", name := "filled", desc := "([JIII)Z" } : Jvm.MethodName) method_8_code (4 : Nat) (Option.some Jvm.ClassFile.FieldType.boolean)).before args0 about1 = true := code_word (m := ⟨1, 7⟩) (meth := k1m7) (c := k1c7) (by decide +kernel) rfl rfl rfl (by decide +kernel)
def codes1 : List Jvm.Cond := [Jvm.Cond.code x code maxLocals ret, Jvm.Cond.code ({ cls := "com/example/tracegauge/tracegauge/MarkingSet", name := "doubled", desc := "([J)[J" } : Jvm.MethodName) prog_76_method_16_code (9 : Nat) (Option.some (Jvm.ClassFile.FieldType.array Jvm.ClassFile.FieldType.long)), Jvm.Cond.code ({ cls := "com/example/tracegauge/tracegauge/MarkingSetDoubledPinLaw", name := "nonZero4", desc := "([J)I" } : Jvm.MethodName) method_4_code (1 : Nat) (Option.some Jvm.ClassFile.FieldType.int), Jvm.Cond.code ({ cls := "com/example/tracegauge/tracegauge/MarkingSetDoubledPinLaw", name := "nz", desc := "(J)I" } : Jvm.MethodName) method_3_code (2 : Nat) (Option.some Jvm.ClassFile.FieldType.int), Jvm.Cond.code ({ cls := "com/example/tracegauge/tracegauge/MarkingSetDoubledPinLaw", name := "nonZero8", desc := "([J)I" } : Jvm.MethodName) method_5_code (1 : Nat) (Option.some Jvm.ClassFile.FieldType.int), Jvm.Cond.code ({ cls := "com/example/tracegauge/tracegauge/MarkingSetDoubledPinLaw", name := "sameCount", desc := "([J[JJ)Z" } : Jvm.MethodName) method_7_code (6 : Nat) (Option.some Jvm.ClassFile.FieldType.boolean), Jvm.Cond.code ({ cls := "com/example/tracegauge/tracegauge/MarkingSetDoubledPinLaw", name := "eq", desc := "(JJ)I" } : Jvm.MethodName) method_6_code (4 : Nat) (Option.some Jvm.ClassFile.FieldType.int), Jvm.Cond.code ({ cls := "com/example/tracegauge/tracegauge/MarkingSetDoubledPinLaw", name := "reachable", desc := "([JI)Z" } : Jvm.MethodName) method_9_code (6 : Nat) (Option.some Jvm.ClassFile.FieldType.boolean), Jvm.Cond.code ({ cls := "com/example/tracegauge/tracegauge/MarkingSetDoubledPinLaw", name := "filled", desc := "([JIII)Z" } : Jvm.MethodName) method_8_code (4 : Nat) (Option.some Jvm.ClassFile.FieldType.boolean)]
set_option maxRecDepth 65536 in
theorem codes_eq : words1.filter isCode = codes1 := rfl
theorem w_codes : ∀ c ∈ words1.filter isCode, c.before args0 about1 = true := by
  rw [codes_eq]
  intro c hc
  simp only [codes1, List.mem_cons, List.not_mem_nil, or_false] at hc
  rcases hc with rfl | rfl | rfl | rfl | rfl | rfl | rfl | rfl | rfl
  · exact w_c0
  · exact w_c1
  · exact w_c2
  · exact w_c3
  · exact w_c4
  · exact w_c5
  · exact w_c6
  · exact w_c7
  · exact w_c8
set_option maxRecDepth 65536 in
theorem w_t1 : (words1.take 24).all (fun c => isCode c || c.before args0 about1) = true := by decide +kernel
set_option maxRecDepth 65536 in
theorem w_t2 : (words1.drop 24).all (fun c => isCode c || c.before args0 about1) = true := by decide +kernel
theorem w_tables : (allAtoms (Jvm.Cond.code x code maxLocals ret :: tables_1)).before args0 about1 = true := by
  rw [allAtoms_all]
  show words1.all (fun c => c.before args0 about1) = true
  refine all_split ?_ w_codes
  rw [← List.take_append_drop 24 words1, List.all_append, w_t1, w_t2]
  rfl
set_option maxRecDepth 65536 in
theorem w_case : (Jvm.Cond.and given_1 narrow_1).before args0 about1 = true := by decide +kernel
theorem w_applies : (headSpec (Jvm.Cond.code x code maxLocals ret :: tables_1) room_1).applies x e0.platform about1 = true :=
  (Spec.applies_iff w_frames).mpr ⟨w_running, w_runnable, w_alone, w_named, w_hears, w_ripe, w_room, w_tables⟩
theorem atStart : AtStart classFile x code maxLocals ret World_1 tables_1 room_1 Calls_1 rest_1 Pre_1 launch0 p0 e0 about1 theMethod args0 below0 :=
  ⟨lists_1, trivial, launch0.admits_env _ _ _, launch0.least_env, fairChoices_fair.cas, fairChoices_fair.clock, w_frames, w_args, w_heap, w_applies, trivial, trivial, w_case⟩
end start1
theorem witness_1 : WitnessClaimed_1 := ⟨start1.p0, start1.e0, start1.about1, start1.theMethod, start1.args0, start1.below0, start1.atStart⟩
end Jvm.Pilot.@@N@@
