import JvmDerived
import JvmDerived.Pilot.@@N@@Statement
import JvmDerived.Pilot.@@N@@Code
set_option linter.unusedVariables false
set_option linter.unusedSimpArgs false
namespace Jvm.Pilot.@@N@@
open Jvm Jvm.ClassFile Sem Op Lib Jvm.Free Jvm.Stand Jvm.LawKit Jvm.RoadKit Bundle Jvm.Pilot.@@N@@.Jvm.D
theorem own_pd0 : parseMethodDescriptor "(J)I" = some ⟨[.long], some .int⟩ := by decide +kernel
theorem own_pd1 : parseMethodDescriptor "(J[BI)I" = some ⟨[.long, (.array .byte), .int], some .int⟩ := by decide +kernel
theorem own_pd2 : parseMethodDescriptor "([BIJIIB)Z" = some ⟨[(.array .byte), .int, .long, .int, .int, .byte], some .boolean⟩ := by decide +kernel
set_option maxRecDepth 65536
def own_c1 (j1 : Int64) : Int64 := XT.ushrL j1 (7 : Int32)
def own_c2 (j1 : Int64) : Int64 := XT.ushrL (own_c1 j1) (7 : Int32)
def own_c3 (j1 : Int64) : Int64 := XT.ushrL (own_c2 j1) (7 : Int32)
def own_c4 (j1 : Int64) : Int64 := XT.ushrL (own_c3 j1) (7 : Int32)
def own_c5 (j1 : Int64) : Int64 := XT.ushrL (own_c4 j1) (7 : Int32)
def own_c6 (j1 : Int64) : Int64 := XT.ushrL (own_c5 j1) (7 : Int32)
def own_c7 (j1 : Int64) : Int64 := XT.ushrL (own_c6 j1) (7 : Int32)
def own_c8 (j1 : Int64) : Int64 := XT.ushrL (own_c7 j1) (7 : Int32)
def own_c9 (j1 : Int64) : Int64 := XT.ushrL (own_c8 j1) (7 : Int32)
def own_wr (j1 : Int64) (i1 : Int32) (vs : List Value) : List Value := (if (own_c1 j1) = 0 then (vs.set (i1).toNatClampNeg (.int ((j1.toInt32.toInt8.toInt32).toInt8.toInt32))) else (if (own_c2 j1) = 0 then ((vs.set (i1).toNatClampNeg (.int ((((j1 &&& (127 : Int64)) ||| (128 : Int64)).toInt32.toInt8.toInt32).toInt8.toInt32))).set ((i1 + (1 : Int32))).toNatClampNeg (.int (((own_c1 j1).toInt32.toInt8.toInt32).toInt8.toInt32))) else (if (own_c3 j1) = 0 then (((vs.set (i1).toNatClampNeg (.int ((((j1 &&& (127 : Int64)) ||| (128 : Int64)).toInt32.toInt8.toInt32).toInt8.toInt32))).set ((i1 + (1 : Int32))).toNatClampNeg (.int (((((own_c1 j1) &&& (127 : Int64)) ||| (128 : Int64)).toInt32.toInt8.toInt32).toInt8.toInt32))).set (((i1 + (1 : Int32)) + (1 : Int32))).toNatClampNeg (.int (((own_c2 j1).toInt32.toInt8.toInt32).toInt8.toInt32))) else (if (own_c4 j1) = 0 then ((((vs.set (i1).toNatClampNeg (.int ((((j1 &&& (127 : Int64)) ||| (128 : Int64)).toInt32.toInt8.toInt32).toInt8.toInt32))).set ((i1 + (1 : Int32))).toNatClampNeg (.int (((((own_c1 j1) &&& (127 : Int64)) ||| (128 : Int64)).toInt32.toInt8.toInt32).toInt8.toInt32))).set (((i1 + (1 : Int32)) + (1 : Int32))).toNatClampNeg (.int (((((own_c2 j1) &&& (127 : Int64)) ||| (128 : Int64)).toInt32.toInt8.toInt32).toInt8.toInt32))).set ((((i1 + (1 : Int32)) + (1 : Int32)) + (1 : Int32))).toNatClampNeg (.int (((own_c3 j1).toInt32.toInt8.toInt32).toInt8.toInt32))) else (if (own_c5 j1) = 0 then (((((vs.set (i1).toNatClampNeg (.int ((((j1 &&& (127 : Int64)) ||| (128 : Int64)).toInt32.toInt8.toInt32).toInt8.toInt32))).set ((i1 + (1 : Int32))).toNatClampNeg (.int (((((own_c1 j1) &&& (127 : Int64)) ||| (128 : Int64)).toInt32.toInt8.toInt32).toInt8.toInt32))).set (((i1 + (1 : Int32)) + (1 : Int32))).toNatClampNeg (.int (((((own_c2 j1) &&& (127 : Int64)) ||| (128 : Int64)).toInt32.toInt8.toInt32).toInt8.toInt32))).set ((((i1 + (1 : Int32)) + (1 : Int32)) + (1 : Int32))).toNatClampNeg (.int (((((own_c3 j1) &&& (127 : Int64)) ||| (128 : Int64)).toInt32.toInt8.toInt32).toInt8.toInt32))).set (((((i1 + (1 : Int32)) + (1 : Int32)) + (1 : Int32)) + (1 : Int32))).toNatClampNeg (.int (((own_c4 j1).toInt32.toInt8.toInt32).toInt8.toInt32))) else (if (own_c6 j1) = 0 then ((((((vs.set (i1).toNatClampNeg (.int ((((j1 &&& (127 : Int64)) ||| (128 : Int64)).toInt32.toInt8.toInt32).toInt8.toInt32))).set ((i1 + (1 : Int32))).toNatClampNeg (.int (((((own_c1 j1) &&& (127 : Int64)) ||| (128 : Int64)).toInt32.toInt8.toInt32).toInt8.toInt32))).set (((i1 + (1 : Int32)) + (1 : Int32))).toNatClampNeg (.int (((((own_c2 j1) &&& (127 : Int64)) ||| (128 : Int64)).toInt32.toInt8.toInt32).toInt8.toInt32))).set ((((i1 + (1 : Int32)) + (1 : Int32)) + (1 : Int32))).toNatClampNeg (.int (((((own_c3 j1) &&& (127 : Int64)) ||| (128 : Int64)).toInt32.toInt8.toInt32).toInt8.toInt32))).set (((((i1 + (1 : Int32)) + (1 : Int32)) + (1 : Int32)) + (1 : Int32))).toNatClampNeg (.int (((((own_c4 j1) &&& (127 : Int64)) ||| (128 : Int64)).toInt32.toInt8.toInt32).toInt8.toInt32))).set ((((((i1 + (1 : Int32)) + (1 : Int32)) + (1 : Int32)) + (1 : Int32)) + (1 : Int32))).toNatClampNeg (.int (((own_c5 j1).toInt32.toInt8.toInt32).toInt8.toInt32))) else (if (own_c7 j1) = 0 then (((((((vs.set (i1).toNatClampNeg (.int ((((j1 &&& (127 : Int64)) ||| (128 : Int64)).toInt32.toInt8.toInt32).toInt8.toInt32))).set ((i1 + (1 : Int32))).toNatClampNeg (.int (((((own_c1 j1) &&& (127 : Int64)) ||| (128 : Int64)).toInt32.toInt8.toInt32).toInt8.toInt32))).set (((i1 + (1 : Int32)) + (1 : Int32))).toNatClampNeg (.int (((((own_c2 j1) &&& (127 : Int64)) ||| (128 : Int64)).toInt32.toInt8.toInt32).toInt8.toInt32))).set ((((i1 + (1 : Int32)) + (1 : Int32)) + (1 : Int32))).toNatClampNeg (.int (((((own_c3 j1) &&& (127 : Int64)) ||| (128 : Int64)).toInt32.toInt8.toInt32).toInt8.toInt32))).set (((((i1 + (1 : Int32)) + (1 : Int32)) + (1 : Int32)) + (1 : Int32))).toNatClampNeg (.int (((((own_c4 j1) &&& (127 : Int64)) ||| (128 : Int64)).toInt32.toInt8.toInt32).toInt8.toInt32))).set ((((((i1 + (1 : Int32)) + (1 : Int32)) + (1 : Int32)) + (1 : Int32)) + (1 : Int32))).toNatClampNeg (.int (((((own_c5 j1) &&& (127 : Int64)) ||| (128 : Int64)).toInt32.toInt8.toInt32).toInt8.toInt32))).set (((((((i1 + (1 : Int32)) + (1 : Int32)) + (1 : Int32)) + (1 : Int32)) + (1 : Int32)) + (1 : Int32))).toNatClampNeg (.int (((own_c6 j1).toInt32.toInt8.toInt32).toInt8.toInt32))) else (if (own_c8 j1) = 0 then ((((((((vs.set (i1).toNatClampNeg (.int ((((j1 &&& (127 : Int64)) ||| (128 : Int64)).toInt32.toInt8.toInt32).toInt8.toInt32))).set ((i1 + (1 : Int32))).toNatClampNeg (.int (((((own_c1 j1) &&& (127 : Int64)) ||| (128 : Int64)).toInt32.toInt8.toInt32).toInt8.toInt32))).set (((i1 + (1 : Int32)) + (1 : Int32))).toNatClampNeg (.int (((((own_c2 j1) &&& (127 : Int64)) ||| (128 : Int64)).toInt32.toInt8.toInt32).toInt8.toInt32))).set ((((i1 + (1 : Int32)) + (1 : Int32)) + (1 : Int32))).toNatClampNeg (.int (((((own_c3 j1) &&& (127 : Int64)) ||| (128 : Int64)).toInt32.toInt8.toInt32).toInt8.toInt32))).set (((((i1 + (1 : Int32)) + (1 : Int32)) + (1 : Int32)) + (1 : Int32))).toNatClampNeg (.int (((((own_c4 j1) &&& (127 : Int64)) ||| (128 : Int64)).toInt32.toInt8.toInt32).toInt8.toInt32))).set ((((((i1 + (1 : Int32)) + (1 : Int32)) + (1 : Int32)) + (1 : Int32)) + (1 : Int32))).toNatClampNeg (.int (((((own_c5 j1) &&& (127 : Int64)) ||| (128 : Int64)).toInt32.toInt8.toInt32).toInt8.toInt32))).set (((((((i1 + (1 : Int32)) + (1 : Int32)) + (1 : Int32)) + (1 : Int32)) + (1 : Int32)) + (1 : Int32))).toNatClampNeg (.int (((((own_c6 j1) &&& (127 : Int64)) ||| (128 : Int64)).toInt32.toInt8.toInt32).toInt8.toInt32))).set ((((((((i1 + (1 : Int32)) + (1 : Int32)) + (1 : Int32)) + (1 : Int32)) + (1 : Int32)) + (1 : Int32)) + (1 : Int32))).toNatClampNeg (.int (((own_c7 j1).toInt32.toInt8.toInt32).toInt8.toInt32))) else (((((((((vs.set (i1).toNatClampNeg (.int ((((j1 &&& (127 : Int64)) ||| (128 : Int64)).toInt32.toInt8.toInt32).toInt8.toInt32))).set ((i1 + (1 : Int32))).toNatClampNeg (.int (((((own_c1 j1) &&& (127 : Int64)) ||| (128 : Int64)).toInt32.toInt8.toInt32).toInt8.toInt32))).set (((i1 + (1 : Int32)) + (1 : Int32))).toNatClampNeg (.int (((((own_c2 j1) &&& (127 : Int64)) ||| (128 : Int64)).toInt32.toInt8.toInt32).toInt8.toInt32))).set ((((i1 + (1 : Int32)) + (1 : Int32)) + (1 : Int32))).toNatClampNeg (.int (((((own_c3 j1) &&& (127 : Int64)) ||| (128 : Int64)).toInt32.toInt8.toInt32).toInt8.toInt32))).set (((((i1 + (1 : Int32)) + (1 : Int32)) + (1 : Int32)) + (1 : Int32))).toNatClampNeg (.int (((((own_c4 j1) &&& (127 : Int64)) ||| (128 : Int64)).toInt32.toInt8.toInt32).toInt8.toInt32))).set ((((((i1 + (1 : Int32)) + (1 : Int32)) + (1 : Int32)) + (1 : Int32)) + (1 : Int32))).toNatClampNeg (.int (((((own_c5 j1) &&& (127 : Int64)) ||| (128 : Int64)).toInt32.toInt8.toInt32).toInt8.toInt32))).set (((((((i1 + (1 : Int32)) + (1 : Int32)) + (1 : Int32)) + (1 : Int32)) + (1 : Int32)) + (1 : Int32))).toNatClampNeg (.int (((((own_c6 j1) &&& (127 : Int64)) ||| (128 : Int64)).toInt32.toInt8.toInt32).toInt8.toInt32))).set ((((((((i1 + (1 : Int32)) + (1 : Int32)) + (1 : Int32)) + (1 : Int32)) + (1 : Int32)) + (1 : Int32)) + (1 : Int32))).toNatClampNeg (.int (((((own_c7 j1) &&& (127 : Int64)) ||| (128 : Int64)).toInt32.toInt8.toInt32).toInt8.toInt32))).set (((((((((i1 + (1 : Int32)) + (1 : Int32)) + (1 : Int32)) + (1 : Int32)) + (1 : Int32)) + (1 : Int32)) + (1 : Int32)) + (1 : Int32))).toNatClampNeg (.int (((own_c8 j1).toInt32.toInt8.toInt32).toInt8.toInt32)))))))))))
def own_end (j1 : Int64) (i1 : Int32) : Int32 := (if (own_c1 j1) = 0 then (i1 + (1 : Int32)) else (if (own_c2 j1) = 0 then ((i1 + (1 : Int32)) + (1 : Int32)) else (if (own_c3 j1) = 0 then (((i1 + (1 : Int32)) + (1 : Int32)) + (1 : Int32)) else (if (own_c4 j1) = 0 then ((((i1 + (1 : Int32)) + (1 : Int32)) + (1 : Int32)) + (1 : Int32)) else (if (own_c5 j1) = 0 then (((((i1 + (1 : Int32)) + (1 : Int32)) + (1 : Int32)) + (1 : Int32)) + (1 : Int32)) else (if (own_c6 j1) = 0 then ((((((i1 + (1 : Int32)) + (1 : Int32)) + (1 : Int32)) + (1 : Int32)) + (1 : Int32)) + (1 : Int32)) else (if (own_c7 j1) = 0 then (((((((i1 + (1 : Int32)) + (1 : Int32)) + (1 : Int32)) + (1 : Int32)) + (1 : Int32)) + (1 : Int32)) + (1 : Int32)) else (if (own_c8 j1) = 0 then ((((((((i1 + (1 : Int32)) + (1 : Int32)) + (1 : Int32)) + (1 : Int32)) + (1 : Int32)) + (1 : Int32)) + (1 : Int32)) + (1 : Int32)) else (((((((((i1 + (1 : Int32)) + (1 : Int32)) + (1 : Int32)) + (1 : Int32)) + (1 : Int32)) + (1 : Int32)) + (1 : Int32)) + (1 : Int32)) + (1 : Int32))))))))))
def own_size (j1 : Int64) : Int32 := (if j1 < (128 : Int64) then (1 : Int32) else (if j1 < (16384 : Int64) then (2 : Int32) else (if j1 < (2097152 : Int64) then (3 : Int32) else (if j1 < (268435456 : Int64) then (4 : Int32) else (if j1 < (34359738368 : Int64) then (5 : Int32) else (if j1 < (4398046511104 : Int64) then (6 : Int32) else (if j1 < (562949953421312 : Int64) then (7 : Int32) else (if j1 < (72057594037927936 : Int64) then (8 : Int32) else (9 : Int32)))))))))
def own_want (j1 : Int64) (i1 s1 t1 f1 : Int32) : Int32 := if (i1 - t1) < 0 then f1 else if (i1 - t1) < s1 then (if (i1 - t1) < (s1 - (1 : Int32)) then (((XT.ushrL j1 ((7 : Int32) * (i1 - t1)) &&& (127 : Int64)) ||| (128 : Int64)).toInt32.toInt8.toInt32) else ((XT.ushrL j1 ((7 : Int32) * (i1 - t1)) &&& (127 : Int64)).toInt32.toInt8.toInt32)) else f1
theorem own_sham : ∀ k : Nat, k < 64 → ((((Int32.ofNat k).toInt64.toUInt64 &&& Int64.toUInt64 63).toBitVec % 64#64).toNat = k) := by decide +kernel
theorem own_ushr (x : Int64) (k : Nat) (hk : k < 64) (hx : 0 ≤ x.toInt) : (XT.ushrL x (Int32.ofNat k)).toInt = x.toInt / ((2 ^ k : Nat) : Int) := by
  have h1 : (XT.ushrL x (Int32.ofNat k)).toBitVec.toNat = x.toBitVec.toNat / 2 ^ k := by
    show (x.toBitVec >>> (((Int32.ofNat k).toInt64.toUInt64 &&& Int64.toUInt64 63).toBitVec % 64#64)).toNat = _
    rw [BitVec.ushiftRight_eq', BitVec.toNat_ushiftRight, own_sham k hk, Nat.shiftRight_eq_div_pow]
  have h2 : x.toInt = (x.toBitVec.toNat : Int) := by
    have e : x.toInt = x.toBitVec.toInt := rfl
    rw [e, BitVec.toInt_eq_toNat_cond] at hx ⊢
    split
    · rfl
    · rename_i q; rw [if_neg q] at hx; have := x.toBitVec.isLt; omega
  have h3 : (XT.ushrL x (Int32.ofNat k)).toInt = ((XT.ushrL x (Int32.ofNat k)).toBitVec.toNat : Int) := by
    have e : (XT.ushrL x (Int32.ofNat k)).toInt = (XT.ushrL x (Int32.ofNat k)).toBitVec.toInt := rfl
    have hl : (XT.ushrL x (Int32.ofNat k)).toBitVec.toNat ≤ x.toBitVec.toNat := by rw [h1]; exact Nat.div_le_self _ _
    have hr := x.toInt_lt
    rw [e, BitVec.toInt_eq_toNat_cond, if_pos (by omega)]
  rw [h3, h1, h2]; norm_cast
theorem own_sh7 (x : Int64) (hx : 0 ≤ x.toInt) : (XT.ushrL x (7 : Int32)).toInt = x.toInt / 128 := by
  have h := own_ushr x 7 (by decide) hx
  have e : (((2 ^ 7 : Nat)) : Int) = 128 := by decide
  rw [e] at h; exact h
theorem own_shift (s : Int32) : ∃ k : Nat, k < 64 ∧ ((s &&& (2147483647 : Int32)) % (64 : Int32)) = Int32.ofNat k := by
  have h1 := c_mask s (2147483647 : Int32) 31 (by decide) (by decide)
  have h2 := (c_irem (s &&& (2147483647 : Int32)) (64 : Int32) 64 rfl).1 (by rw [h1]; omega)
  rw [h1] at h2
  refine ⟨((s.toInt % ((2 ^ 31 : Nat) : Int)) % 64).toNat, by omega, ?_⟩
  apply Int32.toInt_inj.mp
  rw [h2, Int32.toInt_ofNat_of_lt (by omega)]; omega
theorem own_num (n : Int64) (s sh : Int32) (hs : sh = (s &&& (2147483647 : Int32)) % (64 : Int32)) : 0 ≤ (XT.ushrL (n &&& (9223372036854775807 : Int64)) sh).toInt := by
  obtain ⟨k, hk, e⟩ := own_shift s
  have h1 := c_maskL n (9223372036854775807 : Int64) 63 (by decide) (by decide)
  have h2 : 0 ≤ (n &&& (9223372036854775807 : Int64)).toInt := by rw [h1]; omega
  rw [hs, e, own_ushr _ k hk h2]
  exact Int.ediv_nonneg h2 (Int.natCast_nonneg _)
theorem own_b2 (x : Int32) : x.toInt8.toInt32.toInt8.toInt32 = x.toInt8.toInt32 := by rw [Int8.toInt8_toInt32]
theorem own_fld (kk : Int32) : (kk &&& (3 : Int32)) = 0 ∨ (kk &&& (3 : Int32)) = 1 ∨ (kk &&& (3 : Int32)) = 2 ∨ (kk &&& (3 : Int32)) = 3 := by
  have h := c_mask kk (3 : Int32) 2 (by decide) (by decide)
  have h8 : (((2 ^ 2 : Nat)) : Int) = 4 := by decide
  rw [h8] at h
  simp only [← Int32.toInt_inj, h]
  have e0 : (0 : Int32).toInt = 0 := by decide
  have e1 : (1 : Int32).toInt = 1 := by decide
  have e2 : (2 : Int32).toInt = 2 := by decide
  have e3 : (3 : Int32).toInt = 3 := by decide
  rw [e0, e1, e2, e3]
  omega
theorem own_z (x : Int64) : x = 0 ↔ x.toInt = 0 := ⟨fun h => by rw [h]; rfl, fun h => Int64.toInt_inj.mp (by rw [h]; rfl)⟩
theorem own_cv1 (j1 : Int64) (h : 0 ≤ j1.toInt) : (own_c1 j1).toInt = j1.toInt / 128 := by
  unfold own_c1; exact own_sh7 j1 h
theorem own_cz1 (j1 : Int64) (h : 0 ≤ j1.toInt) : own_c1 j1 = 0 ↔ j1 < (128 : Int64) := by
  rw [own_z, own_cv1 j1 h, Int64.lt_iff_toInt_lt, show (128 : Int64).toInt = 128 from by decide]; omega
theorem own_cv2 (j1 : Int64) (h : 0 ≤ j1.toInt) : (own_c2 j1).toInt = j1.toInt / 16384 := by
  have p := own_cv1 j1 h
  unfold own_c2
  rw [own_sh7 _ (by rw [p]; omega), p]; omega
theorem own_cz2 (j1 : Int64) (h : 0 ≤ j1.toInt) : own_c2 j1 = 0 ↔ j1 < (16384 : Int64) := by
  rw [own_z, own_cv2 j1 h, Int64.lt_iff_toInt_lt, show (16384 : Int64).toInt = 16384 from by decide]; omega
theorem own_cv3 (j1 : Int64) (h : 0 ≤ j1.toInt) : (own_c3 j1).toInt = j1.toInt / 2097152 := by
  have p := own_cv2 j1 h
  unfold own_c3
  rw [own_sh7 _ (by rw [p]; omega), p]; omega
theorem own_cz3 (j1 : Int64) (h : 0 ≤ j1.toInt) : own_c3 j1 = 0 ↔ j1 < (2097152 : Int64) := by
  rw [own_z, own_cv3 j1 h, Int64.lt_iff_toInt_lt, show (2097152 : Int64).toInt = 2097152 from by decide]; omega
theorem own_cv4 (j1 : Int64) (h : 0 ≤ j1.toInt) : (own_c4 j1).toInt = j1.toInt / 268435456 := by
  have p := own_cv3 j1 h
  unfold own_c4
  rw [own_sh7 _ (by rw [p]; omega), p]; omega
theorem own_cz4 (j1 : Int64) (h : 0 ≤ j1.toInt) : own_c4 j1 = 0 ↔ j1 < (268435456 : Int64) := by
  rw [own_z, own_cv4 j1 h, Int64.lt_iff_toInt_lt, show (268435456 : Int64).toInt = 268435456 from by decide]; omega
theorem own_cv5 (j1 : Int64) (h : 0 ≤ j1.toInt) : (own_c5 j1).toInt = j1.toInt / 34359738368 := by
  have p := own_cv4 j1 h
  unfold own_c5
  rw [own_sh7 _ (by rw [p]; omega), p]; omega
theorem own_cz5 (j1 : Int64) (h : 0 ≤ j1.toInt) : own_c5 j1 = 0 ↔ j1 < (34359738368 : Int64) := by
  rw [own_z, own_cv5 j1 h, Int64.lt_iff_toInt_lt, show (34359738368 : Int64).toInt = 34359738368 from by decide]; omega
theorem own_cv6 (j1 : Int64) (h : 0 ≤ j1.toInt) : (own_c6 j1).toInt = j1.toInt / 4398046511104 := by
  have p := own_cv5 j1 h
  unfold own_c6
  rw [own_sh7 _ (by rw [p]; omega), p]; omega
theorem own_cz6 (j1 : Int64) (h : 0 ≤ j1.toInt) : own_c6 j1 = 0 ↔ j1 < (4398046511104 : Int64) := by
  rw [own_z, own_cv6 j1 h, Int64.lt_iff_toInt_lt, show (4398046511104 : Int64).toInt = 4398046511104 from by decide]; omega
theorem own_cv7 (j1 : Int64) (h : 0 ≤ j1.toInt) : (own_c7 j1).toInt = j1.toInt / 562949953421312 := by
  have p := own_cv6 j1 h
  unfold own_c7
  rw [own_sh7 _ (by rw [p]; omega), p]; omega
theorem own_cz7 (j1 : Int64) (h : 0 ≤ j1.toInt) : own_c7 j1 = 0 ↔ j1 < (562949953421312 : Int64) := by
  rw [own_z, own_cv7 j1 h, Int64.lt_iff_toInt_lt, show (562949953421312 : Int64).toInt = 562949953421312 from by decide]; omega
theorem own_cv8 (j1 : Int64) (h : 0 ≤ j1.toInt) : (own_c8 j1).toInt = j1.toInt / 72057594037927936 := by
  have p := own_cv7 j1 h
  unfold own_c8
  rw [own_sh7 _ (by rw [p]; omega), p]; omega
theorem own_cz8 (j1 : Int64) (h : 0 ≤ j1.toInt) : own_c8 j1 = 0 ↔ j1 < (72057594037927936 : Int64) := by
  rw [own_z, own_cv8 j1 h, Int64.lt_iff_toInt_lt, show (72057594037927936 : Int64).toInt = 72057594037927936 from by decide]; omega
theorem own_cv9 (j1 : Int64) (h : 0 ≤ j1.toInt) : (own_c9 j1).toInt = j1.toInt / 9223372036854775808 := by
  have p := own_cv8 j1 h
  unfold own_c9
  rw [own_sh7 _ (by rw [p]; omega), p]; omega
theorem own_cz9 (j1 : Int64) (h : 0 ≤ j1.toInt) : own_c9 j1 = 0 := by
  have r := rng64 j1
  rw [own_z, own_cv9 j1 h]; omega
theorem own_g0 (j1 : Int64) (h : 0 ≤ j1.toInt) : XT.ushrL j1 ((7 : Int32) * (0 : Int32)) = j1 := by
  have e : ((7 : Int32) * (0 : Int32)) = Int32.ofNat 0 := by decide
  apply Int64.toInt_inj.mp
  rw [e, own_ushr j1 0 (by decide) h]
  show j1.toInt / 1 = j1.toInt
  omega
theorem own_k0 (j1 : Int64) (h : 0 ≤ j1.toInt) : ((((j1 &&& (127 : Int64)) ||| (128 : Int64)).toInt32.toInt8.toInt32).toInt8.toInt32) = (((XT.ushrL j1 ((7 : Int32) * (0 : Int32)) &&& (127 : Int64)) ||| (128 : Int64)).toInt32.toInt8.toInt32) := by rw [own_g0 j1 h, own_b2]
theorem own_f0 (j1 : Int64) (h : 0 ≤ j1.toInt) (h2 : j1.toInt < 128) : ((j1.toInt32.toInt8.toInt32).toInt8.toInt32) = ((XT.ushrL j1 ((7 : Int32) * (0 : Int32)) &&& (127 : Int64)).toInt32.toInt8.toInt32) := by
  have e : (j1 &&& (127 : Int64)) = j1 := by
    apply Int64.toInt_inj.mp
    rw [c_maskL j1 (127 : Int64) 7 (by decide) (by decide)]
    have p : 0 ≤ j1.toInt := by exact h
    have q : (((2 ^ 7 : Nat)) : Int) = 128 := by decide
    rw [q]; omega
  rw [own_g0 j1 h, e, own_b2]
theorem own_g1 (j1 : Int64) (h : 0 ≤ j1.toInt) : XT.ushrL j1 ((7 : Int32) * (1 : Int32)) = (own_c1 j1) := by
  have e : ((7 : Int32) * (1 : Int32)) = Int32.ofNat 7 := by decide
  apply Int64.toInt_inj.mp
  rw [e, own_ushr j1 7 (by decide) h, own_cv1 j1 h]
  rfl
theorem own_k1 (j1 : Int64) (h : 0 ≤ j1.toInt) : (((((own_c1 j1) &&& (127 : Int64)) ||| (128 : Int64)).toInt32.toInt8.toInt32).toInt8.toInt32) = (((XT.ushrL j1 ((7 : Int32) * (1 : Int32)) &&& (127 : Int64)) ||| (128 : Int64)).toInt32.toInt8.toInt32) := by rw [own_g1 j1 h, own_b2]
theorem own_f1 (j1 : Int64) (h : 0 ≤ j1.toInt) (h2 : (own_c1 j1).toInt < 128) : (((own_c1 j1).toInt32.toInt8.toInt32).toInt8.toInt32) = ((XT.ushrL j1 ((7 : Int32) * (1 : Int32)) &&& (127 : Int64)).toInt32.toInt8.toInt32) := by
  have e : ((own_c1 j1) &&& (127 : Int64)) = (own_c1 j1) := by
    apply Int64.toInt_inj.mp
    rw [c_maskL (own_c1 j1) (127 : Int64) 7 (by decide) (by decide)]
    have p : 0 ≤ (own_c1 j1).toInt := by rw [own_cv1 j1 h]; omega
    have q : (((2 ^ 7 : Nat)) : Int) = 128 := by decide
    rw [q]; omega
  rw [own_g1 j1 h, e, own_b2]
theorem own_g2 (j1 : Int64) (h : 0 ≤ j1.toInt) : XT.ushrL j1 ((7 : Int32) * (2 : Int32)) = (own_c2 j1) := by
  have e : ((7 : Int32) * (2 : Int32)) = Int32.ofNat 14 := by decide
  apply Int64.toInt_inj.mp
  rw [e, own_ushr j1 14 (by decide) h, own_cv2 j1 h]
  rfl
theorem own_k2 (j1 : Int64) (h : 0 ≤ j1.toInt) : (((((own_c2 j1) &&& (127 : Int64)) ||| (128 : Int64)).toInt32.toInt8.toInt32).toInt8.toInt32) = (((XT.ushrL j1 ((7 : Int32) * (2 : Int32)) &&& (127 : Int64)) ||| (128 : Int64)).toInt32.toInt8.toInt32) := by rw [own_g2 j1 h, own_b2]
theorem own_f2 (j1 : Int64) (h : 0 ≤ j1.toInt) (h2 : (own_c2 j1).toInt < 128) : (((own_c2 j1).toInt32.toInt8.toInt32).toInt8.toInt32) = ((XT.ushrL j1 ((7 : Int32) * (2 : Int32)) &&& (127 : Int64)).toInt32.toInt8.toInt32) := by
  have e : ((own_c2 j1) &&& (127 : Int64)) = (own_c2 j1) := by
    apply Int64.toInt_inj.mp
    rw [c_maskL (own_c2 j1) (127 : Int64) 7 (by decide) (by decide)]
    have p : 0 ≤ (own_c2 j1).toInt := by rw [own_cv2 j1 h]; omega
    have q : (((2 ^ 7 : Nat)) : Int) = 128 := by decide
    rw [q]; omega
  rw [own_g2 j1 h, e, own_b2]
theorem own_g3 (j1 : Int64) (h : 0 ≤ j1.toInt) : XT.ushrL j1 ((7 : Int32) * (3 : Int32)) = (own_c3 j1) := by
  have e : ((7 : Int32) * (3 : Int32)) = Int32.ofNat 21 := by decide
  apply Int64.toInt_inj.mp
  rw [e, own_ushr j1 21 (by decide) h, own_cv3 j1 h]
  rfl
theorem own_k3 (j1 : Int64) (h : 0 ≤ j1.toInt) : (((((own_c3 j1) &&& (127 : Int64)) ||| (128 : Int64)).toInt32.toInt8.toInt32).toInt8.toInt32) = (((XT.ushrL j1 ((7 : Int32) * (3 : Int32)) &&& (127 : Int64)) ||| (128 : Int64)).toInt32.toInt8.toInt32) := by rw [own_g3 j1 h, own_b2]
theorem own_f3 (j1 : Int64) (h : 0 ≤ j1.toInt) (h2 : (own_c3 j1).toInt < 128) : (((own_c3 j1).toInt32.toInt8.toInt32).toInt8.toInt32) = ((XT.ushrL j1 ((7 : Int32) * (3 : Int32)) &&& (127 : Int64)).toInt32.toInt8.toInt32) := by
  have e : ((own_c3 j1) &&& (127 : Int64)) = (own_c3 j1) := by
    apply Int64.toInt_inj.mp
    rw [c_maskL (own_c3 j1) (127 : Int64) 7 (by decide) (by decide)]
    have p : 0 ≤ (own_c3 j1).toInt := by rw [own_cv3 j1 h]; omega
    have q : (((2 ^ 7 : Nat)) : Int) = 128 := by decide
    rw [q]; omega
  rw [own_g3 j1 h, e, own_b2]
theorem own_g4 (j1 : Int64) (h : 0 ≤ j1.toInt) : XT.ushrL j1 ((7 : Int32) * (4 : Int32)) = (own_c4 j1) := by
  have e : ((7 : Int32) * (4 : Int32)) = Int32.ofNat 28 := by decide
  apply Int64.toInt_inj.mp
  rw [e, own_ushr j1 28 (by decide) h, own_cv4 j1 h]
  rfl
theorem own_k4 (j1 : Int64) (h : 0 ≤ j1.toInt) : (((((own_c4 j1) &&& (127 : Int64)) ||| (128 : Int64)).toInt32.toInt8.toInt32).toInt8.toInt32) = (((XT.ushrL j1 ((7 : Int32) * (4 : Int32)) &&& (127 : Int64)) ||| (128 : Int64)).toInt32.toInt8.toInt32) := by rw [own_g4 j1 h, own_b2]
theorem own_f4 (j1 : Int64) (h : 0 ≤ j1.toInt) (h2 : (own_c4 j1).toInt < 128) : (((own_c4 j1).toInt32.toInt8.toInt32).toInt8.toInt32) = ((XT.ushrL j1 ((7 : Int32) * (4 : Int32)) &&& (127 : Int64)).toInt32.toInt8.toInt32) := by
  have e : ((own_c4 j1) &&& (127 : Int64)) = (own_c4 j1) := by
    apply Int64.toInt_inj.mp
    rw [c_maskL (own_c4 j1) (127 : Int64) 7 (by decide) (by decide)]
    have p : 0 ≤ (own_c4 j1).toInt := by rw [own_cv4 j1 h]; omega
    have q : (((2 ^ 7 : Nat)) : Int) = 128 := by decide
    rw [q]; omega
  rw [own_g4 j1 h, e, own_b2]
theorem own_g5 (j1 : Int64) (h : 0 ≤ j1.toInt) : XT.ushrL j1 ((7 : Int32) * (5 : Int32)) = (own_c5 j1) := by
  have e : ((7 : Int32) * (5 : Int32)) = Int32.ofNat 35 := by decide
  apply Int64.toInt_inj.mp
  rw [e, own_ushr j1 35 (by decide) h, own_cv5 j1 h]
  rfl
theorem own_k5 (j1 : Int64) (h : 0 ≤ j1.toInt) : (((((own_c5 j1) &&& (127 : Int64)) ||| (128 : Int64)).toInt32.toInt8.toInt32).toInt8.toInt32) = (((XT.ushrL j1 ((7 : Int32) * (5 : Int32)) &&& (127 : Int64)) ||| (128 : Int64)).toInt32.toInt8.toInt32) := by rw [own_g5 j1 h, own_b2]
theorem own_f5 (j1 : Int64) (h : 0 ≤ j1.toInt) (h2 : (own_c5 j1).toInt < 128) : (((own_c5 j1).toInt32.toInt8.toInt32).toInt8.toInt32) = ((XT.ushrL j1 ((7 : Int32) * (5 : Int32)) &&& (127 : Int64)).toInt32.toInt8.toInt32) := by
  have e : ((own_c5 j1) &&& (127 : Int64)) = (own_c5 j1) := by
    apply Int64.toInt_inj.mp
    rw [c_maskL (own_c5 j1) (127 : Int64) 7 (by decide) (by decide)]
    have p : 0 ≤ (own_c5 j1).toInt := by rw [own_cv5 j1 h]; omega
    have q : (((2 ^ 7 : Nat)) : Int) = 128 := by decide
    rw [q]; omega
  rw [own_g5 j1 h, e, own_b2]
theorem own_g6 (j1 : Int64) (h : 0 ≤ j1.toInt) : XT.ushrL j1 ((7 : Int32) * (6 : Int32)) = (own_c6 j1) := by
  have e : ((7 : Int32) * (6 : Int32)) = Int32.ofNat 42 := by decide
  apply Int64.toInt_inj.mp
  rw [e, own_ushr j1 42 (by decide) h, own_cv6 j1 h]
  rfl
theorem own_k6 (j1 : Int64) (h : 0 ≤ j1.toInt) : (((((own_c6 j1) &&& (127 : Int64)) ||| (128 : Int64)).toInt32.toInt8.toInt32).toInt8.toInt32) = (((XT.ushrL j1 ((7 : Int32) * (6 : Int32)) &&& (127 : Int64)) ||| (128 : Int64)).toInt32.toInt8.toInt32) := by rw [own_g6 j1 h, own_b2]
theorem own_f6 (j1 : Int64) (h : 0 ≤ j1.toInt) (h2 : (own_c6 j1).toInt < 128) : (((own_c6 j1).toInt32.toInt8.toInt32).toInt8.toInt32) = ((XT.ushrL j1 ((7 : Int32) * (6 : Int32)) &&& (127 : Int64)).toInt32.toInt8.toInt32) := by
  have e : ((own_c6 j1) &&& (127 : Int64)) = (own_c6 j1) := by
    apply Int64.toInt_inj.mp
    rw [c_maskL (own_c6 j1) (127 : Int64) 7 (by decide) (by decide)]
    have p : 0 ≤ (own_c6 j1).toInt := by rw [own_cv6 j1 h]; omega
    have q : (((2 ^ 7 : Nat)) : Int) = 128 := by decide
    rw [q]; omega
  rw [own_g6 j1 h, e, own_b2]
theorem own_g7 (j1 : Int64) (h : 0 ≤ j1.toInt) : XT.ushrL j1 ((7 : Int32) * (7 : Int32)) = (own_c7 j1) := by
  have e : ((7 : Int32) * (7 : Int32)) = Int32.ofNat 49 := by decide
  apply Int64.toInt_inj.mp
  rw [e, own_ushr j1 49 (by decide) h, own_cv7 j1 h]
  rfl
theorem own_k7 (j1 : Int64) (h : 0 ≤ j1.toInt) : (((((own_c7 j1) &&& (127 : Int64)) ||| (128 : Int64)).toInt32.toInt8.toInt32).toInt8.toInt32) = (((XT.ushrL j1 ((7 : Int32) * (7 : Int32)) &&& (127 : Int64)) ||| (128 : Int64)).toInt32.toInt8.toInt32) := by rw [own_g7 j1 h, own_b2]
theorem own_f7 (j1 : Int64) (h : 0 ≤ j1.toInt) (h2 : (own_c7 j1).toInt < 128) : (((own_c7 j1).toInt32.toInt8.toInt32).toInt8.toInt32) = ((XT.ushrL j1 ((7 : Int32) * (7 : Int32)) &&& (127 : Int64)).toInt32.toInt8.toInt32) := by
  have e : ((own_c7 j1) &&& (127 : Int64)) = (own_c7 j1) := by
    apply Int64.toInt_inj.mp
    rw [c_maskL (own_c7 j1) (127 : Int64) 7 (by decide) (by decide)]
    have p : 0 ≤ (own_c7 j1).toInt := by rw [own_cv7 j1 h]; omega
    have q : (((2 ^ 7 : Nat)) : Int) = 128 := by decide
    rw [q]; omega
  rw [own_g7 j1 h, e, own_b2]
theorem own_g8 (j1 : Int64) (h : 0 ≤ j1.toInt) : XT.ushrL j1 ((7 : Int32) * (8 : Int32)) = (own_c8 j1) := by
  have e : ((7 : Int32) * (8 : Int32)) = Int32.ofNat 56 := by decide
  apply Int64.toInt_inj.mp
  rw [e, own_ushr j1 56 (by decide) h, own_cv8 j1 h]
  rfl
theorem own_k8 (j1 : Int64) (h : 0 ≤ j1.toInt) : (((((own_c8 j1) &&& (127 : Int64)) ||| (128 : Int64)).toInt32.toInt8.toInt32).toInt8.toInt32) = (((XT.ushrL j1 ((7 : Int32) * (8 : Int32)) &&& (127 : Int64)) ||| (128 : Int64)).toInt32.toInt8.toInt32) := by rw [own_g8 j1 h, own_b2]
theorem own_f8 (j1 : Int64) (h : 0 ≤ j1.toInt) (h2 : (own_c8 j1).toInt < 128) : (((own_c8 j1).toInt32.toInt8.toInt32).toInt8.toInt32) = ((XT.ushrL j1 ((7 : Int32) * (8 : Int32)) &&& (127 : Int64)).toInt32.toInt8.toInt32) := by
  have e : ((own_c8 j1) &&& (127 : Int64)) = (own_c8 j1) := by
    apply Int64.toInt_inj.mp
    rw [c_maskL (own_c8 j1) (127 : Int64) 7 (by decide) (by decide)]
    have p : 0 ≤ (own_c8 j1).toInt := by rw [own_cv8 j1 h]; omega
    have q : (((2 ^ 7 : Nat)) : Int) = 128 := by decide
    rw [q]; omega
  rw [own_g8 j1 h, e, own_b2]
def own_all (j1 : Int64) (i1 fl : Int32) (L : List Value) (sz en : Int32) : Prop := en = i1 + sz ∧ (L.getD ((0 : Int32)).toNatClampNeg (.int (0 : Int32)) = .int (own_want j1 (0 : Int32) sz i1 fl)) ∧ (L.getD ((1 : Int32)).toNatClampNeg (.int (0 : Int32)) = .int (own_want j1 (1 : Int32) sz i1 fl)) ∧ (L.getD ((2 : Int32)).toNatClampNeg (.int (0 : Int32)) = .int (own_want j1 (2 : Int32) sz i1 fl)) ∧ (L.getD ((3 : Int32)).toNatClampNeg (.int (0 : Int32)) = .int (own_want j1 (3 : Int32) sz i1 fl)) ∧ (L.getD ((4 : Int32)).toNatClampNeg (.int (0 : Int32)) = .int (own_want j1 (4 : Int32) sz i1 fl)) ∧ (L.getD ((5 : Int32)).toNatClampNeg (.int (0 : Int32)) = .int (own_want j1 (5 : Int32) sz i1 fl)) ∧ (L.getD ((6 : Int32)).toNatClampNeg (.int (0 : Int32)) = .int (own_want j1 (6 : Int32) sz i1 fl)) ∧ (L.getD ((7 : Int32)).toNatClampNeg (.int (0 : Int32)) = .int (own_want j1 (7 : Int32) sz i1 fl)) ∧ (L.getD ((8 : Int32)).toNatClampNeg (.int (0 : Int32)) = .int (own_want j1 (8 : Int32) sz i1 fl)) ∧ (L.getD ((9 : Int32)).toNatClampNeg (.int (0 : Int32)) = .int (own_want j1 (9 : Int32) sz i1 fl)) ∧ (L.getD ((10 : Int32)).toNatClampNeg (.int (0 : Int32)) = .int (own_want j1 (10 : Int32) sz i1 fl)) ∧ (L.getD ((11 : Int32)).toNatClampNeg (.int (0 : Int32)) = .int (own_want j1 (11 : Int32) sz i1 fl)) ∧ (L.getD ((12 : Int32)).toNatClampNeg (.int (0 : Int32)) = .int (own_want j1 (12 : Int32) sz i1 fl)) ∧ (L.getD ((13 : Int32)).toNatClampNeg (.int (0 : Int32)) = .int (own_want j1 (13 : Int32) sz i1 fl)) ∧ (L.getD ((14 : Int32)).toNatClampNeg (.int (0 : Int32)) = .int (own_want j1 (14 : Int32) sz i1 fl)) ∧ (L.getD ((15 : Int32)).toNatClampNeg (.int (0 : Int32)) = .int (own_want j1 (15 : Int32) sz i1 fl))
set_option maxHeartbeats 4000000 in
theorem own_s0 (j1 : Int64) (h : 0 ≤ j1.toInt) (h2 : j1.toInt < 128) (i1 fl : Int32) (hk : i1 = 0 ∨ i1 = 1 ∨ i1 = 2 ∨ i1 = 3) : own_all j1 i1 fl (([(.int fl), (.int fl), (.int fl), (.int fl), (.int fl), (.int fl), (.int fl), (.int fl), (.int fl), (.int fl), (.int fl), (.int fl), (.int fl), (.int fl), (.int fl), (.int fl)] : List Value).set (i1).toNatClampNeg (.int ((j1.toInt32.toInt8.toInt32).toInt8.toInt32))) (1 : Int32) (i1 + (1 : Int32)) := by
  rcases hk with rfl | rfl | rfl | rfl
  · exact ⟨rfl, congrArg Value.int (own_f0 j1 h h2), rfl, rfl, rfl, rfl, rfl, rfl, rfl, rfl, rfl, rfl, rfl, rfl, rfl, rfl, rfl⟩
  · exact ⟨rfl, rfl, congrArg Value.int (own_f0 j1 h h2), rfl, rfl, rfl, rfl, rfl, rfl, rfl, rfl, rfl, rfl, rfl, rfl, rfl, rfl⟩
  · exact ⟨rfl, rfl, rfl, congrArg Value.int (own_f0 j1 h h2), rfl, rfl, rfl, rfl, rfl, rfl, rfl, rfl, rfl, rfl, rfl, rfl, rfl⟩
  · exact ⟨rfl, rfl, rfl, rfl, congrArg Value.int (own_f0 j1 h h2), rfl, rfl, rfl, rfl, rfl, rfl, rfl, rfl, rfl, rfl, rfl, rfl⟩
set_option maxHeartbeats 4000000 in
theorem own_s1 (j1 : Int64) (h : 0 ≤ j1.toInt) (h2 : (own_c1 j1).toInt < 128) (i1 fl : Int32) (hk : i1 = 0 ∨ i1 = 1 ∨ i1 = 2 ∨ i1 = 3) : own_all j1 i1 fl ((([(.int fl), (.int fl), (.int fl), (.int fl), (.int fl), (.int fl), (.int fl), (.int fl), (.int fl), (.int fl), (.int fl), (.int fl), (.int fl), (.int fl), (.int fl), (.int fl)] : List Value).set (i1).toNatClampNeg (.int ((((j1 &&& (127 : Int64)) ||| (128 : Int64)).toInt32.toInt8.toInt32).toInt8.toInt32))).set ((i1 + (1 : Int32))).toNatClampNeg (.int (((own_c1 j1).toInt32.toInt8.toInt32).toInt8.toInt32))) (2 : Int32) ((i1 + (1 : Int32)) + (1 : Int32)) := by
  rcases hk with rfl | rfl | rfl | rfl
  · exact ⟨rfl, congrArg Value.int (own_k0 j1 h), congrArg Value.int (own_f1 j1 h h2), rfl, rfl, rfl, rfl, rfl, rfl, rfl, rfl, rfl, rfl, rfl, rfl, rfl, rfl⟩
  · exact ⟨rfl, rfl, congrArg Value.int (own_k0 j1 h), congrArg Value.int (own_f1 j1 h h2), rfl, rfl, rfl, rfl, rfl, rfl, rfl, rfl, rfl, rfl, rfl, rfl, rfl⟩
  · exact ⟨rfl, rfl, rfl, congrArg Value.int (own_k0 j1 h), congrArg Value.int (own_f1 j1 h h2), rfl, rfl, rfl, rfl, rfl, rfl, rfl, rfl, rfl, rfl, rfl, rfl⟩
  · exact ⟨rfl, rfl, rfl, rfl, congrArg Value.int (own_k0 j1 h), congrArg Value.int (own_f1 j1 h h2), rfl, rfl, rfl, rfl, rfl, rfl, rfl, rfl, rfl, rfl, rfl⟩
set_option maxHeartbeats 4000000 in
theorem own_s2 (j1 : Int64) (h : 0 ≤ j1.toInt) (h2 : (own_c2 j1).toInt < 128) (i1 fl : Int32) (hk : i1 = 0 ∨ i1 = 1 ∨ i1 = 2 ∨ i1 = 3) : own_all j1 i1 fl (((([(.int fl), (.int fl), (.int fl), (.int fl), (.int fl), (.int fl), (.int fl), (.int fl), (.int fl), (.int fl), (.int fl), (.int fl), (.int fl), (.int fl), (.int fl), (.int fl)] : List Value).set (i1).toNatClampNeg (.int ((((j1 &&& (127 : Int64)) ||| (128 : Int64)).toInt32.toInt8.toInt32).toInt8.toInt32))).set ((i1 + (1 : Int32))).toNatClampNeg (.int (((((own_c1 j1) &&& (127 : Int64)) ||| (128 : Int64)).toInt32.toInt8.toInt32).toInt8.toInt32))).set (((i1 + (1 : Int32)) + (1 : Int32))).toNatClampNeg (.int (((own_c2 j1).toInt32.toInt8.toInt32).toInt8.toInt32))) (3 : Int32) (((i1 + (1 : Int32)) + (1 : Int32)) + (1 : Int32)) := by
  rcases hk with rfl | rfl | rfl | rfl
  · exact ⟨rfl, congrArg Value.int (own_k0 j1 h), congrArg Value.int (own_k1 j1 h), congrArg Value.int (own_f2 j1 h h2), rfl, rfl, rfl, rfl, rfl, rfl, rfl, rfl, rfl, rfl, rfl, rfl, rfl⟩
  · exact ⟨rfl, rfl, congrArg Value.int (own_k0 j1 h), congrArg Value.int (own_k1 j1 h), congrArg Value.int (own_f2 j1 h h2), rfl, rfl, rfl, rfl, rfl, rfl, rfl, rfl, rfl, rfl, rfl, rfl⟩
  · exact ⟨rfl, rfl, rfl, congrArg Value.int (own_k0 j1 h), congrArg Value.int (own_k1 j1 h), congrArg Value.int (own_f2 j1 h h2), rfl, rfl, rfl, rfl, rfl, rfl, rfl, rfl, rfl, rfl, rfl⟩
  · exact ⟨rfl, rfl, rfl, rfl, congrArg Value.int (own_k0 j1 h), congrArg Value.int (own_k1 j1 h), congrArg Value.int (own_f2 j1 h h2), rfl, rfl, rfl, rfl, rfl, rfl, rfl, rfl, rfl, rfl⟩
set_option maxHeartbeats 4000000 in
theorem own_s3 (j1 : Int64) (h : 0 ≤ j1.toInt) (h2 : (own_c3 j1).toInt < 128) (i1 fl : Int32) (hk : i1 = 0 ∨ i1 = 1 ∨ i1 = 2 ∨ i1 = 3) : own_all j1 i1 fl ((((([(.int fl), (.int fl), (.int fl), (.int fl), (.int fl), (.int fl), (.int fl), (.int fl), (.int fl), (.int fl), (.int fl), (.int fl), (.int fl), (.int fl), (.int fl), (.int fl)] : List Value).set (i1).toNatClampNeg (.int ((((j1 &&& (127 : Int64)) ||| (128 : Int64)).toInt32.toInt8.toInt32).toInt8.toInt32))).set ((i1 + (1 : Int32))).toNatClampNeg (.int (((((own_c1 j1) &&& (127 : Int64)) ||| (128 : Int64)).toInt32.toInt8.toInt32).toInt8.toInt32))).set (((i1 + (1 : Int32)) + (1 : Int32))).toNatClampNeg (.int (((((own_c2 j1) &&& (127 : Int64)) ||| (128 : Int64)).toInt32.toInt8.toInt32).toInt8.toInt32))).set ((((i1 + (1 : Int32)) + (1 : Int32)) + (1 : Int32))).toNatClampNeg (.int (((own_c3 j1).toInt32.toInt8.toInt32).toInt8.toInt32))) (4 : Int32) ((((i1 + (1 : Int32)) + (1 : Int32)) + (1 : Int32)) + (1 : Int32)) := by
  rcases hk with rfl | rfl | rfl | rfl
  · exact ⟨rfl, congrArg Value.int (own_k0 j1 h), congrArg Value.int (own_k1 j1 h), congrArg Value.int (own_k2 j1 h), congrArg Value.int (own_f3 j1 h h2), rfl, rfl, rfl, rfl, rfl, rfl, rfl, rfl, rfl, rfl, rfl, rfl⟩
  · exact ⟨rfl, rfl, congrArg Value.int (own_k0 j1 h), congrArg Value.int (own_k1 j1 h), congrArg Value.int (own_k2 j1 h), congrArg Value.int (own_f3 j1 h h2), rfl, rfl, rfl, rfl, rfl, rfl, rfl, rfl, rfl, rfl, rfl⟩
  · exact ⟨rfl, rfl, rfl, congrArg Value.int (own_k0 j1 h), congrArg Value.int (own_k1 j1 h), congrArg Value.int (own_k2 j1 h), congrArg Value.int (own_f3 j1 h h2), rfl, rfl, rfl, rfl, rfl, rfl, rfl, rfl, rfl, rfl⟩
  · exact ⟨rfl, rfl, rfl, rfl, congrArg Value.int (own_k0 j1 h), congrArg Value.int (own_k1 j1 h), congrArg Value.int (own_k2 j1 h), congrArg Value.int (own_f3 j1 h h2), rfl, rfl, rfl, rfl, rfl, rfl, rfl, rfl, rfl⟩
set_option maxHeartbeats 4000000 in
theorem own_s4 (j1 : Int64) (h : 0 ≤ j1.toInt) (h2 : (own_c4 j1).toInt < 128) (i1 fl : Int32) (hk : i1 = 0 ∨ i1 = 1 ∨ i1 = 2 ∨ i1 = 3) : own_all j1 i1 fl (((((([(.int fl), (.int fl), (.int fl), (.int fl), (.int fl), (.int fl), (.int fl), (.int fl), (.int fl), (.int fl), (.int fl), (.int fl), (.int fl), (.int fl), (.int fl), (.int fl)] : List Value).set (i1).toNatClampNeg (.int ((((j1 &&& (127 : Int64)) ||| (128 : Int64)).toInt32.toInt8.toInt32).toInt8.toInt32))).set ((i1 + (1 : Int32))).toNatClampNeg (.int (((((own_c1 j1) &&& (127 : Int64)) ||| (128 : Int64)).toInt32.toInt8.toInt32).toInt8.toInt32))).set (((i1 + (1 : Int32)) + (1 : Int32))).toNatClampNeg (.int (((((own_c2 j1) &&& (127 : Int64)) ||| (128 : Int64)).toInt32.toInt8.toInt32).toInt8.toInt32))).set ((((i1 + (1 : Int32)) + (1 : Int32)) + (1 : Int32))).toNatClampNeg (.int (((((own_c3 j1) &&& (127 : Int64)) ||| (128 : Int64)).toInt32.toInt8.toInt32).toInt8.toInt32))).set (((((i1 + (1 : Int32)) + (1 : Int32)) + (1 : Int32)) + (1 : Int32))).toNatClampNeg (.int (((own_c4 j1).toInt32.toInt8.toInt32).toInt8.toInt32))) (5 : Int32) (((((i1 + (1 : Int32)) + (1 : Int32)) + (1 : Int32)) + (1 : Int32)) + (1 : Int32)) := by
  rcases hk with rfl | rfl | rfl | rfl
  · exact ⟨rfl, congrArg Value.int (own_k0 j1 h), congrArg Value.int (own_k1 j1 h), congrArg Value.int (own_k2 j1 h), congrArg Value.int (own_k3 j1 h), congrArg Value.int (own_f4 j1 h h2), rfl, rfl, rfl, rfl, rfl, rfl, rfl, rfl, rfl, rfl, rfl⟩
  · exact ⟨rfl, rfl, congrArg Value.int (own_k0 j1 h), congrArg Value.int (own_k1 j1 h), congrArg Value.int (own_k2 j1 h), congrArg Value.int (own_k3 j1 h), congrArg Value.int (own_f4 j1 h h2), rfl, rfl, rfl, rfl, rfl, rfl, rfl, rfl, rfl, rfl⟩
  · exact ⟨rfl, rfl, rfl, congrArg Value.int (own_k0 j1 h), congrArg Value.int (own_k1 j1 h), congrArg Value.int (own_k2 j1 h), congrArg Value.int (own_k3 j1 h), congrArg Value.int (own_f4 j1 h h2), rfl, rfl, rfl, rfl, rfl, rfl, rfl, rfl, rfl⟩
  · exact ⟨rfl, rfl, rfl, rfl, congrArg Value.int (own_k0 j1 h), congrArg Value.int (own_k1 j1 h), congrArg Value.int (own_k2 j1 h), congrArg Value.int (own_k3 j1 h), congrArg Value.int (own_f4 j1 h h2), rfl, rfl, rfl, rfl, rfl, rfl, rfl, rfl⟩
set_option maxHeartbeats 4000000 in
theorem own_s5 (j1 : Int64) (h : 0 ≤ j1.toInt) (h2 : (own_c5 j1).toInt < 128) (i1 fl : Int32) (hk : i1 = 0 ∨ i1 = 1 ∨ i1 = 2 ∨ i1 = 3) : own_all j1 i1 fl ((((((([(.int fl), (.int fl), (.int fl), (.int fl), (.int fl), (.int fl), (.int fl), (.int fl), (.int fl), (.int fl), (.int fl), (.int fl), (.int fl), (.int fl), (.int fl), (.int fl)] : List Value).set (i1).toNatClampNeg (.int ((((j1 &&& (127 : Int64)) ||| (128 : Int64)).toInt32.toInt8.toInt32).toInt8.toInt32))).set ((i1 + (1 : Int32))).toNatClampNeg (.int (((((own_c1 j1) &&& (127 : Int64)) ||| (128 : Int64)).toInt32.toInt8.toInt32).toInt8.toInt32))).set (((i1 + (1 : Int32)) + (1 : Int32))).toNatClampNeg (.int (((((own_c2 j1) &&& (127 : Int64)) ||| (128 : Int64)).toInt32.toInt8.toInt32).toInt8.toInt32))).set ((((i1 + (1 : Int32)) + (1 : Int32)) + (1 : Int32))).toNatClampNeg (.int (((((own_c3 j1) &&& (127 : Int64)) ||| (128 : Int64)).toInt32.toInt8.toInt32).toInt8.toInt32))).set (((((i1 + (1 : Int32)) + (1 : Int32)) + (1 : Int32)) + (1 : Int32))).toNatClampNeg (.int (((((own_c4 j1) &&& (127 : Int64)) ||| (128 : Int64)).toInt32.toInt8.toInt32).toInt8.toInt32))).set ((((((i1 + (1 : Int32)) + (1 : Int32)) + (1 : Int32)) + (1 : Int32)) + (1 : Int32))).toNatClampNeg (.int (((own_c5 j1).toInt32.toInt8.toInt32).toInt8.toInt32))) (6 : Int32) ((((((i1 + (1 : Int32)) + (1 : Int32)) + (1 : Int32)) + (1 : Int32)) + (1 : Int32)) + (1 : Int32)) := by
  rcases hk with rfl | rfl | rfl | rfl
  · exact ⟨rfl, congrArg Value.int (own_k0 j1 h), congrArg Value.int (own_k1 j1 h), congrArg Value.int (own_k2 j1 h), congrArg Value.int (own_k3 j1 h), congrArg Value.int (own_k4 j1 h), congrArg Value.int (own_f5 j1 h h2), rfl, rfl, rfl, rfl, rfl, rfl, rfl, rfl, rfl, rfl⟩
  · exact ⟨rfl, rfl, congrArg Value.int (own_k0 j1 h), congrArg Value.int (own_k1 j1 h), congrArg Value.int (own_k2 j1 h), congrArg Value.int (own_k3 j1 h), congrArg Value.int (own_k4 j1 h), congrArg Value.int (own_f5 j1 h h2), rfl, rfl, rfl, rfl, rfl, rfl, rfl, rfl, rfl⟩
  · exact ⟨rfl, rfl, rfl, congrArg Value.int (own_k0 j1 h), congrArg Value.int (own_k1 j1 h), congrArg Value.int (own_k2 j1 h), congrArg Value.int (own_k3 j1 h), congrArg Value.int (own_k4 j1 h), congrArg Value.int (own_f5 j1 h h2), rfl, rfl, rfl, rfl, rfl, rfl, rfl, rfl⟩
  · exact ⟨rfl, rfl, rfl, rfl, congrArg Value.int (own_k0 j1 h), congrArg Value.int (own_k1 j1 h), congrArg Value.int (own_k2 j1 h), congrArg Value.int (own_k3 j1 h), congrArg Value.int (own_k4 j1 h), congrArg Value.int (own_f5 j1 h h2), rfl, rfl, rfl, rfl, rfl, rfl, rfl⟩
set_option maxHeartbeats 4000000 in
theorem own_s6 (j1 : Int64) (h : 0 ≤ j1.toInt) (h2 : (own_c6 j1).toInt < 128) (i1 fl : Int32) (hk : i1 = 0 ∨ i1 = 1 ∨ i1 = 2 ∨ i1 = 3) : own_all j1 i1 fl (((((((([(.int fl), (.int fl), (.int fl), (.int fl), (.int fl), (.int fl), (.int fl), (.int fl), (.int fl), (.int fl), (.int fl), (.int fl), (.int fl), (.int fl), (.int fl), (.int fl)] : List Value).set (i1).toNatClampNeg (.int ((((j1 &&& (127 : Int64)) ||| (128 : Int64)).toInt32.toInt8.toInt32).toInt8.toInt32))).set ((i1 + (1 : Int32))).toNatClampNeg (.int (((((own_c1 j1) &&& (127 : Int64)) ||| (128 : Int64)).toInt32.toInt8.toInt32).toInt8.toInt32))).set (((i1 + (1 : Int32)) + (1 : Int32))).toNatClampNeg (.int (((((own_c2 j1) &&& (127 : Int64)) ||| (128 : Int64)).toInt32.toInt8.toInt32).toInt8.toInt32))).set ((((i1 + (1 : Int32)) + (1 : Int32)) + (1 : Int32))).toNatClampNeg (.int (((((own_c3 j1) &&& (127 : Int64)) ||| (128 : Int64)).toInt32.toInt8.toInt32).toInt8.toInt32))).set (((((i1 + (1 : Int32)) + (1 : Int32)) + (1 : Int32)) + (1 : Int32))).toNatClampNeg (.int (((((own_c4 j1) &&& (127 : Int64)) ||| (128 : Int64)).toInt32.toInt8.toInt32).toInt8.toInt32))).set ((((((i1 + (1 : Int32)) + (1 : Int32)) + (1 : Int32)) + (1 : Int32)) + (1 : Int32))).toNatClampNeg (.int (((((own_c5 j1) &&& (127 : Int64)) ||| (128 : Int64)).toInt32.toInt8.toInt32).toInt8.toInt32))).set (((((((i1 + (1 : Int32)) + (1 : Int32)) + (1 : Int32)) + (1 : Int32)) + (1 : Int32)) + (1 : Int32))).toNatClampNeg (.int (((own_c6 j1).toInt32.toInt8.toInt32).toInt8.toInt32))) (7 : Int32) (((((((i1 + (1 : Int32)) + (1 : Int32)) + (1 : Int32)) + (1 : Int32)) + (1 : Int32)) + (1 : Int32)) + (1 : Int32)) := by
  rcases hk with rfl | rfl | rfl | rfl
  · exact ⟨rfl, congrArg Value.int (own_k0 j1 h), congrArg Value.int (own_k1 j1 h), congrArg Value.int (own_k2 j1 h), congrArg Value.int (own_k3 j1 h), congrArg Value.int (own_k4 j1 h), congrArg Value.int (own_k5 j1 h), congrArg Value.int (own_f6 j1 h h2), rfl, rfl, rfl, rfl, rfl, rfl, rfl, rfl, rfl⟩
  · exact ⟨rfl, rfl, congrArg Value.int (own_k0 j1 h), congrArg Value.int (own_k1 j1 h), congrArg Value.int (own_k2 j1 h), congrArg Value.int (own_k3 j1 h), congrArg Value.int (own_k4 j1 h), congrArg Value.int (own_k5 j1 h), congrArg Value.int (own_f6 j1 h h2), rfl, rfl, rfl, rfl, rfl, rfl, rfl, rfl⟩
  · exact ⟨rfl, rfl, rfl, congrArg Value.int (own_k0 j1 h), congrArg Value.int (own_k1 j1 h), congrArg Value.int (own_k2 j1 h), congrArg Value.int (own_k3 j1 h), congrArg Value.int (own_k4 j1 h), congrArg Value.int (own_k5 j1 h), congrArg Value.int (own_f6 j1 h h2), rfl, rfl, rfl, rfl, rfl, rfl, rfl⟩
  · exact ⟨rfl, rfl, rfl, rfl, congrArg Value.int (own_k0 j1 h), congrArg Value.int (own_k1 j1 h), congrArg Value.int (own_k2 j1 h), congrArg Value.int (own_k3 j1 h), congrArg Value.int (own_k4 j1 h), congrArg Value.int (own_k5 j1 h), congrArg Value.int (own_f6 j1 h h2), rfl, rfl, rfl, rfl, rfl, rfl⟩
set_option maxHeartbeats 4000000 in
theorem own_s7 (j1 : Int64) (h : 0 ≤ j1.toInt) (h2 : (own_c7 j1).toInt < 128) (i1 fl : Int32) (hk : i1 = 0 ∨ i1 = 1 ∨ i1 = 2 ∨ i1 = 3) : own_all j1 i1 fl ((((((((([(.int fl), (.int fl), (.int fl), (.int fl), (.int fl), (.int fl), (.int fl), (.int fl), (.int fl), (.int fl), (.int fl), (.int fl), (.int fl), (.int fl), (.int fl), (.int fl)] : List Value).set (i1).toNatClampNeg (.int ((((j1 &&& (127 : Int64)) ||| (128 : Int64)).toInt32.toInt8.toInt32).toInt8.toInt32))).set ((i1 + (1 : Int32))).toNatClampNeg (.int (((((own_c1 j1) &&& (127 : Int64)) ||| (128 : Int64)).toInt32.toInt8.toInt32).toInt8.toInt32))).set (((i1 + (1 : Int32)) + (1 : Int32))).toNatClampNeg (.int (((((own_c2 j1) &&& (127 : Int64)) ||| (128 : Int64)).toInt32.toInt8.toInt32).toInt8.toInt32))).set ((((i1 + (1 : Int32)) + (1 : Int32)) + (1 : Int32))).toNatClampNeg (.int (((((own_c3 j1) &&& (127 : Int64)) ||| (128 : Int64)).toInt32.toInt8.toInt32).toInt8.toInt32))).set (((((i1 + (1 : Int32)) + (1 : Int32)) + (1 : Int32)) + (1 : Int32))).toNatClampNeg (.int (((((own_c4 j1) &&& (127 : Int64)) ||| (128 : Int64)).toInt32.toInt8.toInt32).toInt8.toInt32))).set ((((((i1 + (1 : Int32)) + (1 : Int32)) + (1 : Int32)) + (1 : Int32)) + (1 : Int32))).toNatClampNeg (.int (((((own_c5 j1) &&& (127 : Int64)) ||| (128 : Int64)).toInt32.toInt8.toInt32).toInt8.toInt32))).set (((((((i1 + (1 : Int32)) + (1 : Int32)) + (1 : Int32)) + (1 : Int32)) + (1 : Int32)) + (1 : Int32))).toNatClampNeg (.int (((((own_c6 j1) &&& (127 : Int64)) ||| (128 : Int64)).toInt32.toInt8.toInt32).toInt8.toInt32))).set ((((((((i1 + (1 : Int32)) + (1 : Int32)) + (1 : Int32)) + (1 : Int32)) + (1 : Int32)) + (1 : Int32)) + (1 : Int32))).toNatClampNeg (.int (((own_c7 j1).toInt32.toInt8.toInt32).toInt8.toInt32))) (8 : Int32) ((((((((i1 + (1 : Int32)) + (1 : Int32)) + (1 : Int32)) + (1 : Int32)) + (1 : Int32)) + (1 : Int32)) + (1 : Int32)) + (1 : Int32)) := by
  rcases hk with rfl | rfl | rfl | rfl
  · exact ⟨rfl, congrArg Value.int (own_k0 j1 h), congrArg Value.int (own_k1 j1 h), congrArg Value.int (own_k2 j1 h), congrArg Value.int (own_k3 j1 h), congrArg Value.int (own_k4 j1 h), congrArg Value.int (own_k5 j1 h), congrArg Value.int (own_k6 j1 h), congrArg Value.int (own_f7 j1 h h2), rfl, rfl, rfl, rfl, rfl, rfl, rfl, rfl⟩
  · exact ⟨rfl, rfl, congrArg Value.int (own_k0 j1 h), congrArg Value.int (own_k1 j1 h), congrArg Value.int (own_k2 j1 h), congrArg Value.int (own_k3 j1 h), congrArg Value.int (own_k4 j1 h), congrArg Value.int (own_k5 j1 h), congrArg Value.int (own_k6 j1 h), congrArg Value.int (own_f7 j1 h h2), rfl, rfl, rfl, rfl, rfl, rfl, rfl⟩
  · exact ⟨rfl, rfl, rfl, congrArg Value.int (own_k0 j1 h), congrArg Value.int (own_k1 j1 h), congrArg Value.int (own_k2 j1 h), congrArg Value.int (own_k3 j1 h), congrArg Value.int (own_k4 j1 h), congrArg Value.int (own_k5 j1 h), congrArg Value.int (own_k6 j1 h), congrArg Value.int (own_f7 j1 h h2), rfl, rfl, rfl, rfl, rfl, rfl⟩
  · exact ⟨rfl, rfl, rfl, rfl, congrArg Value.int (own_k0 j1 h), congrArg Value.int (own_k1 j1 h), congrArg Value.int (own_k2 j1 h), congrArg Value.int (own_k3 j1 h), congrArg Value.int (own_k4 j1 h), congrArg Value.int (own_k5 j1 h), congrArg Value.int (own_k6 j1 h), congrArg Value.int (own_f7 j1 h h2), rfl, rfl, rfl, rfl, rfl⟩
set_option maxHeartbeats 4000000 in
theorem own_s8 (j1 : Int64) (h : 0 ≤ j1.toInt) (h2 : (own_c8 j1).toInt < 128) (i1 fl : Int32) (hk : i1 = 0 ∨ i1 = 1 ∨ i1 = 2 ∨ i1 = 3) : own_all j1 i1 fl (((((((((([(.int fl), (.int fl), (.int fl), (.int fl), (.int fl), (.int fl), (.int fl), (.int fl), (.int fl), (.int fl), (.int fl), (.int fl), (.int fl), (.int fl), (.int fl), (.int fl)] : List Value).set (i1).toNatClampNeg (.int ((((j1 &&& (127 : Int64)) ||| (128 : Int64)).toInt32.toInt8.toInt32).toInt8.toInt32))).set ((i1 + (1 : Int32))).toNatClampNeg (.int (((((own_c1 j1) &&& (127 : Int64)) ||| (128 : Int64)).toInt32.toInt8.toInt32).toInt8.toInt32))).set (((i1 + (1 : Int32)) + (1 : Int32))).toNatClampNeg (.int (((((own_c2 j1) &&& (127 : Int64)) ||| (128 : Int64)).toInt32.toInt8.toInt32).toInt8.toInt32))).set ((((i1 + (1 : Int32)) + (1 : Int32)) + (1 : Int32))).toNatClampNeg (.int (((((own_c3 j1) &&& (127 : Int64)) ||| (128 : Int64)).toInt32.toInt8.toInt32).toInt8.toInt32))).set (((((i1 + (1 : Int32)) + (1 : Int32)) + (1 : Int32)) + (1 : Int32))).toNatClampNeg (.int (((((own_c4 j1) &&& (127 : Int64)) ||| (128 : Int64)).toInt32.toInt8.toInt32).toInt8.toInt32))).set ((((((i1 + (1 : Int32)) + (1 : Int32)) + (1 : Int32)) + (1 : Int32)) + (1 : Int32))).toNatClampNeg (.int (((((own_c5 j1) &&& (127 : Int64)) ||| (128 : Int64)).toInt32.toInt8.toInt32).toInt8.toInt32))).set (((((((i1 + (1 : Int32)) + (1 : Int32)) + (1 : Int32)) + (1 : Int32)) + (1 : Int32)) + (1 : Int32))).toNatClampNeg (.int (((((own_c6 j1) &&& (127 : Int64)) ||| (128 : Int64)).toInt32.toInt8.toInt32).toInt8.toInt32))).set ((((((((i1 + (1 : Int32)) + (1 : Int32)) + (1 : Int32)) + (1 : Int32)) + (1 : Int32)) + (1 : Int32)) + (1 : Int32))).toNatClampNeg (.int (((((own_c7 j1) &&& (127 : Int64)) ||| (128 : Int64)).toInt32.toInt8.toInt32).toInt8.toInt32))).set (((((((((i1 + (1 : Int32)) + (1 : Int32)) + (1 : Int32)) + (1 : Int32)) + (1 : Int32)) + (1 : Int32)) + (1 : Int32)) + (1 : Int32))).toNatClampNeg (.int (((own_c8 j1).toInt32.toInt8.toInt32).toInt8.toInt32))) (9 : Int32) (((((((((i1 + (1 : Int32)) + (1 : Int32)) + (1 : Int32)) + (1 : Int32)) + (1 : Int32)) + (1 : Int32)) + (1 : Int32)) + (1 : Int32)) + (1 : Int32)) := by
  rcases hk with rfl | rfl | rfl | rfl
  · exact ⟨rfl, congrArg Value.int (own_k0 j1 h), congrArg Value.int (own_k1 j1 h), congrArg Value.int (own_k2 j1 h), congrArg Value.int (own_k3 j1 h), congrArg Value.int (own_k4 j1 h), congrArg Value.int (own_k5 j1 h), congrArg Value.int (own_k6 j1 h), congrArg Value.int (own_k7 j1 h), congrArg Value.int (own_f8 j1 h h2), rfl, rfl, rfl, rfl, rfl, rfl, rfl⟩
  · exact ⟨rfl, rfl, congrArg Value.int (own_k0 j1 h), congrArg Value.int (own_k1 j1 h), congrArg Value.int (own_k2 j1 h), congrArg Value.int (own_k3 j1 h), congrArg Value.int (own_k4 j1 h), congrArg Value.int (own_k5 j1 h), congrArg Value.int (own_k6 j1 h), congrArg Value.int (own_k7 j1 h), congrArg Value.int (own_f8 j1 h h2), rfl, rfl, rfl, rfl, rfl, rfl⟩
  · exact ⟨rfl, rfl, rfl, congrArg Value.int (own_k0 j1 h), congrArg Value.int (own_k1 j1 h), congrArg Value.int (own_k2 j1 h), congrArg Value.int (own_k3 j1 h), congrArg Value.int (own_k4 j1 h), congrArg Value.int (own_k5 j1 h), congrArg Value.int (own_k6 j1 h), congrArg Value.int (own_k7 j1 h), congrArg Value.int (own_f8 j1 h h2), rfl, rfl, rfl, rfl, rfl⟩
  · exact ⟨rfl, rfl, rfl, rfl, congrArg Value.int (own_k0 j1 h), congrArg Value.int (own_k1 j1 h), congrArg Value.int (own_k2 j1 h), congrArg Value.int (own_k3 j1 h), congrArg Value.int (own_k4 j1 h), congrArg Value.int (own_k5 j1 h), congrArg Value.int (own_k6 j1 h), congrArg Value.int (own_k7 j1 h), congrArg Value.int (own_f8 j1 h h2), rfl, rfl, rfl, rfl⟩
set_option maxHeartbeats 4000000 in
theorem own_final (j1 : Int64) (h : 0 ≤ j1.toInt) (i1 fl : Int32) (hk : i1 = 0 ∨ i1 = 1 ∨ i1 = 2 ∨ i1 = 3) : own_all j1 i1 fl (own_wr j1 i1 ([(.int fl), (.int fl), (.int fl), (.int fl), (.int fl), (.int fl), (.int fl), (.int fl), (.int fl), (.int fl), (.int fl), (.int fl), (.int fl), (.int fl), (.int fl), (.int fl)] : List Value)) (own_size j1) (own_end j1 i1) := by
  have r := rng64 j1
  unfold own_wr own_size own_end
  by_cases h0 : j1 < (128 : Int64)
  · have z0 := (own_cz1 j1 h).mpr h0
    rw [if_pos z0, if_pos h0, if_pos z0]
    refine own_s0 j1 h ?_ i1 fl hk
    have l := Int64.lt_iff_toInt_lt.mp h0
    have e : (128 : Int64).toInt = 128 := by decide
    omega
  have z0 : ¬ own_c1 j1 = 0 := fun q => h0 ((own_cz1 j1 h).mp q)
  rw [if_neg z0, if_neg h0, if_neg z0]
  by_cases h1 : j1 < (16384 : Int64)
  · have z1 := (own_cz2 j1 h).mpr h1
    rw [if_pos z1, if_pos h1, if_pos z1]
    refine own_s1 j1 h ?_ i1 fl hk
    have l := Int64.lt_iff_toInt_lt.mp h1
    have e : (16384 : Int64).toInt = 16384 := by decide
    rw [own_cv1 j1 h]; omega
  have z1 : ¬ own_c2 j1 = 0 := fun q => h1 ((own_cz2 j1 h).mp q)
  rw [if_neg z1, if_neg h1, if_neg z1]
  by_cases h2 : j1 < (2097152 : Int64)
  · have z2 := (own_cz3 j1 h).mpr h2
    rw [if_pos z2, if_pos h2, if_pos z2]
    refine own_s2 j1 h ?_ i1 fl hk
    have l := Int64.lt_iff_toInt_lt.mp h2
    have e : (2097152 : Int64).toInt = 2097152 := by decide
    rw [own_cv2 j1 h]; omega
  have z2 : ¬ own_c3 j1 = 0 := fun q => h2 ((own_cz3 j1 h).mp q)
  rw [if_neg z2, if_neg h2, if_neg z2]
  by_cases h3 : j1 < (268435456 : Int64)
  · have z3 := (own_cz4 j1 h).mpr h3
    rw [if_pos z3, if_pos h3, if_pos z3]
    refine own_s3 j1 h ?_ i1 fl hk
    have l := Int64.lt_iff_toInt_lt.mp h3
    have e : (268435456 : Int64).toInt = 268435456 := by decide
    rw [own_cv3 j1 h]; omega
  have z3 : ¬ own_c4 j1 = 0 := fun q => h3 ((own_cz4 j1 h).mp q)
  rw [if_neg z3, if_neg h3, if_neg z3]
  by_cases h4 : j1 < (34359738368 : Int64)
  · have z4 := (own_cz5 j1 h).mpr h4
    rw [if_pos z4, if_pos h4, if_pos z4]
    refine own_s4 j1 h ?_ i1 fl hk
    have l := Int64.lt_iff_toInt_lt.mp h4
    have e : (34359738368 : Int64).toInt = 34359738368 := by decide
    rw [own_cv4 j1 h]; omega
  have z4 : ¬ own_c5 j1 = 0 := fun q => h4 ((own_cz5 j1 h).mp q)
  rw [if_neg z4, if_neg h4, if_neg z4]
  by_cases h5 : j1 < (4398046511104 : Int64)
  · have z5 := (own_cz6 j1 h).mpr h5
    rw [if_pos z5, if_pos h5, if_pos z5]
    refine own_s5 j1 h ?_ i1 fl hk
    have l := Int64.lt_iff_toInt_lt.mp h5
    have e : (4398046511104 : Int64).toInt = 4398046511104 := by decide
    rw [own_cv5 j1 h]; omega
  have z5 : ¬ own_c6 j1 = 0 := fun q => h5 ((own_cz6 j1 h).mp q)
  rw [if_neg z5, if_neg h5, if_neg z5]
  by_cases h6 : j1 < (562949953421312 : Int64)
  · have z6 := (own_cz7 j1 h).mpr h6
    rw [if_pos z6, if_pos h6, if_pos z6]
    refine own_s6 j1 h ?_ i1 fl hk
    have l := Int64.lt_iff_toInt_lt.mp h6
    have e : (562949953421312 : Int64).toInt = 562949953421312 := by decide
    rw [own_cv6 j1 h]; omega
  have z6 : ¬ own_c7 j1 = 0 := fun q => h6 ((own_cz7 j1 h).mp q)
  rw [if_neg z6, if_neg h6, if_neg z6]
  by_cases h7 : j1 < (72057594037927936 : Int64)
  · have z7 := (own_cz8 j1 h).mpr h7
    rw [if_pos z7, if_pos h7, if_pos z7]
    refine own_s7 j1 h ?_ i1 fl hk
    have l := Int64.lt_iff_toInt_lt.mp h7
    have e : (72057594037927936 : Int64).toInt = 72057594037927936 := by decide
    rw [own_cv7 j1 h]; omega
  have z7 : ¬ own_c8 j1 = 0 := fun q => h7 ((own_cz8 j1 h).mp q)
  rw [if_neg z7, if_neg h7, if_neg z7]
  exact own_s8 j1 h (by rw [own_cv8 j1 h]; omega) i1 fl hk
theorem own_d1_0 : decode method_3_code 0 = .ok (.lload_n 0, 1) := by decide +kernel
theorem own_d1_1 : decode method_3_code 1 = .ok (.ldc2_w 28, 3) := by decide +kernel
theorem own_d1_4 : decode method_3_code 4 = .ok (.lcmp, 1) := by decide +kernel
theorem own_d1_5 : decode method_3_code 5 = .ok (.ifCond .ge 5, 3) := by decide +kernel
theorem own_d1_8 : decode method_3_code 8 = .ok (.iconst 1, 1) := by decide +kernel
theorem own_d1_9 : decode method_3_code 9 = .ok (.ireturn, 1) := by decide +kernel
theorem own_d1_10 : decode method_3_code 10 = .ok (.lload_n 0, 1) := by decide +kernel
theorem own_d1_11 : decode method_3_code 11 = .ok (.ldc2_w 30, 3) := by decide +kernel
theorem own_d1_14 : decode method_3_code 14 = .ok (.lcmp, 1) := by decide +kernel
theorem own_d1_15 : decode method_3_code 15 = .ok (.ifCond .ge 5, 3) := by decide +kernel
theorem own_d1_18 : decode method_3_code 18 = .ok (.iconst 2, 1) := by decide +kernel
theorem own_d1_19 : decode method_3_code 19 = .ok (.ireturn, 1) := by decide +kernel
theorem own_d1_20 : decode method_3_code 20 = .ok (.lload_n 0, 1) := by decide +kernel
theorem own_d1_21 : decode method_3_code 21 = .ok (.ldc2_w 32, 3) := by decide +kernel
theorem own_d1_24 : decode method_3_code 24 = .ok (.lcmp, 1) := by decide +kernel
theorem own_d1_25 : decode method_3_code 25 = .ok (.ifCond .ge 5, 3) := by decide +kernel
theorem own_d1_28 : decode method_3_code 28 = .ok (.iconst 3, 1) := by decide +kernel
theorem own_d1_29 : decode method_3_code 29 = .ok (.ireturn, 1) := by decide +kernel
theorem own_d1_30 : decode method_3_code 30 = .ok (.lload_n 0, 1) := by decide +kernel
theorem own_d1_31 : decode method_3_code 31 = .ok (.ldc2_w 34, 3) := by decide +kernel
theorem own_d1_34 : decode method_3_code 34 = .ok (.lcmp, 1) := by decide +kernel
theorem own_d1_35 : decode method_3_code 35 = .ok (.ifCond .ge 5, 3) := by decide +kernel
theorem own_d1_38 : decode method_3_code 38 = .ok (.iconst 4, 1) := by decide +kernel
theorem own_d1_39 : decode method_3_code 39 = .ok (.ireturn, 1) := by decide +kernel
theorem own_d1_40 : decode method_3_code 40 = .ok (.lload_n 0, 1) := by decide +kernel
theorem own_d1_41 : decode method_3_code 41 = .ok (.ldc2_w 36, 3) := by decide +kernel
theorem own_d1_44 : decode method_3_code 44 = .ok (.lcmp, 1) := by decide +kernel
theorem own_d1_45 : decode method_3_code 45 = .ok (.ifCond .ge 5, 3) := by decide +kernel
theorem own_d1_48 : decode method_3_code 48 = .ok (.iconst 5, 1) := by decide +kernel
theorem own_d1_49 : decode method_3_code 49 = .ok (.ireturn, 1) := by decide +kernel
theorem own_d1_50 : decode method_3_code 50 = .ok (.lload_n 0, 1) := by decide +kernel
theorem own_d1_51 : decode method_3_code 51 = .ok (.ldc2_w 38, 3) := by decide +kernel
theorem own_d1_54 : decode method_3_code 54 = .ok (.lcmp, 1) := by decide +kernel
theorem own_d1_55 : decode method_3_code 55 = .ok (.ifCond .ge 6, 3) := by decide +kernel
theorem own_d1_58 : decode method_3_code 58 = .ok (.bipush 6, 2) := by decide +kernel
theorem own_d1_60 : decode method_3_code 60 = .ok (.ireturn, 1) := by decide +kernel
theorem own_d1_61 : decode method_3_code 61 = .ok (.lload_n 0, 1) := by decide +kernel
theorem own_d1_62 : decode method_3_code 62 = .ok (.ldc2_w 40, 3) := by decide +kernel
theorem own_d1_65 : decode method_3_code 65 = .ok (.lcmp, 1) := by decide +kernel
theorem own_d1_66 : decode method_3_code 66 = .ok (.ifCond .ge 6, 3) := by decide +kernel
theorem own_d1_69 : decode method_3_code 69 = .ok (.bipush 7, 2) := by decide +kernel
theorem own_d1_71 : decode method_3_code 71 = .ok (.ireturn, 1) := by decide +kernel
theorem own_d1_72 : decode method_3_code 72 = .ok (.lload_n 0, 1) := by decide +kernel
theorem own_d1_73 : decode method_3_code 73 = .ok (.ldc2_w 42, 3) := by decide +kernel
theorem own_d1_76 : decode method_3_code 76 = .ok (.lcmp, 1) := by decide +kernel
theorem own_d1_77 : decode method_3_code 77 = .ok (.ifCond .ge 6, 3) := by decide +kernel
theorem own_d1_80 : decode method_3_code 80 = .ok (.bipush 8, 2) := by decide +kernel
theorem own_d1_82 : decode method_3_code 82 = .ok (.ireturn, 1) := by decide +kernel
theorem own_d1_83 : decode method_3_code 83 = .ok (.bipush 9, 2) := by decide +kernel
theorem own_d1_85 : decode method_3_code 85 = .ok (.ireturn, 1) := by decide +kernel
theorem own_pn1 : plainName "com/example/plainsong/plainsong/PackedTextsWriteNumberPinLaw" = true := by first | (simp [plainName, overriddenIn]; done) | decide +kernel
theorem own_ef1 (m : MethodId) (j1 : Int64) : entryFrame m #[(.long j1)] 2 = mkF m 0 #[.val (.long j1), .second] [] := by first | (simp [entryFrame, mkF, argsToLocals, Value.category]; done) | rfl
def own_Q1 (Z : State) (j1 : Int64) (h0 : Heap) (n0 : Nat) (v : Option Value) (h : Heap) (L : List Loc) : Prop := (v = some (.int (own_size j1))) ∧ (Fr n0 L) ∧ (h = h0)
set_option maxRecDepth 65536 in
set_option maxHeartbeats 40000000 in
theorem own_rm1 (l : Launch) (Z : State) (a0 : Array Value) (hw : ∀ d ∈ tables_1, d.before a0 Z = true) (ws : List Jvm.Cond) (j1 : Int64) (h0 : Heap) (n0 : Nat) (Z0 : n0 ≤ h0.size)  :
    MetFree l (⟨"com/example/plainsong/plainsong/PackedTextsWriteNumberPinLaw", "expectedSize", "(J)I"⟩ : MethodName) (head1 (Jvm.Cond.code (⟨"com/example/plainsong/plainsong/PackedTextsWriteNumberPinLaw", "expectedSize", "(J)I"⟩ : MethodName) method_3_code 2 (some .int) :: ws) ({ frames := 0, cells := 0, slots := 0, locals := 0 } : Room)) (fun ar_ U_ => ar_ = #[(.long j1)] ∧ Z.Warmed39 U_.vm ∧ U_.heap = h0) (fun _ _ _ _ _ => True) (fun _ U_ o_ U_' => ∃ v_ L_, o_ = .returned v_ ∧ own_Q1 Z j1 h0 n0 v_ U_'.heap L_ ∧ FrameEnd U_ o_ U_' L_ ({ frames := 0, cells := 0, slots := 0, locals := 0 } : Room).cells ({ frames := 0, cells := 0, slots := 0, locals := 0 } : Room).slots) := by
  refine MetFree.of_bodySF (plainFor_of_name own_pn1) hisR ?_
  intro p e s m args below meth c s₁ Bd hml0 hP hK
  obtain ⟨rfl, hZ, hh⟩ := hP
  have hx := Bd.exec
  have hby := Bd.bytes
  have hml : c.maxLocals = 2 := hml0
  have hown : s.vm.findClass "com/example/plainsong/plainsong/PackedTextsWriteNumberPinLaw" = some m.cls := findClass_of_methodNamed Bd.named
  have hnm := (name_of_methodNamed Bd.named Bd.method).1
  have X0 : Stand p l e ({ frames := 0, cells := 0, slots := 0, locals := 0 } : Room) s m #[(.long j1)] below meth c s₁ [] 0 0 := Stand.of_body Bd
  have e0 : s₁.heap = h0 := by rw [← hh, Bd.state]; rfl
  have N0 := Fr.nil n0
  have pre0 : ∀ t, Steps p.tables e below (s₁.setTop (mkF m 0 #[.val (.long j1), .second] [])) t → Steps p.tables e below (s₁.setTop (entryFrame m #[(.long j1)] 2)) t := fun t k => castTop (own_ef1 m j1) k
  have pre1 : ∀ t, Steps p.tables e below (s₁.setTop (mkF m 5 #[.val (.long j1), .second] [(.int (XT.cmpL j1 (128 : Int64)))])) t → Steps p.tables e below (s₁.setTop (entryFrame m #[(.long j1)] 2)) t := fun t k => pre0 t (by
    show Steps p.tables e below (s₁.setTop (mkF m 0 #[.val (.long j1), .second] [])) _
    refine XT.lloadN X0.here hx rfl (hb hby own_d1_0) rfl ?_
    show Steps p.tables e below (s₁.setTop (mkF m 1 #[.val (.long j1), .second] [(.long j1)])) _
    refine X0.ldc2J hx hown (mvT hZ (hw _ (List.mem_of_getElem? (i := 7) rfl))) (g := (mkF m 1 #[.val (.long j1), .second] [(.long j1)])) rfl (hb hby own_d1_1) ?_
    show Steps p.tables e below (s₁.setTop (mkF m 4 #[.val (.long j1), .second] [(.long (128 : Int64)), (.long j1)])) _
    refine XT.lcmp X0.here hx rfl (hb hby own_d1_4) rfl ?_
    exact k)
  by_cases hl0 : j1 < (128 : Int64)
  · obtain ⟨fs, hr, hrun, hended, hW, hsame⟩ := X0.leave (v := some (.int (1 : Int32))) (fun h => by rw [Bd.returns] at h; cases h)
    refine ⟨_, _, pre1 _ ?_, hrun, hended, _, _, rfl, ?_, ⟨_, rfl⟩, hW, hsame.mono (by decide) (by decide)⟩
    · show Steps p.tables e below (s₁.setTop (mkF m 5 #[.val (.long j1), .second] [(.int (XT.cmpL j1 (128 : Int64)))])) _
      refine XS.ifNo X0.here hx rfl (hb hby own_d1_5) rfl (XT.ll_ge_f hl0) ?_
      show Steps p.tables e below (s₁.setTop (mkF m 8 #[.val (.long j1), .second] [])) _
      refine XT.iconstV X0.here hx rfl (1 : Int32) (hb hby own_d1_8) rfl ?_
      show Steps p.tables e below (s₁.setTop (mkF m 9 #[.val (.long j1), .second] [(.int (1 : Int32))])) _
      exact retOut X0 hx (t := .int) Bd.returns rfl (Or.inl ⟨rfl, Or.inl rfl, _, rfl⟩) (hb hby own_d1_9) hr
    · show own_Q1 Z j1 h0 n0 _ s₁.heap _
      exact ⟨by unfold own_size; rw [if_pos hl0], N0, e0⟩
  · have pre2 : ∀ t, Steps p.tables e below (s₁.setTop (mkF m 15 #[.val (.long j1), .second] [(.int (XT.cmpL j1 (16384 : Int64)))])) t → Steps p.tables e below (s₁.setTop (entryFrame m #[(.long j1)] 2)) t := fun t k => pre1 t (by
      show Steps p.tables e below (s₁.setTop (mkF m 5 #[.val (.long j1), .second] [(.int (XT.cmpL j1 (128 : Int64)))])) _
      refine XS.ifYes X0.here hx rfl (pc0 := 5) (pc' := 10) rfl (hb hby own_d1_5) rfl (XT.ll_ge_t hl0) (by decide) (by decide) ?_
      show Steps p.tables e below (s₁.setTop (mkF m 10 #[.val (.long j1), .second] [])) _
      refine XT.lloadN X0.here hx rfl (hb hby own_d1_10) rfl ?_
      show Steps p.tables e below (s₁.setTop (mkF m 11 #[.val (.long j1), .second] [(.long j1)])) _
      refine X0.ldc2J hx hown (mvT hZ (hw _ (List.mem_of_getElem? (i := 16) rfl))) (g := (mkF m 11 #[.val (.long j1), .second] [(.long j1)])) rfl (hb hby own_d1_11) ?_
      show Steps p.tables e below (s₁.setTop (mkF m 14 #[.val (.long j1), .second] [(.long (16384 : Int64)), (.long j1)])) _
      refine XT.lcmp X0.here hx rfl (hb hby own_d1_14) rfl ?_
      exact k)
    by_cases hl1 : j1 < (16384 : Int64)
    · obtain ⟨fs, hr, hrun, hended, hW, hsame⟩ := X0.leave (v := some (.int (2 : Int32))) (fun h => by rw [Bd.returns] at h; cases h)
      refine ⟨_, _, pre2 _ ?_, hrun, hended, _, _, rfl, ?_, ⟨_, rfl⟩, hW, hsame.mono (by decide) (by decide)⟩
      · show Steps p.tables e below (s₁.setTop (mkF m 15 #[.val (.long j1), .second] [(.int (XT.cmpL j1 (16384 : Int64)))])) _
        refine XS.ifNo X0.here hx rfl (hb hby own_d1_15) rfl (XT.ll_ge_f hl1) ?_
        show Steps p.tables e below (s₁.setTop (mkF m 18 #[.val (.long j1), .second] [])) _
        refine XT.iconstV X0.here hx rfl (2 : Int32) (hb hby own_d1_18) rfl ?_
        show Steps p.tables e below (s₁.setTop (mkF m 19 #[.val (.long j1), .second] [(.int (2 : Int32))])) _
        exact retOut X0 hx (t := .int) Bd.returns rfl (Or.inl ⟨rfl, Or.inl rfl, _, rfl⟩) (hb hby own_d1_19) hr
      · show own_Q1 Z j1 h0 n0 _ s₁.heap _
        exact ⟨by unfold own_size; rw [if_neg hl0, if_pos hl1], N0, e0⟩
    · have pre3 : ∀ t, Steps p.tables e below (s₁.setTop (mkF m 25 #[.val (.long j1), .second] [(.int (XT.cmpL j1 (2097152 : Int64)))])) t → Steps p.tables e below (s₁.setTop (entryFrame m #[(.long j1)] 2)) t := fun t k => pre2 t (by
        show Steps p.tables e below (s₁.setTop (mkF m 15 #[.val (.long j1), .second] [(.int (XT.cmpL j1 (16384 : Int64)))])) _
        refine XS.ifYes X0.here hx rfl (pc0 := 15) (pc' := 20) rfl (hb hby own_d1_15) rfl (XT.ll_ge_t hl1) (by decide) (by decide) ?_
        show Steps p.tables e below (s₁.setTop (mkF m 20 #[.val (.long j1), .second] [])) _
        refine XT.lloadN X0.here hx rfl (hb hby own_d1_20) rfl ?_
        show Steps p.tables e below (s₁.setTop (mkF m 21 #[.val (.long j1), .second] [(.long j1)])) _
        refine X0.ldc2J hx hown (mvT hZ (hw _ (List.mem_of_getElem? (i := 17) rfl))) (g := (mkF m 21 #[.val (.long j1), .second] [(.long j1)])) rfl (hb hby own_d1_21) ?_
        show Steps p.tables e below (s₁.setTop (mkF m 24 #[.val (.long j1), .second] [(.long (2097152 : Int64)), (.long j1)])) _
        refine XT.lcmp X0.here hx rfl (hb hby own_d1_24) rfl ?_
        exact k)
      by_cases hl2 : j1 < (2097152 : Int64)
      · obtain ⟨fs, hr, hrun, hended, hW, hsame⟩ := X0.leave (v := some (.int (3 : Int32))) (fun h => by rw [Bd.returns] at h; cases h)
        refine ⟨_, _, pre3 _ ?_, hrun, hended, _, _, rfl, ?_, ⟨_, rfl⟩, hW, hsame.mono (by decide) (by decide)⟩
        · show Steps p.tables e below (s₁.setTop (mkF m 25 #[.val (.long j1), .second] [(.int (XT.cmpL j1 (2097152 : Int64)))])) _
          refine XS.ifNo X0.here hx rfl (hb hby own_d1_25) rfl (XT.ll_ge_f hl2) ?_
          show Steps p.tables e below (s₁.setTop (mkF m 28 #[.val (.long j1), .second] [])) _
          refine XT.iconstV X0.here hx rfl (3 : Int32) (hb hby own_d1_28) rfl ?_
          show Steps p.tables e below (s₁.setTop (mkF m 29 #[.val (.long j1), .second] [(.int (3 : Int32))])) _
          exact retOut X0 hx (t := .int) Bd.returns rfl (Or.inl ⟨rfl, Or.inl rfl, _, rfl⟩) (hb hby own_d1_29) hr
        · show own_Q1 Z j1 h0 n0 _ s₁.heap _
          exact ⟨by unfold own_size; rw [if_neg hl0, if_neg hl1, if_pos hl2], N0, e0⟩
      · have pre4 : ∀ t, Steps p.tables e below (s₁.setTop (mkF m 35 #[.val (.long j1), .second] [(.int (XT.cmpL j1 (268435456 : Int64)))])) t → Steps p.tables e below (s₁.setTop (entryFrame m #[(.long j1)] 2)) t := fun t k => pre3 t (by
          show Steps p.tables e below (s₁.setTop (mkF m 25 #[.val (.long j1), .second] [(.int (XT.cmpL j1 (2097152 : Int64)))])) _
          refine XS.ifYes X0.here hx rfl (pc0 := 25) (pc' := 30) rfl (hb hby own_d1_25) rfl (XT.ll_ge_t hl2) (by decide) (by decide) ?_
          show Steps p.tables e below (s₁.setTop (mkF m 30 #[.val (.long j1), .second] [])) _
          refine XT.lloadN X0.here hx rfl (hb hby own_d1_30) rfl ?_
          show Steps p.tables e below (s₁.setTop (mkF m 31 #[.val (.long j1), .second] [(.long j1)])) _
          refine X0.ldc2J hx hown (mvT hZ (hw _ (List.mem_of_getElem? (i := 18) rfl))) (g := (mkF m 31 #[.val (.long j1), .second] [(.long j1)])) rfl (hb hby own_d1_31) ?_
          show Steps p.tables e below (s₁.setTop (mkF m 34 #[.val (.long j1), .second] [(.long (268435456 : Int64)), (.long j1)])) _
          refine XT.lcmp X0.here hx rfl (hb hby own_d1_34) rfl ?_
          exact k)
        by_cases hl3 : j1 < (268435456 : Int64)
        · obtain ⟨fs, hr, hrun, hended, hW, hsame⟩ := X0.leave (v := some (.int (4 : Int32))) (fun h => by rw [Bd.returns] at h; cases h)
          refine ⟨_, _, pre4 _ ?_, hrun, hended, _, _, rfl, ?_, ⟨_, rfl⟩, hW, hsame.mono (by decide) (by decide)⟩
          · show Steps p.tables e below (s₁.setTop (mkF m 35 #[.val (.long j1), .second] [(.int (XT.cmpL j1 (268435456 : Int64)))])) _
            refine XS.ifNo X0.here hx rfl (hb hby own_d1_35) rfl (XT.ll_ge_f hl3) ?_
            show Steps p.tables e below (s₁.setTop (mkF m 38 #[.val (.long j1), .second] [])) _
            refine XT.iconstV X0.here hx rfl (4 : Int32) (hb hby own_d1_38) rfl ?_
            show Steps p.tables e below (s₁.setTop (mkF m 39 #[.val (.long j1), .second] [(.int (4 : Int32))])) _
            exact retOut X0 hx (t := .int) Bd.returns rfl (Or.inl ⟨rfl, Or.inl rfl, _, rfl⟩) (hb hby own_d1_39) hr
          · show own_Q1 Z j1 h0 n0 _ s₁.heap _
            exact ⟨by unfold own_size; rw [if_neg hl0, if_neg hl1, if_neg hl2, if_pos hl3], N0, e0⟩
        · have pre5 : ∀ t, Steps p.tables e below (s₁.setTop (mkF m 45 #[.val (.long j1), .second] [(.int (XT.cmpL j1 (34359738368 : Int64)))])) t → Steps p.tables e below (s₁.setTop (entryFrame m #[(.long j1)] 2)) t := fun t k => pre4 t (by
            show Steps p.tables e below (s₁.setTop (mkF m 35 #[.val (.long j1), .second] [(.int (XT.cmpL j1 (268435456 : Int64)))])) _
            refine XS.ifYes X0.here hx rfl (pc0 := 35) (pc' := 40) rfl (hb hby own_d1_35) rfl (XT.ll_ge_t hl3) (by decide) (by decide) ?_
            show Steps p.tables e below (s₁.setTop (mkF m 40 #[.val (.long j1), .second] [])) _
            refine XT.lloadN X0.here hx rfl (hb hby own_d1_40) rfl ?_
            show Steps p.tables e below (s₁.setTop (mkF m 41 #[.val (.long j1), .second] [(.long j1)])) _
            refine X0.ldc2J hx hown (mvT hZ (hw _ (List.mem_of_getElem? (i := 19) rfl))) (g := (mkF m 41 #[.val (.long j1), .second] [(.long j1)])) rfl (hb hby own_d1_41) ?_
            show Steps p.tables e below (s₁.setTop (mkF m 44 #[.val (.long j1), .second] [(.long (34359738368 : Int64)), (.long j1)])) _
            refine XT.lcmp X0.here hx rfl (hb hby own_d1_44) rfl ?_
            exact k)
          by_cases hl4 : j1 < (34359738368 : Int64)
          · obtain ⟨fs, hr, hrun, hended, hW, hsame⟩ := X0.leave (v := some (.int (5 : Int32))) (fun h => by rw [Bd.returns] at h; cases h)
            refine ⟨_, _, pre5 _ ?_, hrun, hended, _, _, rfl, ?_, ⟨_, rfl⟩, hW, hsame.mono (by decide) (by decide)⟩
            · show Steps p.tables e below (s₁.setTop (mkF m 45 #[.val (.long j1), .second] [(.int (XT.cmpL j1 (34359738368 : Int64)))])) _
              refine XS.ifNo X0.here hx rfl (hb hby own_d1_45) rfl (XT.ll_ge_f hl4) ?_
              show Steps p.tables e below (s₁.setTop (mkF m 48 #[.val (.long j1), .second] [])) _
              refine XT.iconstV X0.here hx rfl (5 : Int32) (hb hby own_d1_48) rfl ?_
              show Steps p.tables e below (s₁.setTop (mkF m 49 #[.val (.long j1), .second] [(.int (5 : Int32))])) _
              exact retOut X0 hx (t := .int) Bd.returns rfl (Or.inl ⟨rfl, Or.inl rfl, _, rfl⟩) (hb hby own_d1_49) hr
            · show own_Q1 Z j1 h0 n0 _ s₁.heap _
              exact ⟨by unfold own_size; rw [if_neg hl0, if_neg hl1, if_neg hl2, if_neg hl3, if_pos hl4], N0, e0⟩
          · have pre6 : ∀ t, Steps p.tables e below (s₁.setTop (mkF m 55 #[.val (.long j1), .second] [(.int (XT.cmpL j1 (4398046511104 : Int64)))])) t → Steps p.tables e below (s₁.setTop (entryFrame m #[(.long j1)] 2)) t := fun t k => pre5 t (by
              show Steps p.tables e below (s₁.setTop (mkF m 45 #[.val (.long j1), .second] [(.int (XT.cmpL j1 (34359738368 : Int64)))])) _
              refine XS.ifYes X0.here hx rfl (pc0 := 45) (pc' := 50) rfl (hb hby own_d1_45) rfl (XT.ll_ge_t hl4) (by decide) (by decide) ?_
              show Steps p.tables e below (s₁.setTop (mkF m 50 #[.val (.long j1), .second] [])) _
              refine XT.lloadN X0.here hx rfl (hb hby own_d1_50) rfl ?_
              show Steps p.tables e below (s₁.setTop (mkF m 51 #[.val (.long j1), .second] [(.long j1)])) _
              refine X0.ldc2J hx hown (mvT hZ (hw _ (List.mem_of_getElem? (i := 22) rfl))) (g := (mkF m 51 #[.val (.long j1), .second] [(.long j1)])) rfl (hb hby own_d1_51) ?_
              show Steps p.tables e below (s₁.setTop (mkF m 54 #[.val (.long j1), .second] [(.long (4398046511104 : Int64)), (.long j1)])) _
              refine XT.lcmp X0.here hx rfl (hb hby own_d1_54) rfl ?_
              exact k)
            by_cases hl5 : j1 < (4398046511104 : Int64)
            · obtain ⟨fs, hr, hrun, hended, hW, hsame⟩ := X0.leave (v := some (.int (6 : Int32))) (fun h => by rw [Bd.returns] at h; cases h)
              refine ⟨_, _, pre6 _ ?_, hrun, hended, _, _, rfl, ?_, ⟨_, rfl⟩, hW, hsame.mono (by decide) (by decide)⟩
              · show Steps p.tables e below (s₁.setTop (mkF m 55 #[.val (.long j1), .second] [(.int (XT.cmpL j1 (4398046511104 : Int64)))])) _
                refine XS.ifNo X0.here hx rfl (hb hby own_d1_55) rfl (XT.ll_ge_f hl5) ?_
                show Steps p.tables e below (s₁.setTop (mkF m 58 #[.val (.long j1), .second] [])) _
                refine XT.bipushV X0.here hx rfl (6 : Int32) (hb hby own_d1_58) rfl ?_
                show Steps p.tables e below (s₁.setTop (mkF m 60 #[.val (.long j1), .second] [(.int (6 : Int32))])) _
                exact retOut X0 hx (t := .int) Bd.returns rfl (Or.inl ⟨rfl, Or.inl rfl, _, rfl⟩) (hb hby own_d1_60) hr
              · show own_Q1 Z j1 h0 n0 _ s₁.heap _
                exact ⟨by unfold own_size; rw [if_neg hl0, if_neg hl1, if_neg hl2, if_neg hl3, if_neg hl4, if_pos hl5], N0, e0⟩
            · have pre7 : ∀ t, Steps p.tables e below (s₁.setTop (mkF m 66 #[.val (.long j1), .second] [(.int (XT.cmpL j1 (562949953421312 : Int64)))])) t → Steps p.tables e below (s₁.setTop (entryFrame m #[(.long j1)] 2)) t := fun t k => pre6 t (by
                show Steps p.tables e below (s₁.setTop (mkF m 55 #[.val (.long j1), .second] [(.int (XT.cmpL j1 (4398046511104 : Int64)))])) _
                refine XS.ifYes X0.here hx rfl (pc0 := 55) (pc' := 61) rfl (hb hby own_d1_55) rfl (XT.ll_ge_t hl5) (by decide) (by decide) ?_
                show Steps p.tables e below (s₁.setTop (mkF m 61 #[.val (.long j1), .second] [])) _
                refine XT.lloadN X0.here hx rfl (hb hby own_d1_61) rfl ?_
                show Steps p.tables e below (s₁.setTop (mkF m 62 #[.val (.long j1), .second] [(.long j1)])) _
                refine X0.ldc2J hx hown (mvT hZ (hw _ (List.mem_of_getElem? (i := 23) rfl))) (g := (mkF m 62 #[.val (.long j1), .second] [(.long j1)])) rfl (hb hby own_d1_62) ?_
                show Steps p.tables e below (s₁.setTop (mkF m 65 #[.val (.long j1), .second] [(.long (562949953421312 : Int64)), (.long j1)])) _
                refine XT.lcmp X0.here hx rfl (hb hby own_d1_65) rfl ?_
                exact k)
              by_cases hl6 : j1 < (562949953421312 : Int64)
              · obtain ⟨fs, hr, hrun, hended, hW, hsame⟩ := X0.leave (v := some (.int (7 : Int32))) (fun h => by rw [Bd.returns] at h; cases h)
                refine ⟨_, _, pre7 _ ?_, hrun, hended, _, _, rfl, ?_, ⟨_, rfl⟩, hW, hsame.mono (by decide) (by decide)⟩
                · show Steps p.tables e below (s₁.setTop (mkF m 66 #[.val (.long j1), .second] [(.int (XT.cmpL j1 (562949953421312 : Int64)))])) _
                  refine XS.ifNo X0.here hx rfl (hb hby own_d1_66) rfl (XT.ll_ge_f hl6) ?_
                  show Steps p.tables e below (s₁.setTop (mkF m 69 #[.val (.long j1), .second] [])) _
                  refine XT.bipushV X0.here hx rfl (7 : Int32) (hb hby own_d1_69) rfl ?_
                  show Steps p.tables e below (s₁.setTop (mkF m 71 #[.val (.long j1), .second] [(.int (7 : Int32))])) _
                  exact retOut X0 hx (t := .int) Bd.returns rfl (Or.inl ⟨rfl, Or.inl rfl, _, rfl⟩) (hb hby own_d1_71) hr
                · show own_Q1 Z j1 h0 n0 _ s₁.heap _
                  exact ⟨by unfold own_size; rw [if_neg hl0, if_neg hl1, if_neg hl2, if_neg hl3, if_neg hl4, if_neg hl5, if_pos hl6], N0, e0⟩
              · have pre8 : ∀ t, Steps p.tables e below (s₁.setTop (mkF m 77 #[.val (.long j1), .second] [(.int (XT.cmpL j1 (72057594037927936 : Int64)))])) t → Steps p.tables e below (s₁.setTop (entryFrame m #[(.long j1)] 2)) t := fun t k => pre7 t (by
                  show Steps p.tables e below (s₁.setTop (mkF m 66 #[.val (.long j1), .second] [(.int (XT.cmpL j1 (562949953421312 : Int64)))])) _
                  refine XS.ifYes X0.here hx rfl (pc0 := 66) (pc' := 72) rfl (hb hby own_d1_66) rfl (XT.ll_ge_t hl6) (by decide) (by decide) ?_
                  show Steps p.tables e below (s₁.setTop (mkF m 72 #[.val (.long j1), .second] [])) _
                  refine XT.lloadN X0.here hx rfl (hb hby own_d1_72) rfl ?_
                  show Steps p.tables e below (s₁.setTop (mkF m 73 #[.val (.long j1), .second] [(.long j1)])) _
                  refine X0.ldc2J hx hown (mvT hZ (hw _ (List.mem_of_getElem? (i := 24) rfl))) (g := (mkF m 73 #[.val (.long j1), .second] [(.long j1)])) rfl (hb hby own_d1_73) ?_
                  show Steps p.tables e below (s₁.setTop (mkF m 76 #[.val (.long j1), .second] [(.long (72057594037927936 : Int64)), (.long j1)])) _
                  refine XT.lcmp X0.here hx rfl (hb hby own_d1_76) rfl ?_
                  exact k)
                by_cases hl7 : j1 < (72057594037927936 : Int64)
                · obtain ⟨fs, hr, hrun, hended, hW, hsame⟩ := X0.leave (v := some (.int (8 : Int32))) (fun h => by rw [Bd.returns] at h; cases h)
                  refine ⟨_, _, pre8 _ ?_, hrun, hended, _, _, rfl, ?_, ⟨_, rfl⟩, hW, hsame.mono (by decide) (by decide)⟩
                  · show Steps p.tables e below (s₁.setTop (mkF m 77 #[.val (.long j1), .second] [(.int (XT.cmpL j1 (72057594037927936 : Int64)))])) _
                    refine XS.ifNo X0.here hx rfl (hb hby own_d1_77) rfl (XT.ll_ge_f hl7) ?_
                    show Steps p.tables e below (s₁.setTop (mkF m 80 #[.val (.long j1), .second] [])) _
                    refine XT.bipushV X0.here hx rfl (8 : Int32) (hb hby own_d1_80) rfl ?_
                    show Steps p.tables e below (s₁.setTop (mkF m 82 #[.val (.long j1), .second] [(.int (8 : Int32))])) _
                    exact retOut X0 hx (t := .int) Bd.returns rfl (Or.inl ⟨rfl, Or.inl rfl, _, rfl⟩) (hb hby own_d1_82) hr
                  · show own_Q1 Z j1 h0 n0 _ s₁.heap _
                    exact ⟨by unfold own_size; rw [if_neg hl0, if_neg hl1, if_neg hl2, if_neg hl3, if_neg hl4, if_neg hl5, if_neg hl6, if_pos hl7], N0, e0⟩
                · obtain ⟨fs, hr, hrun, hended, hW, hsame⟩ := X0.leave (v := some (.int (9 : Int32))) (fun h => by rw [Bd.returns] at h; cases h)
                  refine ⟨_, _, pre8 _ ?_, hrun, hended, _, _, rfl, ?_, ⟨_, rfl⟩, hW, hsame.mono (by decide) (by decide)⟩
                  · show Steps p.tables e below (s₁.setTop (mkF m 77 #[.val (.long j1), .second] [(.int (XT.cmpL j1 (72057594037927936 : Int64)))])) _
                    refine XS.ifYes X0.here hx rfl (pc0 := 77) (pc' := 83) rfl (hb hby own_d1_77) rfl (XT.ll_ge_t hl7) (by decide) (by decide) ?_
                    show Steps p.tables e below (s₁.setTop (mkF m 83 #[.val (.long j1), .second] [])) _
                    refine XT.bipushV X0.here hx rfl (9 : Int32) (hb hby own_d1_83) rfl ?_
                    show Steps p.tables e below (s₁.setTop (mkF m 85 #[.val (.long j1), .second] [(.int (9 : Int32))])) _
                    exact retOut X0 hx (t := .int) Bd.returns rfl (Or.inl ⟨rfl, Or.inl rfl, _, rfl⟩) (hb hby own_d1_85) hr
                  · show own_Q1 Z j1 h0 n0 _ s₁.heap _
                    exact ⟨by unfold own_size; rw [if_neg hl0, if_neg hl1, if_neg hl2, if_neg hl3, if_neg hl4, if_neg hl5, if_neg hl6, if_neg hl7], N0, e0⟩
theorem own_d2_0 : decode prog_54_method_10_code 0 = .ok (.iload_n 3, 1) := by decide +kernel
theorem own_d2_1 : decode prog_54_method_10_code 1 = .ok (.istore 4, 2) := by decide +kernel
theorem own_d2_3 : decode prog_54_method_10_code 3 = .ok (.lload_n 0, 1) := by decide +kernel
theorem own_d2_4 : decode prog_54_method_10_code 4 = .ok (.lstore 5, 2) := by decide +kernel
theorem own_d2_6 : decode prog_54_method_10_code 6 = .ok (.lload 5, 2) := by decide +kernel
theorem own_d2_8 : decode prog_54_method_10_code 8 = .ok (.bipush 7, 2) := by decide +kernel
theorem own_d2_10 : decode prog_54_method_10_code 10 = .ok (.lushr, 1) := by decide +kernel
theorem own_d2_11 : decode prog_54_method_10_code 11 = .ok (.lconst 0, 1) := by decide +kernel
theorem own_d2_12 : decode prog_54_method_10_code 12 = .ok (.lcmp, 1) := by decide +kernel
theorem own_d2_13 : decode prog_54_method_10_code 13 = .ok (.ifCond .eq 32, 3) := by decide +kernel
theorem own_d2_16 : decode prog_54_method_10_code 16 = .ok (.aload_n 2, 1) := by decide +kernel
theorem own_d2_17 : decode prog_54_method_10_code 17 = .ok (.iload 4, 2) := by decide +kernel
theorem own_d2_19 : decode prog_54_method_10_code 19 = .ok (.iinc 4 1, 3) := by decide +kernel
theorem own_d2_22 : decode prog_54_method_10_code 22 = .ok (.lload 5, 2) := by decide +kernel
theorem own_d2_24 : decode prog_54_method_10_code 24 = .ok (.ldc2_w 95, 3) := by decide +kernel
theorem own_d2_27 : decode prog_54_method_10_code 27 = .ok (.land, 1) := by decide +kernel
theorem own_d2_28 : decode prog_54_method_10_code 28 = .ok (.ldc2_w 97, 3) := by decide +kernel
theorem own_d2_31 : decode prog_54_method_10_code 31 = .ok (.lor, 1) := by decide +kernel
theorem own_d2_32 : decode prog_54_method_10_code 32 = .ok (.l2i, 1) := by decide +kernel
theorem own_d2_33 : decode prog_54_method_10_code 33 = .ok (.i2b, 1) := by decide +kernel
theorem own_d2_34 : decode prog_54_method_10_code 34 = .ok (.bastore, 1) := by decide +kernel
theorem own_d2_35 : decode prog_54_method_10_code 35 = .ok (.lload 5, 2) := by decide +kernel
theorem own_d2_37 : decode prog_54_method_10_code 37 = .ok (.bipush 7, 2) := by decide +kernel
theorem own_d2_39 : decode prog_54_method_10_code 39 = .ok (.lushr, 1) := by decide +kernel
theorem own_d2_40 : decode prog_54_method_10_code 40 = .ok (.lstore 5, 2) := by decide +kernel
theorem own_d2_42 : decode prog_54_method_10_code 42 = .ok (.goto (-36), 3) := by decide +kernel
theorem own_d2_45 : decode prog_54_method_10_code 45 = .ok (.aload_n 2, 1) := by decide +kernel
theorem own_d2_46 : decode prog_54_method_10_code 46 = .ok (.iload 4, 2) := by decide +kernel
theorem own_d2_48 : decode prog_54_method_10_code 48 = .ok (.iinc 4 1, 3) := by decide +kernel
theorem own_d2_51 : decode prog_54_method_10_code 51 = .ok (.lload 5, 2) := by decide +kernel
theorem own_d2_53 : decode prog_54_method_10_code 53 = .ok (.l2i, 1) := by decide +kernel
theorem own_d2_54 : decode prog_54_method_10_code 54 = .ok (.i2b, 1) := by decide +kernel
theorem own_d2_55 : decode prog_54_method_10_code 55 = .ok (.bastore, 1) := by decide +kernel
theorem own_d2_56 : decode prog_54_method_10_code 56 = .ok (.iload 4, 2) := by decide +kernel
theorem own_d2_58 : decode prog_54_method_10_code 58 = .ok (.ireturn, 1) := by decide +kernel
theorem own_pn2 : plainName "com/example/plainsong/plainsong/PackedTexts" = true := by first | (simp [plainName, overriddenIn]; done) | decide +kernel
theorem own_ef2 (m : MethodId) (j1 : Int64) (a1 : Addr) (i1 : Int32) : entryFrame m #[(.long j1), (.ref a1), (.int i1)] 7 = mkF m 0 #[.val (.long j1), .second, .val (.ref a1), .val (.int i1), .unset, .unset, .unset] [] := by first | (simp [entryFrame, mkF, argsToLocals, Value.category]; done) | rfl
def own_Q2 (Z : State) (j1 : Int64) (a1 : Addr) (i1 : Int32) (kc : ClassId) (vs : List Value) (h0 : Heap) (n0 : Nat) (v : Option Value) (h : Heap) (L : List Loc) : Prop := (v = some (.int (own_end j1 i1))) ∧ (Fr n0 L) ∧ (Keep h0 h [a1]) ∧ (Arv Z h a1 kc .byte (16 : Int32) (own_wr j1 i1 vs) (.int (0 : Int32)))
set_option maxRecDepth 65536 in
set_option maxHeartbeats 40000000 in
theorem own_rm2 (l : Launch) (Z : State) (a0 : Array Value) (hw : ∀ d ∈ tables_1, d.before a0 Z = true) (ws : List Jvm.Cond) (j1 : Int64) (a1 : Addr) (i1 : Int32) (kc : ClassId) (vs : List Value) (h0 : Heap) (n0 : Nat) (Z0 : n0 ≤ h0.size) (P_V_a1 : Arv Z h0 a1 kc .byte (16 : Int32) vs (.int (0 : Int32))) (hlen : vs.length = 16) (g_a1 : n0 ≤ a1) (hz8 : own_c9 j1 = 0) (hin0 : ¬ i1 < 0 ∧ i1 < (16 : Int32)) (hlt0 : (i1).toNatClampNeg < 16) (hin1 : ¬ (i1 + (1 : Int32)) < 0 ∧ (i1 + (1 : Int32)) < (16 : Int32)) (hlt1 : ((i1 + (1 : Int32))).toNatClampNeg < 16) (hin2 : ¬ ((i1 + (1 : Int32)) + (1 : Int32)) < 0 ∧ ((i1 + (1 : Int32)) + (1 : Int32)) < (16 : Int32)) (hlt2 : (((i1 + (1 : Int32)) + (1 : Int32))).toNatClampNeg < 16) (hin3 : ¬ (((i1 + (1 : Int32)) + (1 : Int32)) + (1 : Int32)) < 0 ∧ (((i1 + (1 : Int32)) + (1 : Int32)) + (1 : Int32)) < (16 : Int32)) (hlt3 : ((((i1 + (1 : Int32)) + (1 : Int32)) + (1 : Int32))).toNatClampNeg < 16) (hin4 : ¬ ((((i1 + (1 : Int32)) + (1 : Int32)) + (1 : Int32)) + (1 : Int32)) < 0 ∧ ((((i1 + (1 : Int32)) + (1 : Int32)) + (1 : Int32)) + (1 : Int32)) < (16 : Int32)) (hlt4 : (((((i1 + (1 : Int32)) + (1 : Int32)) + (1 : Int32)) + (1 : Int32))).toNatClampNeg < 16) (hin5 : ¬ (((((i1 + (1 : Int32)) + (1 : Int32)) + (1 : Int32)) + (1 : Int32)) + (1 : Int32)) < 0 ∧ (((((i1 + (1 : Int32)) + (1 : Int32)) + (1 : Int32)) + (1 : Int32)) + (1 : Int32)) < (16 : Int32)) (hlt5 : ((((((i1 + (1 : Int32)) + (1 : Int32)) + (1 : Int32)) + (1 : Int32)) + (1 : Int32))).toNatClampNeg < 16) (hin6 : ¬ ((((((i1 + (1 : Int32)) + (1 : Int32)) + (1 : Int32)) + (1 : Int32)) + (1 : Int32)) + (1 : Int32)) < 0 ∧ ((((((i1 + (1 : Int32)) + (1 : Int32)) + (1 : Int32)) + (1 : Int32)) + (1 : Int32)) + (1 : Int32)) < (16 : Int32)) (hlt6 : (((((((i1 + (1 : Int32)) + (1 : Int32)) + (1 : Int32)) + (1 : Int32)) + (1 : Int32)) + (1 : Int32))).toNatClampNeg < 16) (hin7 : ¬ (((((((i1 + (1 : Int32)) + (1 : Int32)) + (1 : Int32)) + (1 : Int32)) + (1 : Int32)) + (1 : Int32)) + (1 : Int32)) < 0 ∧ (((((((i1 + (1 : Int32)) + (1 : Int32)) + (1 : Int32)) + (1 : Int32)) + (1 : Int32)) + (1 : Int32)) + (1 : Int32)) < (16 : Int32)) (hlt7 : ((((((((i1 + (1 : Int32)) + (1 : Int32)) + (1 : Int32)) + (1 : Int32)) + (1 : Int32)) + (1 : Int32)) + (1 : Int32))).toNatClampNeg < 16) (hin8 : ¬ ((((((((i1 + (1 : Int32)) + (1 : Int32)) + (1 : Int32)) + (1 : Int32)) + (1 : Int32)) + (1 : Int32)) + (1 : Int32)) + (1 : Int32)) < 0 ∧ ((((((((i1 + (1 : Int32)) + (1 : Int32)) + (1 : Int32)) + (1 : Int32)) + (1 : Int32)) + (1 : Int32)) + (1 : Int32)) + (1 : Int32)) < (16 : Int32)) (hlt8 : (((((((((i1 + (1 : Int32)) + (1 : Int32)) + (1 : Int32)) + (1 : Int32)) + (1 : Int32)) + (1 : Int32)) + (1 : Int32)) + (1 : Int32))).toNatClampNeg < 16) :
    MetFree l (⟨"com/example/plainsong/plainsong/PackedTexts", "writeNumber", "(J[BI)I"⟩ : MethodName) (head1 (Jvm.Cond.code (⟨"com/example/plainsong/plainsong/PackedTexts", "writeNumber", "(J[BI)I"⟩ : MethodName) prog_54_method_10_code 7 (some .int) :: ws) ({ frames := 0, cells := 0, slots := 0, locals := 0 } : Room)) (fun ar_ U_ => ar_ = #[(.long j1), (.ref a1), (.int i1)] ∧ Z.Warmed39 U_.vm ∧ U_.heap = h0) (fun _ _ _ _ _ => True) (fun _ U_ o_ U_' => ∃ v_ L_, o_ = .returned v_ ∧ own_Q2 Z j1 a1 i1 kc vs h0 n0 v_ U_'.heap L_ ∧ FrameEnd U_ o_ U_' L_ ({ frames := 0, cells := 0, slots := 0, locals := 0 } : Room).cells ({ frames := 0, cells := 0, slots := 0, locals := 0 } : Room).slots) := by
  refine MetFree.of_bodySF (plainFor_of_name own_pn2) hisR ?_
  intro p e s m args below meth c s₁ Bd hml0 hP hK
  obtain ⟨rfl, hZ, hh⟩ := hP
  have hx := Bd.exec
  have hby := Bd.bytes
  have hml : c.maxLocals = 7 := hml0
  have hown : s.vm.findClass "com/example/plainsong/plainsong/PackedTexts" = some m.cls := findClass_of_methodNamed Bd.named
  have hnm := (name_of_methodNamed Bd.named Bd.method).1
  have X0 : Stand p l e ({ frames := 0, cells := 0, slots := 0, locals := 0 } : Room) s m #[(.long j1), (.ref a1), (.int i1)] below meth c s₁ [] 0 0 := Stand.of_body Bd
  have e0 : s₁.heap = h0 := by rw [← hh, Bd.state]; rfl
  have N0 := Fr.nil n0
  have pre0 : ∀ t, Steps p.tables e below (s₁.setTop (mkF m 0 #[.val (.long j1), .second, .val (.ref a1), .val (.int i1), .unset, .unset, .unset] [])) t → Steps p.tables e below (s₁.setTop (entryFrame m #[(.long j1), (.ref a1), (.int i1)] 7)) t := fun t k => castTop (own_ef2 m j1 a1 i1) k
  have pre1 : ∀ t, Steps p.tables e below (s₁.setTop (mkF m 13 #[.val (.long j1), .second, .val (.ref a1), .val (.int i1), .val (.int i1), .val (.long j1), .second] [(.int (XT.cmpL (own_c1 j1) (0 : Int64)))])) t → Steps p.tables e below (s₁.setTop (entryFrame m #[(.long j1), (.ref a1), (.int i1)] 7)) t := fun t k => pre0 t (by
    show Steps p.tables e below (s₁.setTop (mkF m 0 #[.val (.long j1), .second, .val (.ref a1), .val (.int i1), .unset, .unset, .unset] [])) _
    refine XS.iloadN X0.here hx rfl (hb hby own_d2_0) rfl ?_
    show Steps p.tables e below (s₁.setTop (mkF m 1 #[.val (.long j1), .second, .val (.ref a1), .val (.int i1), .unset, .unset, .unset] [(.int i1)])) _
    refine XS.istore X0.here hx rfl (hb hby own_d2_1) rfl (l' := #[.val (.long j1), .second, .val (.ref a1), .val (.int i1), .val (.int i1), .unset, .unset]) rfl ?_
    show Steps p.tables e below (s₁.setTop (mkF m 3 #[.val (.long j1), .second, .val (.ref a1), .val (.int i1), .val (.int i1), .unset, .unset] [])) _
    refine XT.lloadN X0.here hx rfl (hb hby own_d2_3) rfl ?_
    show Steps p.tables e below (s₁.setTop (mkF m 4 #[.val (.long j1), .second, .val (.ref a1), .val (.int i1), .val (.int i1), .unset, .unset] [(.long j1)])) _
    refine XT.lstore X0.here hx rfl (hb hby own_d2_4) rfl (l' := #[.val (.long j1), .second, .val (.ref a1), .val (.int i1), .val (.int i1), .val (.long j1), .second]) rfl ?_
    show Steps p.tables e below (s₁.setTop (mkF m 6 #[.val (.long j1), .second, .val (.ref a1), .val (.int i1), .val (.int i1), .val (.long j1), .second] [])) _
    refine XT.lload X0.here hx rfl (hb hby own_d2_6) rfl ?_
    show Steps p.tables e below (s₁.setTop (mkF m 8 #[.val (.long j1), .second, .val (.ref a1), .val (.int i1), .val (.int i1), .val (.long j1), .second] [(.long j1)])) _
    refine XT.bipushV X0.here hx rfl (7 : Int32) (hb hby own_d2_8) rfl ?_
    show Steps p.tables e below (s₁.setTop (mkF m 10 #[.val (.long j1), .second, .val (.ref a1), .val (.int i1), .val (.int i1), .val (.long j1), .second] [(.int (7 : Int32)), (.long j1)])) _
    refine XT.lushr X0.here hx rfl (hb hby own_d2_10) rfl ?_
    show Steps p.tables e below (s₁.setTop (mkF m 11 #[.val (.long j1), .second, .val (.ref a1), .val (.int i1), .val (.int i1), .val (.long j1), .second] [(.long (own_c1 j1))])) _
    refine XT.lconstV X0.here hx rfl (0 : Int64) (hb hby own_d2_11) rfl ?_
    show Steps p.tables e below (s₁.setTop (mkF m 12 #[.val (.long j1), .second, .val (.ref a1), .val (.int i1), .val (.int i1), .val (.long j1), .second] [(.long (0 : Int64)), (.long (own_c1 j1))])) _
    refine XT.lcmp X0.here hx rfl (hb hby own_d2_12) rfl ?_
    exact k)
  by_cases hz0 : (own_c1 j1) = (0 : Int64)
  · obtain ⟨cl2, Ar2, Q2, Sz2, Nn2, Ha2, Gf2⟩ := id P_V_a1
    have ghin2 : ¬ (i1 < 0 ∨ cl2.slots.size ≤ (i1).toNatClampNeg) := inb_of Sz2 hin0
    obtain ⟨T3, h3, X3, e3, W3, st3⟩ := stB X0 hx hZ e0 Ar2 (j := i1) ghin2 (g := (mkF m 55 #[.val (.long j1), .second, .val (.ref a1), .val (.int i1), .val (.int (i1 + (1 : Int32))), .val (.long j1), .second] [(.int ((j1.toInt32).toInt8.toInt32)), (.int i1), (.ref a1)])) rfl rfl (hb hby own_d2_55)
    have V3 : Arv Z h3 a1 kc .byte (16 : Int32) (vs.set (i1).toNatClampNeg (.int (((j1.toInt32).toInt8.toInt32).toInt8.toInt32))) (.int (0 : Int32)) := Arv.set Ar2 Q2 Sz2 Nn2 Ha2 Gf2 (fits_nar_byte _) W3 _ rfl (by rw [hlen]; exact hlt0)
    have K3 : Keep h0 h3 [a1] := (Keep.refl h0 [a1]).wr W3 (Or.inl (List.mem_of_getElem? (i := 0) rfl))
    have N3 := Fr.snoc X3 N0 g_a1
    obtain ⟨fs, hr, hrun, hended, hW, hsame⟩ := X3.leave (v := some (.int (i1 + (1 : Int32)))) (fun h => by rw [Bd.returns] at h; cases h)
    refine ⟨_, _, pre1 _ ?_, hrun, hended, _, _, rfl, ?_, ⟨_, rfl⟩, hW, hsame.mono (by decide) (by decide)⟩
    · show Steps p.tables e below (s₁.setTop (mkF m 13 #[.val (.long j1), .second, .val (.ref a1), .val (.int i1), .val (.int i1), .val (.long j1), .second] [(.int (XT.cmpL (own_c1 j1) (0 : Int64)))])) _
      refine XS.ifYes X0.here hx rfl (pc0 := 13) (pc' := 45) rfl (hb hby own_d2_13) rfl (XT.ll_eq_t hz0) (by decide) (by decide) ?_
      show Steps p.tables e below (s₁.setTop (mkF m 45 #[.val (.long j1), .second, .val (.ref a1), .val (.int i1), .val (.int i1), .val (.long j1), .second] [])) _
      refine XS.aloadN X0.here hx rfl (hb hby own_d2_45) rfl rfl ?_
      show Steps p.tables e below (s₁.setTop (mkF m 46 #[.val (.long j1), .second, .val (.ref a1), .val (.int i1), .val (.int i1), .val (.long j1), .second] [(.ref a1)])) _
      refine XS.iload X0.here hx rfl (hb hby own_d2_46) rfl ?_
      show Steps p.tables e below (s₁.setTop (mkF m 48 #[.val (.long j1), .second, .val (.ref a1), .val (.int i1), .val (.int i1), .val (.long j1), .second] [(.int i1), (.ref a1)])) _
      refine XT.iincV X0.here hx rfl (1 : Int32) (hb hby own_d2_48) rfl rfl (l' := #[.val (.long j1), .second, .val (.ref a1), .val (.int i1), .val (.int (i1 + (1 : Int32))), .val (.long j1), .second]) rfl ?_
      show Steps p.tables e below (s₁.setTop (mkF m 51 #[.val (.long j1), .second, .val (.ref a1), .val (.int i1), .val (.int (i1 + (1 : Int32))), .val (.long j1), .second] [(.int i1), (.ref a1)])) _
      refine XT.lload X0.here hx rfl (hb hby own_d2_51) rfl ?_
      show Steps p.tables e below (s₁.setTop (mkF m 53 #[.val (.long j1), .second, .val (.ref a1), .val (.int i1), .val (.int (i1 + (1 : Int32))), .val (.long j1), .second] [(.long j1), (.int i1), (.ref a1)])) _
      refine XT.l2i X0.here hx rfl (hb hby own_d2_53) rfl ?_
      show Steps p.tables e below (s₁.setTop (mkF m 54 #[.val (.long j1), .second, .val (.ref a1), .val (.int i1), .val (.int (i1 + (1 : Int32))), .val (.long j1), .second] [(.int (j1.toInt32)), (.int i1), (.ref a1)])) _
      refine XT.i2b X0.here hx rfl (hb hby own_d2_54) rfl ?_
      show Steps p.tables e below (s₁.setTop (mkF m 55 #[.val (.long j1), .second, .val (.ref a1), .val (.int i1), .val (.int (i1 + (1 : Int32))), .val (.long j1), .second] [(.int ((j1.toInt32).toInt8.toInt32)), (.int i1), (.ref a1)])) _
      refine st3 _ ?_
      show Steps p.tables e below (T3.setTop (mkF m 56 #[.val (.long j1), .second, .val (.ref a1), .val (.int i1), .val (.int (i1 + (1 : Int32))), .val (.long j1), .second] [])) _
      refine XS.iload X3.here hx rfl (hb hby own_d2_56) rfl ?_
      show Steps p.tables e below (T3.setTop (mkF m 58 #[.val (.long j1), .second, .val (.ref a1), .val (.int i1), .val (.int (i1 + (1 : Int32))), .val (.long j1), .second] [(.int (i1 + (1 : Int32)))])) _
      exact retOut X3 hx (t := .int) Bd.returns rfl (Or.inl ⟨rfl, Or.inl rfl, _, rfl⟩) (hb hby own_d2_58) hr
    · show own_Q2 Z j1 a1 i1 kc vs h0 n0 _ T3.heap _
      rw [e3]
      exact ⟨by unfold own_end; rw [if_pos hz0], N3, K3, (by unfold own_wr; rw [if_pos hz0]; exact V3)⟩
  · obtain ⟨cl4, Ar4, Q4, Sz4, Nn4, Ha4, Gf4⟩ := id P_V_a1
    have ghin4 : ¬ (i1 < 0 ∨ cl4.slots.size ≤ (i1).toNatClampNeg) := inb_of Sz4 hin0
    obtain ⟨T5, h5, X5, e5, W5, st5⟩ := stB X0 hx hZ e0 Ar4 (j := i1) ghin4 (g := (mkF m 34 #[.val (.long j1), .second, .val (.ref a1), .val (.int i1), .val (.int (i1 + (1 : Int32))), .val (.long j1), .second] [(.int ((((j1 &&& (127 : Int64)) ||| (128 : Int64)).toInt32).toInt8.toInt32)), (.int i1), (.ref a1)])) rfl rfl (hb hby own_d2_34)
    have V5 : Arv Z h5 a1 kc .byte (16 : Int32) (vs.set (i1).toNatClampNeg (.int (((((j1 &&& (127 : Int64)) ||| (128 : Int64)).toInt32).toInt8.toInt32).toInt8.toInt32))) (.int (0 : Int32)) := Arv.set Ar4 Q4 Sz4 Nn4 Ha4 Gf4 (fits_nar_byte _) W5 _ rfl (by rw [hlen]; exact hlt0)
    have K5 : Keep h0 h5 [a1] := (Keep.refl h0 [a1]).wr W5 (Or.inl (List.mem_of_getElem? (i := 0) rfl))
    have N5 := Fr.snoc X5 N0 g_a1
    have pre6 : ∀ t, Steps p.tables e below (T5.setTop (mkF m 13 #[.val (.long j1), .second, .val (.ref a1), .val (.int i1), .val (.int (i1 + (1 : Int32))), .val (.long (own_c1 j1)), .second] [(.int (XT.cmpL (own_c2 j1) (0 : Int64)))])) t → Steps p.tables e below (s₁.setTop (entryFrame m #[(.long j1), (.ref a1), (.int i1)] 7)) t := fun t k => pre1 t (by
      show Steps p.tables e below (s₁.setTop (mkF m 13 #[.val (.long j1), .second, .val (.ref a1), .val (.int i1), .val (.int i1), .val (.long j1), .second] [(.int (XT.cmpL (own_c1 j1) (0 : Int64)))])) _
      refine XS.ifNo X0.here hx rfl (hb hby own_d2_13) rfl (XT.ll_eq_f hz0) ?_
      show Steps p.tables e below (s₁.setTop (mkF m 16 #[.val (.long j1), .second, .val (.ref a1), .val (.int i1), .val (.int i1), .val (.long j1), .second] [])) _
      refine XS.aloadN X0.here hx rfl (hb hby own_d2_16) rfl rfl ?_
      show Steps p.tables e below (s₁.setTop (mkF m 17 #[.val (.long j1), .second, .val (.ref a1), .val (.int i1), .val (.int i1), .val (.long j1), .second] [(.ref a1)])) _
      refine XS.iload X0.here hx rfl (hb hby own_d2_17) rfl ?_
      show Steps p.tables e below (s₁.setTop (mkF m 19 #[.val (.long j1), .second, .val (.ref a1), .val (.int i1), .val (.int i1), .val (.long j1), .second] [(.int i1), (.ref a1)])) _
      refine XT.iincV X0.here hx rfl (1 : Int32) (hb hby own_d2_19) rfl rfl (l' := #[.val (.long j1), .second, .val (.ref a1), .val (.int i1), .val (.int (i1 + (1 : Int32))), .val (.long j1), .second]) rfl ?_
      show Steps p.tables e below (s₁.setTop (mkF m 22 #[.val (.long j1), .second, .val (.ref a1), .val (.int i1), .val (.int (i1 + (1 : Int32))), .val (.long j1), .second] [(.int i1), (.ref a1)])) _
      refine XT.lload X0.here hx rfl (hb hby own_d2_22) rfl ?_
      show Steps p.tables e below (s₁.setTop (mkF m 24 #[.val (.long j1), .second, .val (.ref a1), .val (.int i1), .val (.int (i1 + (1 : Int32))), .val (.long j1), .second] [(.long j1), (.int i1), (.ref a1)])) _
      refine X0.ldc2J hx hown (mvT hZ (hw _ (List.mem_of_getElem? (i := 20) rfl))) (g := (mkF m 24 #[.val (.long j1), .second, .val (.ref a1), .val (.int i1), .val (.int (i1 + (1 : Int32))), .val (.long j1), .second] [(.long j1), (.int i1), (.ref a1)])) rfl (hb hby own_d2_24) ?_
      show Steps p.tables e below (s₁.setTop (mkF m 27 #[.val (.long j1), .second, .val (.ref a1), .val (.int i1), .val (.int (i1 + (1 : Int32))), .val (.long j1), .second] [(.long (127 : Int64)), (.long j1), (.int i1), (.ref a1)])) _
      refine XT.land X0.here hx rfl (hb hby own_d2_27) rfl ?_
      show Steps p.tables e below (s₁.setTop (mkF m 28 #[.val (.long j1), .second, .val (.ref a1), .val (.int i1), .val (.int (i1 + (1 : Int32))), .val (.long j1), .second] [(.long (j1 &&& (127 : Int64))), (.int i1), (.ref a1)])) _
      refine X0.ldc2J hx hown (mvT hZ (hw _ (List.mem_of_getElem? (i := 21) rfl))) (g := (mkF m 28 #[.val (.long j1), .second, .val (.ref a1), .val (.int i1), .val (.int (i1 + (1 : Int32))), .val (.long j1), .second] [(.long (j1 &&& (127 : Int64))), (.int i1), (.ref a1)])) rfl (hb hby own_d2_28) ?_
      show Steps p.tables e below (s₁.setTop (mkF m 31 #[.val (.long j1), .second, .val (.ref a1), .val (.int i1), .val (.int (i1 + (1 : Int32))), .val (.long j1), .second] [(.long (128 : Int64)), (.long (j1 &&& (127 : Int64))), (.int i1), (.ref a1)])) _
      refine XT.lor X0.here hx rfl (hb hby own_d2_31) rfl ?_
      show Steps p.tables e below (s₁.setTop (mkF m 32 #[.val (.long j1), .second, .val (.ref a1), .val (.int i1), .val (.int (i1 + (1 : Int32))), .val (.long j1), .second] [(.long ((j1 &&& (127 : Int64)) ||| (128 : Int64))), (.int i1), (.ref a1)])) _
      refine XT.l2i X0.here hx rfl (hb hby own_d2_32) rfl ?_
      show Steps p.tables e below (s₁.setTop (mkF m 33 #[.val (.long j1), .second, .val (.ref a1), .val (.int i1), .val (.int (i1 + (1 : Int32))), .val (.long j1), .second] [(.int (((j1 &&& (127 : Int64)) ||| (128 : Int64)).toInt32)), (.int i1), (.ref a1)])) _
      refine XT.i2b X0.here hx rfl (hb hby own_d2_33) rfl ?_
      show Steps p.tables e below (s₁.setTop (mkF m 34 #[.val (.long j1), .second, .val (.ref a1), .val (.int i1), .val (.int (i1 + (1 : Int32))), .val (.long j1), .second] [(.int ((((j1 &&& (127 : Int64)) ||| (128 : Int64)).toInt32).toInt8.toInt32)), (.int i1), (.ref a1)])) _
      refine st5 _ ?_
      show Steps p.tables e below (T5.setTop (mkF m 35 #[.val (.long j1), .second, .val (.ref a1), .val (.int i1), .val (.int (i1 + (1 : Int32))), .val (.long j1), .second] [])) _
      refine XT.lload X5.here hx rfl (hb hby own_d2_35) rfl ?_
      show Steps p.tables e below (T5.setTop (mkF m 37 #[.val (.long j1), .second, .val (.ref a1), .val (.int i1), .val (.int (i1 + (1 : Int32))), .val (.long j1), .second] [(.long j1)])) _
      refine XT.bipushV X5.here hx rfl (7 : Int32) (hb hby own_d2_37) rfl ?_
      show Steps p.tables e below (T5.setTop (mkF m 39 #[.val (.long j1), .second, .val (.ref a1), .val (.int i1), .val (.int (i1 + (1 : Int32))), .val (.long j1), .second] [(.int (7 : Int32)), (.long j1)])) _
      refine XT.lushr X5.here hx rfl (hb hby own_d2_39) rfl ?_
      show Steps p.tables e below (T5.setTop (mkF m 40 #[.val (.long j1), .second, .val (.ref a1), .val (.int i1), .val (.int (i1 + (1 : Int32))), .val (.long j1), .second] [(.long (own_c1 j1))])) _
      refine XT.lstore X5.here hx rfl (hb hby own_d2_40) rfl (l' := #[.val (.long j1), .second, .val (.ref a1), .val (.int i1), .val (.int (i1 + (1 : Int32))), .val (.long (own_c1 j1)), .second]) rfl ?_
      show Steps p.tables e below (T5.setTop (mkF m 42 #[.val (.long j1), .second, .val (.ref a1), .val (.int i1), .val (.int (i1 + (1 : Int32))), .val (.long (own_c1 j1)), .second] [])) _
      refine XS.goto X5.here hx rfl (pc0 := 42) (pc' := 6) rfl (hb hby own_d2_42) (by decide) (by decide) ?_
      show Steps p.tables e below (T5.setTop (mkF m 6 #[.val (.long j1), .second, .val (.ref a1), .val (.int i1), .val (.int (i1 + (1 : Int32))), .val (.long (own_c1 j1)), .second] [])) _
      refine XT.lload X5.here hx rfl (hb hby own_d2_6) rfl ?_
      show Steps p.tables e below (T5.setTop (mkF m 8 #[.val (.long j1), .second, .val (.ref a1), .val (.int i1), .val (.int (i1 + (1 : Int32))), .val (.long (own_c1 j1)), .second] [(.long (own_c1 j1))])) _
      refine XT.bipushV X5.here hx rfl (7 : Int32) (hb hby own_d2_8) rfl ?_
      show Steps p.tables e below (T5.setTop (mkF m 10 #[.val (.long j1), .second, .val (.ref a1), .val (.int i1), .val (.int (i1 + (1 : Int32))), .val (.long (own_c1 j1)), .second] [(.int (7 : Int32)), (.long (own_c1 j1))])) _
      refine XT.lushr X5.here hx rfl (hb hby own_d2_10) rfl ?_
      show Steps p.tables e below (T5.setTop (mkF m 11 #[.val (.long j1), .second, .val (.ref a1), .val (.int i1), .val (.int (i1 + (1 : Int32))), .val (.long (own_c1 j1)), .second] [(.long (own_c2 j1))])) _
      refine XT.lconstV X5.here hx rfl (0 : Int64) (hb hby own_d2_11) rfl ?_
      show Steps p.tables e below (T5.setTop (mkF m 12 #[.val (.long j1), .second, .val (.ref a1), .val (.int i1), .val (.int (i1 + (1 : Int32))), .val (.long (own_c1 j1)), .second] [(.long (0 : Int64)), (.long (own_c2 j1))])) _
      refine XT.lcmp X5.here hx rfl (hb hby own_d2_12) rfl ?_
      exact k)
    by_cases hz1 : (own_c2 j1) = (0 : Int64)
    · obtain ⟨cl7, Ar7, Q7, Sz7, Nn7, Ha7, Gf7⟩ := id V5
      have ghin7 : ¬ ((i1 + (1 : Int32)) < 0 ∨ cl7.slots.size ≤ ((i1 + (1 : Int32))).toNatClampNeg) := inb_of Sz7 hin1
      obtain ⟨T8, h8, X8, e8, W8, st8⟩ := stB X5 hx hZ e5 Ar7 (j := (i1 + (1 : Int32))) ghin7 (g := (mkF m 55 #[.val (.long j1), .second, .val (.ref a1), .val (.int i1), .val (.int ((i1 + (1 : Int32)) + (1 : Int32))), .val (.long (own_c1 j1)), .second] [(.int (((own_c1 j1).toInt32).toInt8.toInt32)), (.int (i1 + (1 : Int32))), (.ref a1)])) rfl rfl (hb hby own_d2_55)
      have V8 : Arv Z h8 a1 kc .byte (16 : Int32) ((vs.set (i1).toNatClampNeg (.int (((((j1 &&& (127 : Int64)) ||| (128 : Int64)).toInt32).toInt8.toInt32).toInt8.toInt32))).set ((i1 + (1 : Int32))).toNatClampNeg (.int ((((own_c1 j1).toInt32).toInt8.toInt32).toInt8.toInt32))) (.int (0 : Int32)) := Arv.set Ar7 Q7 Sz7 Nn7 Ha7 Gf7 (fits_nar_byte _) W8 _ rfl (by simp only [List.length_set]; rw [hlen]; exact hlt1)
      have K8 : Keep h0 h8 [a1] := K5.wr W8 (Or.inl (List.mem_of_getElem? (i := 0) rfl))
      have N8 := Fr.snoc X8 N5 g_a1
      obtain ⟨fs, hr, hrun, hended, hW, hsame⟩ := X8.leave (v := some (.int ((i1 + (1 : Int32)) + (1 : Int32)))) (fun h => by rw [Bd.returns] at h; cases h)
      refine ⟨_, _, pre6 _ ?_, hrun, hended, _, _, rfl, ?_, ⟨_, rfl⟩, hW, hsame.mono (by decide) (by decide)⟩
      · show Steps p.tables e below (T5.setTop (mkF m 13 #[.val (.long j1), .second, .val (.ref a1), .val (.int i1), .val (.int (i1 + (1 : Int32))), .val (.long (own_c1 j1)), .second] [(.int (XT.cmpL (own_c2 j1) (0 : Int64)))])) _
        refine XS.ifYes X5.here hx rfl (pc0 := 13) (pc' := 45) rfl (hb hby own_d2_13) rfl (XT.ll_eq_t hz1) (by decide) (by decide) ?_
        show Steps p.tables e below (T5.setTop (mkF m 45 #[.val (.long j1), .second, .val (.ref a1), .val (.int i1), .val (.int (i1 + (1 : Int32))), .val (.long (own_c1 j1)), .second] [])) _
        refine XS.aloadN X5.here hx rfl (hb hby own_d2_45) rfl rfl ?_
        show Steps p.tables e below (T5.setTop (mkF m 46 #[.val (.long j1), .second, .val (.ref a1), .val (.int i1), .val (.int (i1 + (1 : Int32))), .val (.long (own_c1 j1)), .second] [(.ref a1)])) _
        refine XS.iload X5.here hx rfl (hb hby own_d2_46) rfl ?_
        show Steps p.tables e below (T5.setTop (mkF m 48 #[.val (.long j1), .second, .val (.ref a1), .val (.int i1), .val (.int (i1 + (1 : Int32))), .val (.long (own_c1 j1)), .second] [(.int (i1 + (1 : Int32))), (.ref a1)])) _
        refine XT.iincV X5.here hx rfl (1 : Int32) (hb hby own_d2_48) rfl rfl (l' := #[.val (.long j1), .second, .val (.ref a1), .val (.int i1), .val (.int ((i1 + (1 : Int32)) + (1 : Int32))), .val (.long (own_c1 j1)), .second]) rfl ?_
        show Steps p.tables e below (T5.setTop (mkF m 51 #[.val (.long j1), .second, .val (.ref a1), .val (.int i1), .val (.int ((i1 + (1 : Int32)) + (1 : Int32))), .val (.long (own_c1 j1)), .second] [(.int (i1 + (1 : Int32))), (.ref a1)])) _
        refine XT.lload X5.here hx rfl (hb hby own_d2_51) rfl ?_
        show Steps p.tables e below (T5.setTop (mkF m 53 #[.val (.long j1), .second, .val (.ref a1), .val (.int i1), .val (.int ((i1 + (1 : Int32)) + (1 : Int32))), .val (.long (own_c1 j1)), .second] [(.long (own_c1 j1)), (.int (i1 + (1 : Int32))), (.ref a1)])) _
        refine XT.l2i X5.here hx rfl (hb hby own_d2_53) rfl ?_
        show Steps p.tables e below (T5.setTop (mkF m 54 #[.val (.long j1), .second, .val (.ref a1), .val (.int i1), .val (.int ((i1 + (1 : Int32)) + (1 : Int32))), .val (.long (own_c1 j1)), .second] [(.int ((own_c1 j1).toInt32)), (.int (i1 + (1 : Int32))), (.ref a1)])) _
        refine XT.i2b X5.here hx rfl (hb hby own_d2_54) rfl ?_
        show Steps p.tables e below (T5.setTop (mkF m 55 #[.val (.long j1), .second, .val (.ref a1), .val (.int i1), .val (.int ((i1 + (1 : Int32)) + (1 : Int32))), .val (.long (own_c1 j1)), .second] [(.int (((own_c1 j1).toInt32).toInt8.toInt32)), (.int (i1 + (1 : Int32))), (.ref a1)])) _
        refine st8 _ ?_
        show Steps p.tables e below (T8.setTop (mkF m 56 #[.val (.long j1), .second, .val (.ref a1), .val (.int i1), .val (.int ((i1 + (1 : Int32)) + (1 : Int32))), .val (.long (own_c1 j1)), .second] [])) _
        refine XS.iload X8.here hx rfl (hb hby own_d2_56) rfl ?_
        show Steps p.tables e below (T8.setTop (mkF m 58 #[.val (.long j1), .second, .val (.ref a1), .val (.int i1), .val (.int ((i1 + (1 : Int32)) + (1 : Int32))), .val (.long (own_c1 j1)), .second] [(.int ((i1 + (1 : Int32)) + (1 : Int32)))])) _
        exact retOut X8 hx (t := .int) Bd.returns rfl (Or.inl ⟨rfl, Or.inl rfl, _, rfl⟩) (hb hby own_d2_58) hr
      · show own_Q2 Z j1 a1 i1 kc vs h0 n0 _ T8.heap _
        rw [e8]
        exact ⟨by unfold own_end; rw [if_neg hz0, if_pos hz1], N8, K8, (by unfold own_wr; rw [if_neg hz0, if_pos hz1]; exact V8)⟩
    · obtain ⟨cl9, Ar9, Q9, Sz9, Nn9, Ha9, Gf9⟩ := id V5
      have ghin9 : ¬ ((i1 + (1 : Int32)) < 0 ∨ cl9.slots.size ≤ ((i1 + (1 : Int32))).toNatClampNeg) := inb_of Sz9 hin1
      obtain ⟨T10, h10, X10, e10, W10, st10⟩ := stB X5 hx hZ e5 Ar9 (j := (i1 + (1 : Int32))) ghin9 (g := (mkF m 34 #[.val (.long j1), .second, .val (.ref a1), .val (.int i1), .val (.int ((i1 + (1 : Int32)) + (1 : Int32))), .val (.long (own_c1 j1)), .second] [(.int (((((own_c1 j1) &&& (127 : Int64)) ||| (128 : Int64)).toInt32).toInt8.toInt32)), (.int (i1 + (1 : Int32))), (.ref a1)])) rfl rfl (hb hby own_d2_34)
      have V10 : Arv Z h10 a1 kc .byte (16 : Int32) ((vs.set (i1).toNatClampNeg (.int (((((j1 &&& (127 : Int64)) ||| (128 : Int64)).toInt32).toInt8.toInt32).toInt8.toInt32))).set ((i1 + (1 : Int32))).toNatClampNeg (.int ((((((own_c1 j1) &&& (127 : Int64)) ||| (128 : Int64)).toInt32).toInt8.toInt32).toInt8.toInt32))) (.int (0 : Int32)) := Arv.set Ar9 Q9 Sz9 Nn9 Ha9 Gf9 (fits_nar_byte _) W10 _ rfl (by simp only [List.length_set]; rw [hlen]; exact hlt1)
      have K10 : Keep h0 h10 [a1] := K5.wr W10 (Or.inl (List.mem_of_getElem? (i := 0) rfl))
      have N10 := Fr.snoc X10 N5 g_a1
      have pre11 : ∀ t, Steps p.tables e below (T10.setTop (mkF m 13 #[.val (.long j1), .second, .val (.ref a1), .val (.int i1), .val (.int ((i1 + (1 : Int32)) + (1 : Int32))), .val (.long (own_c2 j1)), .second] [(.int (XT.cmpL (own_c3 j1) (0 : Int64)))])) t → Steps p.tables e below (s₁.setTop (entryFrame m #[(.long j1), (.ref a1), (.int i1)] 7)) t := fun t k => pre6 t (by
        show Steps p.tables e below (T5.setTop (mkF m 13 #[.val (.long j1), .second, .val (.ref a1), .val (.int i1), .val (.int (i1 + (1 : Int32))), .val (.long (own_c1 j1)), .second] [(.int (XT.cmpL (own_c2 j1) (0 : Int64)))])) _
        refine XS.ifNo X5.here hx rfl (hb hby own_d2_13) rfl (XT.ll_eq_f hz1) ?_
        show Steps p.tables e below (T5.setTop (mkF m 16 #[.val (.long j1), .second, .val (.ref a1), .val (.int i1), .val (.int (i1 + (1 : Int32))), .val (.long (own_c1 j1)), .second] [])) _
        refine XS.aloadN X5.here hx rfl (hb hby own_d2_16) rfl rfl ?_
        show Steps p.tables e below (T5.setTop (mkF m 17 #[.val (.long j1), .second, .val (.ref a1), .val (.int i1), .val (.int (i1 + (1 : Int32))), .val (.long (own_c1 j1)), .second] [(.ref a1)])) _
        refine XS.iload X5.here hx rfl (hb hby own_d2_17) rfl ?_
        show Steps p.tables e below (T5.setTop (mkF m 19 #[.val (.long j1), .second, .val (.ref a1), .val (.int i1), .val (.int (i1 + (1 : Int32))), .val (.long (own_c1 j1)), .second] [(.int (i1 + (1 : Int32))), (.ref a1)])) _
        refine XT.iincV X5.here hx rfl (1 : Int32) (hb hby own_d2_19) rfl rfl (l' := #[.val (.long j1), .second, .val (.ref a1), .val (.int i1), .val (.int ((i1 + (1 : Int32)) + (1 : Int32))), .val (.long (own_c1 j1)), .second]) rfl ?_
        show Steps p.tables e below (T5.setTop (mkF m 22 #[.val (.long j1), .second, .val (.ref a1), .val (.int i1), .val (.int ((i1 + (1 : Int32)) + (1 : Int32))), .val (.long (own_c1 j1)), .second] [(.int (i1 + (1 : Int32))), (.ref a1)])) _
        refine XT.lload X5.here hx rfl (hb hby own_d2_22) rfl ?_
        show Steps p.tables e below (T5.setTop (mkF m 24 #[.val (.long j1), .second, .val (.ref a1), .val (.int i1), .val (.int ((i1 + (1 : Int32)) + (1 : Int32))), .val (.long (own_c1 j1)), .second] [(.long (own_c1 j1)), (.int (i1 + (1 : Int32))), (.ref a1)])) _
        refine X5.ldc2J hx hown (mvT hZ (hw _ (List.mem_of_getElem? (i := 20) rfl))) (g := (mkF m 24 #[.val (.long j1), .second, .val (.ref a1), .val (.int i1), .val (.int ((i1 + (1 : Int32)) + (1 : Int32))), .val (.long (own_c1 j1)), .second] [(.long (own_c1 j1)), (.int (i1 + (1 : Int32))), (.ref a1)])) rfl (hb hby own_d2_24) ?_
        show Steps p.tables e below (T5.setTop (mkF m 27 #[.val (.long j1), .second, .val (.ref a1), .val (.int i1), .val (.int ((i1 + (1 : Int32)) + (1 : Int32))), .val (.long (own_c1 j1)), .second] [(.long (127 : Int64)), (.long (own_c1 j1)), (.int (i1 + (1 : Int32))), (.ref a1)])) _
        refine XT.land X5.here hx rfl (hb hby own_d2_27) rfl ?_
        show Steps p.tables e below (T5.setTop (mkF m 28 #[.val (.long j1), .second, .val (.ref a1), .val (.int i1), .val (.int ((i1 + (1 : Int32)) + (1 : Int32))), .val (.long (own_c1 j1)), .second] [(.long ((own_c1 j1) &&& (127 : Int64))), (.int (i1 + (1 : Int32))), (.ref a1)])) _
        refine X5.ldc2J hx hown (mvT hZ (hw _ (List.mem_of_getElem? (i := 21) rfl))) (g := (mkF m 28 #[.val (.long j1), .second, .val (.ref a1), .val (.int i1), .val (.int ((i1 + (1 : Int32)) + (1 : Int32))), .val (.long (own_c1 j1)), .second] [(.long ((own_c1 j1) &&& (127 : Int64))), (.int (i1 + (1 : Int32))), (.ref a1)])) rfl (hb hby own_d2_28) ?_
        show Steps p.tables e below (T5.setTop (mkF m 31 #[.val (.long j1), .second, .val (.ref a1), .val (.int i1), .val (.int ((i1 + (1 : Int32)) + (1 : Int32))), .val (.long (own_c1 j1)), .second] [(.long (128 : Int64)), (.long ((own_c1 j1) &&& (127 : Int64))), (.int (i1 + (1 : Int32))), (.ref a1)])) _
        refine XT.lor X5.here hx rfl (hb hby own_d2_31) rfl ?_
        show Steps p.tables e below (T5.setTop (mkF m 32 #[.val (.long j1), .second, .val (.ref a1), .val (.int i1), .val (.int ((i1 + (1 : Int32)) + (1 : Int32))), .val (.long (own_c1 j1)), .second] [(.long (((own_c1 j1) &&& (127 : Int64)) ||| (128 : Int64))), (.int (i1 + (1 : Int32))), (.ref a1)])) _
        refine XT.l2i X5.here hx rfl (hb hby own_d2_32) rfl ?_
        show Steps p.tables e below (T5.setTop (mkF m 33 #[.val (.long j1), .second, .val (.ref a1), .val (.int i1), .val (.int ((i1 + (1 : Int32)) + (1 : Int32))), .val (.long (own_c1 j1)), .second] [(.int ((((own_c1 j1) &&& (127 : Int64)) ||| (128 : Int64)).toInt32)), (.int (i1 + (1 : Int32))), (.ref a1)])) _
        refine XT.i2b X5.here hx rfl (hb hby own_d2_33) rfl ?_
        show Steps p.tables e below (T5.setTop (mkF m 34 #[.val (.long j1), .second, .val (.ref a1), .val (.int i1), .val (.int ((i1 + (1 : Int32)) + (1 : Int32))), .val (.long (own_c1 j1)), .second] [(.int (((((own_c1 j1) &&& (127 : Int64)) ||| (128 : Int64)).toInt32).toInt8.toInt32)), (.int (i1 + (1 : Int32))), (.ref a1)])) _
        refine st10 _ ?_
        show Steps p.tables e below (T10.setTop (mkF m 35 #[.val (.long j1), .second, .val (.ref a1), .val (.int i1), .val (.int ((i1 + (1 : Int32)) + (1 : Int32))), .val (.long (own_c1 j1)), .second] [])) _
        refine XT.lload X10.here hx rfl (hb hby own_d2_35) rfl ?_
        show Steps p.tables e below (T10.setTop (mkF m 37 #[.val (.long j1), .second, .val (.ref a1), .val (.int i1), .val (.int ((i1 + (1 : Int32)) + (1 : Int32))), .val (.long (own_c1 j1)), .second] [(.long (own_c1 j1))])) _
        refine XT.bipushV X10.here hx rfl (7 : Int32) (hb hby own_d2_37) rfl ?_
        show Steps p.tables e below (T10.setTop (mkF m 39 #[.val (.long j1), .second, .val (.ref a1), .val (.int i1), .val (.int ((i1 + (1 : Int32)) + (1 : Int32))), .val (.long (own_c1 j1)), .second] [(.int (7 : Int32)), (.long (own_c1 j1))])) _
        refine XT.lushr X10.here hx rfl (hb hby own_d2_39) rfl ?_
        show Steps p.tables e below (T10.setTop (mkF m 40 #[.val (.long j1), .second, .val (.ref a1), .val (.int i1), .val (.int ((i1 + (1 : Int32)) + (1 : Int32))), .val (.long (own_c1 j1)), .second] [(.long (own_c2 j1))])) _
        refine XT.lstore X10.here hx rfl (hb hby own_d2_40) rfl (l' := #[.val (.long j1), .second, .val (.ref a1), .val (.int i1), .val (.int ((i1 + (1 : Int32)) + (1 : Int32))), .val (.long (own_c2 j1)), .second]) rfl ?_
        show Steps p.tables e below (T10.setTop (mkF m 42 #[.val (.long j1), .second, .val (.ref a1), .val (.int i1), .val (.int ((i1 + (1 : Int32)) + (1 : Int32))), .val (.long (own_c2 j1)), .second] [])) _
        refine XS.goto X10.here hx rfl (pc0 := 42) (pc' := 6) rfl (hb hby own_d2_42) (by decide) (by decide) ?_
        show Steps p.tables e below (T10.setTop (mkF m 6 #[.val (.long j1), .second, .val (.ref a1), .val (.int i1), .val (.int ((i1 + (1 : Int32)) + (1 : Int32))), .val (.long (own_c2 j1)), .second] [])) _
        refine XT.lload X10.here hx rfl (hb hby own_d2_6) rfl ?_
        show Steps p.tables e below (T10.setTop (mkF m 8 #[.val (.long j1), .second, .val (.ref a1), .val (.int i1), .val (.int ((i1 + (1 : Int32)) + (1 : Int32))), .val (.long (own_c2 j1)), .second] [(.long (own_c2 j1))])) _
        refine XT.bipushV X10.here hx rfl (7 : Int32) (hb hby own_d2_8) rfl ?_
        show Steps p.tables e below (T10.setTop (mkF m 10 #[.val (.long j1), .second, .val (.ref a1), .val (.int i1), .val (.int ((i1 + (1 : Int32)) + (1 : Int32))), .val (.long (own_c2 j1)), .second] [(.int (7 : Int32)), (.long (own_c2 j1))])) _
        refine XT.lushr X10.here hx rfl (hb hby own_d2_10) rfl ?_
        show Steps p.tables e below (T10.setTop (mkF m 11 #[.val (.long j1), .second, .val (.ref a1), .val (.int i1), .val (.int ((i1 + (1 : Int32)) + (1 : Int32))), .val (.long (own_c2 j1)), .second] [(.long (own_c3 j1))])) _
        refine XT.lconstV X10.here hx rfl (0 : Int64) (hb hby own_d2_11) rfl ?_
        show Steps p.tables e below (T10.setTop (mkF m 12 #[.val (.long j1), .second, .val (.ref a1), .val (.int i1), .val (.int ((i1 + (1 : Int32)) + (1 : Int32))), .val (.long (own_c2 j1)), .second] [(.long (0 : Int64)), (.long (own_c3 j1))])) _
        refine XT.lcmp X10.here hx rfl (hb hby own_d2_12) rfl ?_
        exact k)
      by_cases hz2 : (own_c3 j1) = (0 : Int64)
      · obtain ⟨cl12, Ar12, Q12, Sz12, Nn12, Ha12, Gf12⟩ := id V10
        have ghin12 : ¬ (((i1 + (1 : Int32)) + (1 : Int32)) < 0 ∨ cl12.slots.size ≤ (((i1 + (1 : Int32)) + (1 : Int32))).toNatClampNeg) := inb_of Sz12 hin2
        obtain ⟨T13, h13, X13, e13, W13, st13⟩ := stB X10 hx hZ e10 Ar12 (j := ((i1 + (1 : Int32)) + (1 : Int32))) ghin12 (g := (mkF m 55 #[.val (.long j1), .second, .val (.ref a1), .val (.int i1), .val (.int (((i1 + (1 : Int32)) + (1 : Int32)) + (1 : Int32))), .val (.long (own_c2 j1)), .second] [(.int (((own_c2 j1).toInt32).toInt8.toInt32)), (.int ((i1 + (1 : Int32)) + (1 : Int32))), (.ref a1)])) rfl rfl (hb hby own_d2_55)
        have V13 : Arv Z h13 a1 kc .byte (16 : Int32) (((vs.set (i1).toNatClampNeg (.int (((((j1 &&& (127 : Int64)) ||| (128 : Int64)).toInt32).toInt8.toInt32).toInt8.toInt32))).set ((i1 + (1 : Int32))).toNatClampNeg (.int ((((((own_c1 j1) &&& (127 : Int64)) ||| (128 : Int64)).toInt32).toInt8.toInt32).toInt8.toInt32))).set (((i1 + (1 : Int32)) + (1 : Int32))).toNatClampNeg (.int ((((own_c2 j1).toInt32).toInt8.toInt32).toInt8.toInt32))) (.int (0 : Int32)) := Arv.set Ar12 Q12 Sz12 Nn12 Ha12 Gf12 (fits_nar_byte _) W13 _ rfl (by simp only [List.length_set]; rw [hlen]; exact hlt2)
        have K13 : Keep h0 h13 [a1] := K10.wr W13 (Or.inl (List.mem_of_getElem? (i := 0) rfl))
        have N13 := Fr.snoc X13 N10 g_a1
        obtain ⟨fs, hr, hrun, hended, hW, hsame⟩ := X13.leave (v := some (.int (((i1 + (1 : Int32)) + (1 : Int32)) + (1 : Int32)))) (fun h => by rw [Bd.returns] at h; cases h)
        refine ⟨_, _, pre11 _ ?_, hrun, hended, _, _, rfl, ?_, ⟨_, rfl⟩, hW, hsame.mono (by decide) (by decide)⟩
        · show Steps p.tables e below (T10.setTop (mkF m 13 #[.val (.long j1), .second, .val (.ref a1), .val (.int i1), .val (.int ((i1 + (1 : Int32)) + (1 : Int32))), .val (.long (own_c2 j1)), .second] [(.int (XT.cmpL (own_c3 j1) (0 : Int64)))])) _
          refine XS.ifYes X10.here hx rfl (pc0 := 13) (pc' := 45) rfl (hb hby own_d2_13) rfl (XT.ll_eq_t hz2) (by decide) (by decide) ?_
          show Steps p.tables e below (T10.setTop (mkF m 45 #[.val (.long j1), .second, .val (.ref a1), .val (.int i1), .val (.int ((i1 + (1 : Int32)) + (1 : Int32))), .val (.long (own_c2 j1)), .second] [])) _
          refine XS.aloadN X10.here hx rfl (hb hby own_d2_45) rfl rfl ?_
          show Steps p.tables e below (T10.setTop (mkF m 46 #[.val (.long j1), .second, .val (.ref a1), .val (.int i1), .val (.int ((i1 + (1 : Int32)) + (1 : Int32))), .val (.long (own_c2 j1)), .second] [(.ref a1)])) _
          refine XS.iload X10.here hx rfl (hb hby own_d2_46) rfl ?_
          show Steps p.tables e below (T10.setTop (mkF m 48 #[.val (.long j1), .second, .val (.ref a1), .val (.int i1), .val (.int ((i1 + (1 : Int32)) + (1 : Int32))), .val (.long (own_c2 j1)), .second] [(.int ((i1 + (1 : Int32)) + (1 : Int32))), (.ref a1)])) _
          refine XT.iincV X10.here hx rfl (1 : Int32) (hb hby own_d2_48) rfl rfl (l' := #[.val (.long j1), .second, .val (.ref a1), .val (.int i1), .val (.int (((i1 + (1 : Int32)) + (1 : Int32)) + (1 : Int32))), .val (.long (own_c2 j1)), .second]) rfl ?_
          show Steps p.tables e below (T10.setTop (mkF m 51 #[.val (.long j1), .second, .val (.ref a1), .val (.int i1), .val (.int (((i1 + (1 : Int32)) + (1 : Int32)) + (1 : Int32))), .val (.long (own_c2 j1)), .second] [(.int ((i1 + (1 : Int32)) + (1 : Int32))), (.ref a1)])) _
          refine XT.lload X10.here hx rfl (hb hby own_d2_51) rfl ?_
          show Steps p.tables e below (T10.setTop (mkF m 53 #[.val (.long j1), .second, .val (.ref a1), .val (.int i1), .val (.int (((i1 + (1 : Int32)) + (1 : Int32)) + (1 : Int32))), .val (.long (own_c2 j1)), .second] [(.long (own_c2 j1)), (.int ((i1 + (1 : Int32)) + (1 : Int32))), (.ref a1)])) _
          refine XT.l2i X10.here hx rfl (hb hby own_d2_53) rfl ?_
          show Steps p.tables e below (T10.setTop (mkF m 54 #[.val (.long j1), .second, .val (.ref a1), .val (.int i1), .val (.int (((i1 + (1 : Int32)) + (1 : Int32)) + (1 : Int32))), .val (.long (own_c2 j1)), .second] [(.int ((own_c2 j1).toInt32)), (.int ((i1 + (1 : Int32)) + (1 : Int32))), (.ref a1)])) _
          refine XT.i2b X10.here hx rfl (hb hby own_d2_54) rfl ?_
          show Steps p.tables e below (T10.setTop (mkF m 55 #[.val (.long j1), .second, .val (.ref a1), .val (.int i1), .val (.int (((i1 + (1 : Int32)) + (1 : Int32)) + (1 : Int32))), .val (.long (own_c2 j1)), .second] [(.int (((own_c2 j1).toInt32).toInt8.toInt32)), (.int ((i1 + (1 : Int32)) + (1 : Int32))), (.ref a1)])) _
          refine st13 _ ?_
          show Steps p.tables e below (T13.setTop (mkF m 56 #[.val (.long j1), .second, .val (.ref a1), .val (.int i1), .val (.int (((i1 + (1 : Int32)) + (1 : Int32)) + (1 : Int32))), .val (.long (own_c2 j1)), .second] [])) _
          refine XS.iload X13.here hx rfl (hb hby own_d2_56) rfl ?_
          show Steps p.tables e below (T13.setTop (mkF m 58 #[.val (.long j1), .second, .val (.ref a1), .val (.int i1), .val (.int (((i1 + (1 : Int32)) + (1 : Int32)) + (1 : Int32))), .val (.long (own_c2 j1)), .second] [(.int (((i1 + (1 : Int32)) + (1 : Int32)) + (1 : Int32)))])) _
          exact retOut X13 hx (t := .int) Bd.returns rfl (Or.inl ⟨rfl, Or.inl rfl, _, rfl⟩) (hb hby own_d2_58) hr
        · show own_Q2 Z j1 a1 i1 kc vs h0 n0 _ T13.heap _
          rw [e13]
          exact ⟨by unfold own_end; rw [if_neg hz0, if_neg hz1, if_pos hz2], N13, K13, (by unfold own_wr; rw [if_neg hz0, if_neg hz1, if_pos hz2]; exact V13)⟩
      · obtain ⟨cl14, Ar14, Q14, Sz14, Nn14, Ha14, Gf14⟩ := id V10
        have ghin14 : ¬ (((i1 + (1 : Int32)) + (1 : Int32)) < 0 ∨ cl14.slots.size ≤ (((i1 + (1 : Int32)) + (1 : Int32))).toNatClampNeg) := inb_of Sz14 hin2
        obtain ⟨T15, h15, X15, e15, W15, st15⟩ := stB X10 hx hZ e10 Ar14 (j := ((i1 + (1 : Int32)) + (1 : Int32))) ghin14 (g := (mkF m 34 #[.val (.long j1), .second, .val (.ref a1), .val (.int i1), .val (.int (((i1 + (1 : Int32)) + (1 : Int32)) + (1 : Int32))), .val (.long (own_c2 j1)), .second] [(.int (((((own_c2 j1) &&& (127 : Int64)) ||| (128 : Int64)).toInt32).toInt8.toInt32)), (.int ((i1 + (1 : Int32)) + (1 : Int32))), (.ref a1)])) rfl rfl (hb hby own_d2_34)
        have V15 : Arv Z h15 a1 kc .byte (16 : Int32) (((vs.set (i1).toNatClampNeg (.int (((((j1 &&& (127 : Int64)) ||| (128 : Int64)).toInt32).toInt8.toInt32).toInt8.toInt32))).set ((i1 + (1 : Int32))).toNatClampNeg (.int ((((((own_c1 j1) &&& (127 : Int64)) ||| (128 : Int64)).toInt32).toInt8.toInt32).toInt8.toInt32))).set (((i1 + (1 : Int32)) + (1 : Int32))).toNatClampNeg (.int ((((((own_c2 j1) &&& (127 : Int64)) ||| (128 : Int64)).toInt32).toInt8.toInt32).toInt8.toInt32))) (.int (0 : Int32)) := Arv.set Ar14 Q14 Sz14 Nn14 Ha14 Gf14 (fits_nar_byte _) W15 _ rfl (by simp only [List.length_set]; rw [hlen]; exact hlt2)
        have K15 : Keep h0 h15 [a1] := K10.wr W15 (Or.inl (List.mem_of_getElem? (i := 0) rfl))
        have N15 := Fr.snoc X15 N10 g_a1
        have pre16 : ∀ t, Steps p.tables e below (T15.setTop (mkF m 13 #[.val (.long j1), .second, .val (.ref a1), .val (.int i1), .val (.int (((i1 + (1 : Int32)) + (1 : Int32)) + (1 : Int32))), .val (.long (own_c3 j1)), .second] [(.int (XT.cmpL (own_c4 j1) (0 : Int64)))])) t → Steps p.tables e below (s₁.setTop (entryFrame m #[(.long j1), (.ref a1), (.int i1)] 7)) t := fun t k => pre11 t (by
          show Steps p.tables e below (T10.setTop (mkF m 13 #[.val (.long j1), .second, .val (.ref a1), .val (.int i1), .val (.int ((i1 + (1 : Int32)) + (1 : Int32))), .val (.long (own_c2 j1)), .second] [(.int (XT.cmpL (own_c3 j1) (0 : Int64)))])) _
          refine XS.ifNo X10.here hx rfl (hb hby own_d2_13) rfl (XT.ll_eq_f hz2) ?_
          show Steps p.tables e below (T10.setTop (mkF m 16 #[.val (.long j1), .second, .val (.ref a1), .val (.int i1), .val (.int ((i1 + (1 : Int32)) + (1 : Int32))), .val (.long (own_c2 j1)), .second] [])) _
          refine XS.aloadN X10.here hx rfl (hb hby own_d2_16) rfl rfl ?_
          show Steps p.tables e below (T10.setTop (mkF m 17 #[.val (.long j1), .second, .val (.ref a1), .val (.int i1), .val (.int ((i1 + (1 : Int32)) + (1 : Int32))), .val (.long (own_c2 j1)), .second] [(.ref a1)])) _
          refine XS.iload X10.here hx rfl (hb hby own_d2_17) rfl ?_
          show Steps p.tables e below (T10.setTop (mkF m 19 #[.val (.long j1), .second, .val (.ref a1), .val (.int i1), .val (.int ((i1 + (1 : Int32)) + (1 : Int32))), .val (.long (own_c2 j1)), .second] [(.int ((i1 + (1 : Int32)) + (1 : Int32))), (.ref a1)])) _
          refine XT.iincV X10.here hx rfl (1 : Int32) (hb hby own_d2_19) rfl rfl (l' := #[.val (.long j1), .second, .val (.ref a1), .val (.int i1), .val (.int (((i1 + (1 : Int32)) + (1 : Int32)) + (1 : Int32))), .val (.long (own_c2 j1)), .second]) rfl ?_
          show Steps p.tables e below (T10.setTop (mkF m 22 #[.val (.long j1), .second, .val (.ref a1), .val (.int i1), .val (.int (((i1 + (1 : Int32)) + (1 : Int32)) + (1 : Int32))), .val (.long (own_c2 j1)), .second] [(.int ((i1 + (1 : Int32)) + (1 : Int32))), (.ref a1)])) _
          refine XT.lload X10.here hx rfl (hb hby own_d2_22) rfl ?_
          show Steps p.tables e below (T10.setTop (mkF m 24 #[.val (.long j1), .second, .val (.ref a1), .val (.int i1), .val (.int (((i1 + (1 : Int32)) + (1 : Int32)) + (1 : Int32))), .val (.long (own_c2 j1)), .second] [(.long (own_c2 j1)), (.int ((i1 + (1 : Int32)) + (1 : Int32))), (.ref a1)])) _
          refine X10.ldc2J hx hown (mvT hZ (hw _ (List.mem_of_getElem? (i := 20) rfl))) (g := (mkF m 24 #[.val (.long j1), .second, .val (.ref a1), .val (.int i1), .val (.int (((i1 + (1 : Int32)) + (1 : Int32)) + (1 : Int32))), .val (.long (own_c2 j1)), .second] [(.long (own_c2 j1)), (.int ((i1 + (1 : Int32)) + (1 : Int32))), (.ref a1)])) rfl (hb hby own_d2_24) ?_
          show Steps p.tables e below (T10.setTop (mkF m 27 #[.val (.long j1), .second, .val (.ref a1), .val (.int i1), .val (.int (((i1 + (1 : Int32)) + (1 : Int32)) + (1 : Int32))), .val (.long (own_c2 j1)), .second] [(.long (127 : Int64)), (.long (own_c2 j1)), (.int ((i1 + (1 : Int32)) + (1 : Int32))), (.ref a1)])) _
          refine XT.land X10.here hx rfl (hb hby own_d2_27) rfl ?_
          show Steps p.tables e below (T10.setTop (mkF m 28 #[.val (.long j1), .second, .val (.ref a1), .val (.int i1), .val (.int (((i1 + (1 : Int32)) + (1 : Int32)) + (1 : Int32))), .val (.long (own_c2 j1)), .second] [(.long ((own_c2 j1) &&& (127 : Int64))), (.int ((i1 + (1 : Int32)) + (1 : Int32))), (.ref a1)])) _
          refine X10.ldc2J hx hown (mvT hZ (hw _ (List.mem_of_getElem? (i := 21) rfl))) (g := (mkF m 28 #[.val (.long j1), .second, .val (.ref a1), .val (.int i1), .val (.int (((i1 + (1 : Int32)) + (1 : Int32)) + (1 : Int32))), .val (.long (own_c2 j1)), .second] [(.long ((own_c2 j1) &&& (127 : Int64))), (.int ((i1 + (1 : Int32)) + (1 : Int32))), (.ref a1)])) rfl (hb hby own_d2_28) ?_
          show Steps p.tables e below (T10.setTop (mkF m 31 #[.val (.long j1), .second, .val (.ref a1), .val (.int i1), .val (.int (((i1 + (1 : Int32)) + (1 : Int32)) + (1 : Int32))), .val (.long (own_c2 j1)), .second] [(.long (128 : Int64)), (.long ((own_c2 j1) &&& (127 : Int64))), (.int ((i1 + (1 : Int32)) + (1 : Int32))), (.ref a1)])) _
          refine XT.lor X10.here hx rfl (hb hby own_d2_31) rfl ?_
          show Steps p.tables e below (T10.setTop (mkF m 32 #[.val (.long j1), .second, .val (.ref a1), .val (.int i1), .val (.int (((i1 + (1 : Int32)) + (1 : Int32)) + (1 : Int32))), .val (.long (own_c2 j1)), .second] [(.long (((own_c2 j1) &&& (127 : Int64)) ||| (128 : Int64))), (.int ((i1 + (1 : Int32)) + (1 : Int32))), (.ref a1)])) _
          refine XT.l2i X10.here hx rfl (hb hby own_d2_32) rfl ?_
          show Steps p.tables e below (T10.setTop (mkF m 33 #[.val (.long j1), .second, .val (.ref a1), .val (.int i1), .val (.int (((i1 + (1 : Int32)) + (1 : Int32)) + (1 : Int32))), .val (.long (own_c2 j1)), .second] [(.int ((((own_c2 j1) &&& (127 : Int64)) ||| (128 : Int64)).toInt32)), (.int ((i1 + (1 : Int32)) + (1 : Int32))), (.ref a1)])) _
          refine XT.i2b X10.here hx rfl (hb hby own_d2_33) rfl ?_
          show Steps p.tables e below (T10.setTop (mkF m 34 #[.val (.long j1), .second, .val (.ref a1), .val (.int i1), .val (.int (((i1 + (1 : Int32)) + (1 : Int32)) + (1 : Int32))), .val (.long (own_c2 j1)), .second] [(.int (((((own_c2 j1) &&& (127 : Int64)) ||| (128 : Int64)).toInt32).toInt8.toInt32)), (.int ((i1 + (1 : Int32)) + (1 : Int32))), (.ref a1)])) _
          refine st15 _ ?_
          show Steps p.tables e below (T15.setTop (mkF m 35 #[.val (.long j1), .second, .val (.ref a1), .val (.int i1), .val (.int (((i1 + (1 : Int32)) + (1 : Int32)) + (1 : Int32))), .val (.long (own_c2 j1)), .second] [])) _
          refine XT.lload X15.here hx rfl (hb hby own_d2_35) rfl ?_
          show Steps p.tables e below (T15.setTop (mkF m 37 #[.val (.long j1), .second, .val (.ref a1), .val (.int i1), .val (.int (((i1 + (1 : Int32)) + (1 : Int32)) + (1 : Int32))), .val (.long (own_c2 j1)), .second] [(.long (own_c2 j1))])) _
          refine XT.bipushV X15.here hx rfl (7 : Int32) (hb hby own_d2_37) rfl ?_
          show Steps p.tables e below (T15.setTop (mkF m 39 #[.val (.long j1), .second, .val (.ref a1), .val (.int i1), .val (.int (((i1 + (1 : Int32)) + (1 : Int32)) + (1 : Int32))), .val (.long (own_c2 j1)), .second] [(.int (7 : Int32)), (.long (own_c2 j1))])) _
          refine XT.lushr X15.here hx rfl (hb hby own_d2_39) rfl ?_
          show Steps p.tables e below (T15.setTop (mkF m 40 #[.val (.long j1), .second, .val (.ref a1), .val (.int i1), .val (.int (((i1 + (1 : Int32)) + (1 : Int32)) + (1 : Int32))), .val (.long (own_c2 j1)), .second] [(.long (own_c3 j1))])) _
          refine XT.lstore X15.here hx rfl (hb hby own_d2_40) rfl (l' := #[.val (.long j1), .second, .val (.ref a1), .val (.int i1), .val (.int (((i1 + (1 : Int32)) + (1 : Int32)) + (1 : Int32))), .val (.long (own_c3 j1)), .second]) rfl ?_
          show Steps p.tables e below (T15.setTop (mkF m 42 #[.val (.long j1), .second, .val (.ref a1), .val (.int i1), .val (.int (((i1 + (1 : Int32)) + (1 : Int32)) + (1 : Int32))), .val (.long (own_c3 j1)), .second] [])) _
          refine XS.goto X15.here hx rfl (pc0 := 42) (pc' := 6) rfl (hb hby own_d2_42) (by decide) (by decide) ?_
          show Steps p.tables e below (T15.setTop (mkF m 6 #[.val (.long j1), .second, .val (.ref a1), .val (.int i1), .val (.int (((i1 + (1 : Int32)) + (1 : Int32)) + (1 : Int32))), .val (.long (own_c3 j1)), .second] [])) _
          refine XT.lload X15.here hx rfl (hb hby own_d2_6) rfl ?_
          show Steps p.tables e below (T15.setTop (mkF m 8 #[.val (.long j1), .second, .val (.ref a1), .val (.int i1), .val (.int (((i1 + (1 : Int32)) + (1 : Int32)) + (1 : Int32))), .val (.long (own_c3 j1)), .second] [(.long (own_c3 j1))])) _
          refine XT.bipushV X15.here hx rfl (7 : Int32) (hb hby own_d2_8) rfl ?_
          show Steps p.tables e below (T15.setTop (mkF m 10 #[.val (.long j1), .second, .val (.ref a1), .val (.int i1), .val (.int (((i1 + (1 : Int32)) + (1 : Int32)) + (1 : Int32))), .val (.long (own_c3 j1)), .second] [(.int (7 : Int32)), (.long (own_c3 j1))])) _
          refine XT.lushr X15.here hx rfl (hb hby own_d2_10) rfl ?_
          show Steps p.tables e below (T15.setTop (mkF m 11 #[.val (.long j1), .second, .val (.ref a1), .val (.int i1), .val (.int (((i1 + (1 : Int32)) + (1 : Int32)) + (1 : Int32))), .val (.long (own_c3 j1)), .second] [(.long (own_c4 j1))])) _
          refine XT.lconstV X15.here hx rfl (0 : Int64) (hb hby own_d2_11) rfl ?_
          show Steps p.tables e below (T15.setTop (mkF m 12 #[.val (.long j1), .second, .val (.ref a1), .val (.int i1), .val (.int (((i1 + (1 : Int32)) + (1 : Int32)) + (1 : Int32))), .val (.long (own_c3 j1)), .second] [(.long (0 : Int64)), (.long (own_c4 j1))])) _
          refine XT.lcmp X15.here hx rfl (hb hby own_d2_12) rfl ?_
          exact k)
        by_cases hz3 : (own_c4 j1) = (0 : Int64)
        · obtain ⟨cl17, Ar17, Q17, Sz17, Nn17, Ha17, Gf17⟩ := id V15
          have ghin17 : ¬ ((((i1 + (1 : Int32)) + (1 : Int32)) + (1 : Int32)) < 0 ∨ cl17.slots.size ≤ ((((i1 + (1 : Int32)) + (1 : Int32)) + (1 : Int32))).toNatClampNeg) := inb_of Sz17 hin3
          obtain ⟨T18, h18, X18, e18, W18, st18⟩ := stB X15 hx hZ e15 Ar17 (j := (((i1 + (1 : Int32)) + (1 : Int32)) + (1 : Int32))) ghin17 (g := (mkF m 55 #[.val (.long j1), .second, .val (.ref a1), .val (.int i1), .val (.int ((((i1 + (1 : Int32)) + (1 : Int32)) + (1 : Int32)) + (1 : Int32))), .val (.long (own_c3 j1)), .second] [(.int (((own_c3 j1).toInt32).toInt8.toInt32)), (.int (((i1 + (1 : Int32)) + (1 : Int32)) + (1 : Int32))), (.ref a1)])) rfl rfl (hb hby own_d2_55)
          have V18 : Arv Z h18 a1 kc .byte (16 : Int32) ((((vs.set (i1).toNatClampNeg (.int (((((j1 &&& (127 : Int64)) ||| (128 : Int64)).toInt32).toInt8.toInt32).toInt8.toInt32))).set ((i1 + (1 : Int32))).toNatClampNeg (.int ((((((own_c1 j1) &&& (127 : Int64)) ||| (128 : Int64)).toInt32).toInt8.toInt32).toInt8.toInt32))).set (((i1 + (1 : Int32)) + (1 : Int32))).toNatClampNeg (.int ((((((own_c2 j1) &&& (127 : Int64)) ||| (128 : Int64)).toInt32).toInt8.toInt32).toInt8.toInt32))).set ((((i1 + (1 : Int32)) + (1 : Int32)) + (1 : Int32))).toNatClampNeg (.int ((((own_c3 j1).toInt32).toInt8.toInt32).toInt8.toInt32))) (.int (0 : Int32)) := Arv.set Ar17 Q17 Sz17 Nn17 Ha17 Gf17 (fits_nar_byte _) W18 _ rfl (by simp only [List.length_set]; rw [hlen]; exact hlt3)
          have K18 : Keep h0 h18 [a1] := K15.wr W18 (Or.inl (List.mem_of_getElem? (i := 0) rfl))
          have N18 := Fr.snoc X18 N15 g_a1
          obtain ⟨fs, hr, hrun, hended, hW, hsame⟩ := X18.leave (v := some (.int ((((i1 + (1 : Int32)) + (1 : Int32)) + (1 : Int32)) + (1 : Int32)))) (fun h => by rw [Bd.returns] at h; cases h)
          refine ⟨_, _, pre16 _ ?_, hrun, hended, _, _, rfl, ?_, ⟨_, rfl⟩, hW, hsame.mono (by decide) (by decide)⟩
          · show Steps p.tables e below (T15.setTop (mkF m 13 #[.val (.long j1), .second, .val (.ref a1), .val (.int i1), .val (.int (((i1 + (1 : Int32)) + (1 : Int32)) + (1 : Int32))), .val (.long (own_c3 j1)), .second] [(.int (XT.cmpL (own_c4 j1) (0 : Int64)))])) _
            refine XS.ifYes X15.here hx rfl (pc0 := 13) (pc' := 45) rfl (hb hby own_d2_13) rfl (XT.ll_eq_t hz3) (by decide) (by decide) ?_
            show Steps p.tables e below (T15.setTop (mkF m 45 #[.val (.long j1), .second, .val (.ref a1), .val (.int i1), .val (.int (((i1 + (1 : Int32)) + (1 : Int32)) + (1 : Int32))), .val (.long (own_c3 j1)), .second] [])) _
            refine XS.aloadN X15.here hx rfl (hb hby own_d2_45) rfl rfl ?_
            show Steps p.tables e below (T15.setTop (mkF m 46 #[.val (.long j1), .second, .val (.ref a1), .val (.int i1), .val (.int (((i1 + (1 : Int32)) + (1 : Int32)) + (1 : Int32))), .val (.long (own_c3 j1)), .second] [(.ref a1)])) _
            refine XS.iload X15.here hx rfl (hb hby own_d2_46) rfl ?_
            show Steps p.tables e below (T15.setTop (mkF m 48 #[.val (.long j1), .second, .val (.ref a1), .val (.int i1), .val (.int (((i1 + (1 : Int32)) + (1 : Int32)) + (1 : Int32))), .val (.long (own_c3 j1)), .second] [(.int (((i1 + (1 : Int32)) + (1 : Int32)) + (1 : Int32))), (.ref a1)])) _
            refine XT.iincV X15.here hx rfl (1 : Int32) (hb hby own_d2_48) rfl rfl (l' := #[.val (.long j1), .second, .val (.ref a1), .val (.int i1), .val (.int ((((i1 + (1 : Int32)) + (1 : Int32)) + (1 : Int32)) + (1 : Int32))), .val (.long (own_c3 j1)), .second]) rfl ?_
            show Steps p.tables e below (T15.setTop (mkF m 51 #[.val (.long j1), .second, .val (.ref a1), .val (.int i1), .val (.int ((((i1 + (1 : Int32)) + (1 : Int32)) + (1 : Int32)) + (1 : Int32))), .val (.long (own_c3 j1)), .second] [(.int (((i1 + (1 : Int32)) + (1 : Int32)) + (1 : Int32))), (.ref a1)])) _
            refine XT.lload X15.here hx rfl (hb hby own_d2_51) rfl ?_
            show Steps p.tables e below (T15.setTop (mkF m 53 #[.val (.long j1), .second, .val (.ref a1), .val (.int i1), .val (.int ((((i1 + (1 : Int32)) + (1 : Int32)) + (1 : Int32)) + (1 : Int32))), .val (.long (own_c3 j1)), .second] [(.long (own_c3 j1)), (.int (((i1 + (1 : Int32)) + (1 : Int32)) + (1 : Int32))), (.ref a1)])) _
            refine XT.l2i X15.here hx rfl (hb hby own_d2_53) rfl ?_
            show Steps p.tables e below (T15.setTop (mkF m 54 #[.val (.long j1), .second, .val (.ref a1), .val (.int i1), .val (.int ((((i1 + (1 : Int32)) + (1 : Int32)) + (1 : Int32)) + (1 : Int32))), .val (.long (own_c3 j1)), .second] [(.int ((own_c3 j1).toInt32)), (.int (((i1 + (1 : Int32)) + (1 : Int32)) + (1 : Int32))), (.ref a1)])) _
            refine XT.i2b X15.here hx rfl (hb hby own_d2_54) rfl ?_
            show Steps p.tables e below (T15.setTop (mkF m 55 #[.val (.long j1), .second, .val (.ref a1), .val (.int i1), .val (.int ((((i1 + (1 : Int32)) + (1 : Int32)) + (1 : Int32)) + (1 : Int32))), .val (.long (own_c3 j1)), .second] [(.int (((own_c3 j1).toInt32).toInt8.toInt32)), (.int (((i1 + (1 : Int32)) + (1 : Int32)) + (1 : Int32))), (.ref a1)])) _
            refine st18 _ ?_
            show Steps p.tables e below (T18.setTop (mkF m 56 #[.val (.long j1), .second, .val (.ref a1), .val (.int i1), .val (.int ((((i1 + (1 : Int32)) + (1 : Int32)) + (1 : Int32)) + (1 : Int32))), .val (.long (own_c3 j1)), .second] [])) _
            refine XS.iload X18.here hx rfl (hb hby own_d2_56) rfl ?_
            show Steps p.tables e below (T18.setTop (mkF m 58 #[.val (.long j1), .second, .val (.ref a1), .val (.int i1), .val (.int ((((i1 + (1 : Int32)) + (1 : Int32)) + (1 : Int32)) + (1 : Int32))), .val (.long (own_c3 j1)), .second] [(.int ((((i1 + (1 : Int32)) + (1 : Int32)) + (1 : Int32)) + (1 : Int32)))])) _
            exact retOut X18 hx (t := .int) Bd.returns rfl (Or.inl ⟨rfl, Or.inl rfl, _, rfl⟩) (hb hby own_d2_58) hr
          · show own_Q2 Z j1 a1 i1 kc vs h0 n0 _ T18.heap _
            rw [e18]
            exact ⟨by unfold own_end; rw [if_neg hz0, if_neg hz1, if_neg hz2, if_pos hz3], N18, K18, (by unfold own_wr; rw [if_neg hz0, if_neg hz1, if_neg hz2, if_pos hz3]; exact V18)⟩
        · obtain ⟨cl19, Ar19, Q19, Sz19, Nn19, Ha19, Gf19⟩ := id V15
          have ghin19 : ¬ ((((i1 + (1 : Int32)) + (1 : Int32)) + (1 : Int32)) < 0 ∨ cl19.slots.size ≤ ((((i1 + (1 : Int32)) + (1 : Int32)) + (1 : Int32))).toNatClampNeg) := inb_of Sz19 hin3
          obtain ⟨T20, h20, X20, e20, W20, st20⟩ := stB X15 hx hZ e15 Ar19 (j := (((i1 + (1 : Int32)) + (1 : Int32)) + (1 : Int32))) ghin19 (g := (mkF m 34 #[.val (.long j1), .second, .val (.ref a1), .val (.int i1), .val (.int ((((i1 + (1 : Int32)) + (1 : Int32)) + (1 : Int32)) + (1 : Int32))), .val (.long (own_c3 j1)), .second] [(.int (((((own_c3 j1) &&& (127 : Int64)) ||| (128 : Int64)).toInt32).toInt8.toInt32)), (.int (((i1 + (1 : Int32)) + (1 : Int32)) + (1 : Int32))), (.ref a1)])) rfl rfl (hb hby own_d2_34)
          have V20 : Arv Z h20 a1 kc .byte (16 : Int32) ((((vs.set (i1).toNatClampNeg (.int (((((j1 &&& (127 : Int64)) ||| (128 : Int64)).toInt32).toInt8.toInt32).toInt8.toInt32))).set ((i1 + (1 : Int32))).toNatClampNeg (.int ((((((own_c1 j1) &&& (127 : Int64)) ||| (128 : Int64)).toInt32).toInt8.toInt32).toInt8.toInt32))).set (((i1 + (1 : Int32)) + (1 : Int32))).toNatClampNeg (.int ((((((own_c2 j1) &&& (127 : Int64)) ||| (128 : Int64)).toInt32).toInt8.toInt32).toInt8.toInt32))).set ((((i1 + (1 : Int32)) + (1 : Int32)) + (1 : Int32))).toNatClampNeg (.int ((((((own_c3 j1) &&& (127 : Int64)) ||| (128 : Int64)).toInt32).toInt8.toInt32).toInt8.toInt32))) (.int (0 : Int32)) := Arv.set Ar19 Q19 Sz19 Nn19 Ha19 Gf19 (fits_nar_byte _) W20 _ rfl (by simp only [List.length_set]; rw [hlen]; exact hlt3)
          have K20 : Keep h0 h20 [a1] := K15.wr W20 (Or.inl (List.mem_of_getElem? (i := 0) rfl))
          have N20 := Fr.snoc X20 N15 g_a1
          have pre21 : ∀ t, Steps p.tables e below (T20.setTop (mkF m 13 #[.val (.long j1), .second, .val (.ref a1), .val (.int i1), .val (.int ((((i1 + (1 : Int32)) + (1 : Int32)) + (1 : Int32)) + (1 : Int32))), .val (.long (own_c4 j1)), .second] [(.int (XT.cmpL (own_c5 j1) (0 : Int64)))])) t → Steps p.tables e below (s₁.setTop (entryFrame m #[(.long j1), (.ref a1), (.int i1)] 7)) t := fun t k => pre16 t (by
            show Steps p.tables e below (T15.setTop (mkF m 13 #[.val (.long j1), .second, .val (.ref a1), .val (.int i1), .val (.int (((i1 + (1 : Int32)) + (1 : Int32)) + (1 : Int32))), .val (.long (own_c3 j1)), .second] [(.int (XT.cmpL (own_c4 j1) (0 : Int64)))])) _
            refine XS.ifNo X15.here hx rfl (hb hby own_d2_13) rfl (XT.ll_eq_f hz3) ?_
            show Steps p.tables e below (T15.setTop (mkF m 16 #[.val (.long j1), .second, .val (.ref a1), .val (.int i1), .val (.int (((i1 + (1 : Int32)) + (1 : Int32)) + (1 : Int32))), .val (.long (own_c3 j1)), .second] [])) _
            refine XS.aloadN X15.here hx rfl (hb hby own_d2_16) rfl rfl ?_
            show Steps p.tables e below (T15.setTop (mkF m 17 #[.val (.long j1), .second, .val (.ref a1), .val (.int i1), .val (.int (((i1 + (1 : Int32)) + (1 : Int32)) + (1 : Int32))), .val (.long (own_c3 j1)), .second] [(.ref a1)])) _
            refine XS.iload X15.here hx rfl (hb hby own_d2_17) rfl ?_
            show Steps p.tables e below (T15.setTop (mkF m 19 #[.val (.long j1), .second, .val (.ref a1), .val (.int i1), .val (.int (((i1 + (1 : Int32)) + (1 : Int32)) + (1 : Int32))), .val (.long (own_c3 j1)), .second] [(.int (((i1 + (1 : Int32)) + (1 : Int32)) + (1 : Int32))), (.ref a1)])) _
            refine XT.iincV X15.here hx rfl (1 : Int32) (hb hby own_d2_19) rfl rfl (l' := #[.val (.long j1), .second, .val (.ref a1), .val (.int i1), .val (.int ((((i1 + (1 : Int32)) + (1 : Int32)) + (1 : Int32)) + (1 : Int32))), .val (.long (own_c3 j1)), .second]) rfl ?_
            show Steps p.tables e below (T15.setTop (mkF m 22 #[.val (.long j1), .second, .val (.ref a1), .val (.int i1), .val (.int ((((i1 + (1 : Int32)) + (1 : Int32)) + (1 : Int32)) + (1 : Int32))), .val (.long (own_c3 j1)), .second] [(.int (((i1 + (1 : Int32)) + (1 : Int32)) + (1 : Int32))), (.ref a1)])) _
            refine XT.lload X15.here hx rfl (hb hby own_d2_22) rfl ?_
            show Steps p.tables e below (T15.setTop (mkF m 24 #[.val (.long j1), .second, .val (.ref a1), .val (.int i1), .val (.int ((((i1 + (1 : Int32)) + (1 : Int32)) + (1 : Int32)) + (1 : Int32))), .val (.long (own_c3 j1)), .second] [(.long (own_c3 j1)), (.int (((i1 + (1 : Int32)) + (1 : Int32)) + (1 : Int32))), (.ref a1)])) _
            refine X15.ldc2J hx hown (mvT hZ (hw _ (List.mem_of_getElem? (i := 20) rfl))) (g := (mkF m 24 #[.val (.long j1), .second, .val (.ref a1), .val (.int i1), .val (.int ((((i1 + (1 : Int32)) + (1 : Int32)) + (1 : Int32)) + (1 : Int32))), .val (.long (own_c3 j1)), .second] [(.long (own_c3 j1)), (.int (((i1 + (1 : Int32)) + (1 : Int32)) + (1 : Int32))), (.ref a1)])) rfl (hb hby own_d2_24) ?_
            show Steps p.tables e below (T15.setTop (mkF m 27 #[.val (.long j1), .second, .val (.ref a1), .val (.int i1), .val (.int ((((i1 + (1 : Int32)) + (1 : Int32)) + (1 : Int32)) + (1 : Int32))), .val (.long (own_c3 j1)), .second] [(.long (127 : Int64)), (.long (own_c3 j1)), (.int (((i1 + (1 : Int32)) + (1 : Int32)) + (1 : Int32))), (.ref a1)])) _
            refine XT.land X15.here hx rfl (hb hby own_d2_27) rfl ?_
            show Steps p.tables e below (T15.setTop (mkF m 28 #[.val (.long j1), .second, .val (.ref a1), .val (.int i1), .val (.int ((((i1 + (1 : Int32)) + (1 : Int32)) + (1 : Int32)) + (1 : Int32))), .val (.long (own_c3 j1)), .second] [(.long ((own_c3 j1) &&& (127 : Int64))), (.int (((i1 + (1 : Int32)) + (1 : Int32)) + (1 : Int32))), (.ref a1)])) _
            refine X15.ldc2J hx hown (mvT hZ (hw _ (List.mem_of_getElem? (i := 21) rfl))) (g := (mkF m 28 #[.val (.long j1), .second, .val (.ref a1), .val (.int i1), .val (.int ((((i1 + (1 : Int32)) + (1 : Int32)) + (1 : Int32)) + (1 : Int32))), .val (.long (own_c3 j1)), .second] [(.long ((own_c3 j1) &&& (127 : Int64))), (.int (((i1 + (1 : Int32)) + (1 : Int32)) + (1 : Int32))), (.ref a1)])) rfl (hb hby own_d2_28) ?_
            show Steps p.tables e below (T15.setTop (mkF m 31 #[.val (.long j1), .second, .val (.ref a1), .val (.int i1), .val (.int ((((i1 + (1 : Int32)) + (1 : Int32)) + (1 : Int32)) + (1 : Int32))), .val (.long (own_c3 j1)), .second] [(.long (128 : Int64)), (.long ((own_c3 j1) &&& (127 : Int64))), (.int (((i1 + (1 : Int32)) + (1 : Int32)) + (1 : Int32))), (.ref a1)])) _
            refine XT.lor X15.here hx rfl (hb hby own_d2_31) rfl ?_
            show Steps p.tables e below (T15.setTop (mkF m 32 #[.val (.long j1), .second, .val (.ref a1), .val (.int i1), .val (.int ((((i1 + (1 : Int32)) + (1 : Int32)) + (1 : Int32)) + (1 : Int32))), .val (.long (own_c3 j1)), .second] [(.long (((own_c3 j1) &&& (127 : Int64)) ||| (128 : Int64))), (.int (((i1 + (1 : Int32)) + (1 : Int32)) + (1 : Int32))), (.ref a1)])) _
            refine XT.l2i X15.here hx rfl (hb hby own_d2_32) rfl ?_
            show Steps p.tables e below (T15.setTop (mkF m 33 #[.val (.long j1), .second, .val (.ref a1), .val (.int i1), .val (.int ((((i1 + (1 : Int32)) + (1 : Int32)) + (1 : Int32)) + (1 : Int32))), .val (.long (own_c3 j1)), .second] [(.int ((((own_c3 j1) &&& (127 : Int64)) ||| (128 : Int64)).toInt32)), (.int (((i1 + (1 : Int32)) + (1 : Int32)) + (1 : Int32))), (.ref a1)])) _
            refine XT.i2b X15.here hx rfl (hb hby own_d2_33) rfl ?_
            show Steps p.tables e below (T15.setTop (mkF m 34 #[.val (.long j1), .second, .val (.ref a1), .val (.int i1), .val (.int ((((i1 + (1 : Int32)) + (1 : Int32)) + (1 : Int32)) + (1 : Int32))), .val (.long (own_c3 j1)), .second] [(.int (((((own_c3 j1) &&& (127 : Int64)) ||| (128 : Int64)).toInt32).toInt8.toInt32)), (.int (((i1 + (1 : Int32)) + (1 : Int32)) + (1 : Int32))), (.ref a1)])) _
            refine st20 _ ?_
            show Steps p.tables e below (T20.setTop (mkF m 35 #[.val (.long j1), .second, .val (.ref a1), .val (.int i1), .val (.int ((((i1 + (1 : Int32)) + (1 : Int32)) + (1 : Int32)) + (1 : Int32))), .val (.long (own_c3 j1)), .second] [])) _
            refine XT.lload X20.here hx rfl (hb hby own_d2_35) rfl ?_
            show Steps p.tables e below (T20.setTop (mkF m 37 #[.val (.long j1), .second, .val (.ref a1), .val (.int i1), .val (.int ((((i1 + (1 : Int32)) + (1 : Int32)) + (1 : Int32)) + (1 : Int32))), .val (.long (own_c3 j1)), .second] [(.long (own_c3 j1))])) _
            refine XT.bipushV X20.here hx rfl (7 : Int32) (hb hby own_d2_37) rfl ?_
            show Steps p.tables e below (T20.setTop (mkF m 39 #[.val (.long j1), .second, .val (.ref a1), .val (.int i1), .val (.int ((((i1 + (1 : Int32)) + (1 : Int32)) + (1 : Int32)) + (1 : Int32))), .val (.long (own_c3 j1)), .second] [(.int (7 : Int32)), (.long (own_c3 j1))])) _
            refine XT.lushr X20.here hx rfl (hb hby own_d2_39) rfl ?_
            show Steps p.tables e below (T20.setTop (mkF m 40 #[.val (.long j1), .second, .val (.ref a1), .val (.int i1), .val (.int ((((i1 + (1 : Int32)) + (1 : Int32)) + (1 : Int32)) + (1 : Int32))), .val (.long (own_c3 j1)), .second] [(.long (own_c4 j1))])) _
            refine XT.lstore X20.here hx rfl (hb hby own_d2_40) rfl (l' := #[.val (.long j1), .second, .val (.ref a1), .val (.int i1), .val (.int ((((i1 + (1 : Int32)) + (1 : Int32)) + (1 : Int32)) + (1 : Int32))), .val (.long (own_c4 j1)), .second]) rfl ?_
            show Steps p.tables e below (T20.setTop (mkF m 42 #[.val (.long j1), .second, .val (.ref a1), .val (.int i1), .val (.int ((((i1 + (1 : Int32)) + (1 : Int32)) + (1 : Int32)) + (1 : Int32))), .val (.long (own_c4 j1)), .second] [])) _
            refine XS.goto X20.here hx rfl (pc0 := 42) (pc' := 6) rfl (hb hby own_d2_42) (by decide) (by decide) ?_
            show Steps p.tables e below (T20.setTop (mkF m 6 #[.val (.long j1), .second, .val (.ref a1), .val (.int i1), .val (.int ((((i1 + (1 : Int32)) + (1 : Int32)) + (1 : Int32)) + (1 : Int32))), .val (.long (own_c4 j1)), .second] [])) _
            refine XT.lload X20.here hx rfl (hb hby own_d2_6) rfl ?_
            show Steps p.tables e below (T20.setTop (mkF m 8 #[.val (.long j1), .second, .val (.ref a1), .val (.int i1), .val (.int ((((i1 + (1 : Int32)) + (1 : Int32)) + (1 : Int32)) + (1 : Int32))), .val (.long (own_c4 j1)), .second] [(.long (own_c4 j1))])) _
            refine XT.bipushV X20.here hx rfl (7 : Int32) (hb hby own_d2_8) rfl ?_
            show Steps p.tables e below (T20.setTop (mkF m 10 #[.val (.long j1), .second, .val (.ref a1), .val (.int i1), .val (.int ((((i1 + (1 : Int32)) + (1 : Int32)) + (1 : Int32)) + (1 : Int32))), .val (.long (own_c4 j1)), .second] [(.int (7 : Int32)), (.long (own_c4 j1))])) _
            refine XT.lushr X20.here hx rfl (hb hby own_d2_10) rfl ?_
            show Steps p.tables e below (T20.setTop (mkF m 11 #[.val (.long j1), .second, .val (.ref a1), .val (.int i1), .val (.int ((((i1 + (1 : Int32)) + (1 : Int32)) + (1 : Int32)) + (1 : Int32))), .val (.long (own_c4 j1)), .second] [(.long (own_c5 j1))])) _
            refine XT.lconstV X20.here hx rfl (0 : Int64) (hb hby own_d2_11) rfl ?_
            show Steps p.tables e below (T20.setTop (mkF m 12 #[.val (.long j1), .second, .val (.ref a1), .val (.int i1), .val (.int ((((i1 + (1 : Int32)) + (1 : Int32)) + (1 : Int32)) + (1 : Int32))), .val (.long (own_c4 j1)), .second] [(.long (0 : Int64)), (.long (own_c5 j1))])) _
            refine XT.lcmp X20.here hx rfl (hb hby own_d2_12) rfl ?_
            exact k)
          by_cases hz4 : (own_c5 j1) = (0 : Int64)
          · obtain ⟨cl22, Ar22, Q22, Sz22, Nn22, Ha22, Gf22⟩ := id V20
            have ghin22 : ¬ (((((i1 + (1 : Int32)) + (1 : Int32)) + (1 : Int32)) + (1 : Int32)) < 0 ∨ cl22.slots.size ≤ (((((i1 + (1 : Int32)) + (1 : Int32)) + (1 : Int32)) + (1 : Int32))).toNatClampNeg) := inb_of Sz22 hin4
            obtain ⟨T23, h23, X23, e23, W23, st23⟩ := stB X20 hx hZ e20 Ar22 (j := ((((i1 + (1 : Int32)) + (1 : Int32)) + (1 : Int32)) + (1 : Int32))) ghin22 (g := (mkF m 55 #[.val (.long j1), .second, .val (.ref a1), .val (.int i1), .val (.int (((((i1 + (1 : Int32)) + (1 : Int32)) + (1 : Int32)) + (1 : Int32)) + (1 : Int32))), .val (.long (own_c4 j1)), .second] [(.int (((own_c4 j1).toInt32).toInt8.toInt32)), (.int ((((i1 + (1 : Int32)) + (1 : Int32)) + (1 : Int32)) + (1 : Int32))), (.ref a1)])) rfl rfl (hb hby own_d2_55)
            have V23 : Arv Z h23 a1 kc .byte (16 : Int32) (((((vs.set (i1).toNatClampNeg (.int (((((j1 &&& (127 : Int64)) ||| (128 : Int64)).toInt32).toInt8.toInt32).toInt8.toInt32))).set ((i1 + (1 : Int32))).toNatClampNeg (.int ((((((own_c1 j1) &&& (127 : Int64)) ||| (128 : Int64)).toInt32).toInt8.toInt32).toInt8.toInt32))).set (((i1 + (1 : Int32)) + (1 : Int32))).toNatClampNeg (.int ((((((own_c2 j1) &&& (127 : Int64)) ||| (128 : Int64)).toInt32).toInt8.toInt32).toInt8.toInt32))).set ((((i1 + (1 : Int32)) + (1 : Int32)) + (1 : Int32))).toNatClampNeg (.int ((((((own_c3 j1) &&& (127 : Int64)) ||| (128 : Int64)).toInt32).toInt8.toInt32).toInt8.toInt32))).set (((((i1 + (1 : Int32)) + (1 : Int32)) + (1 : Int32)) + (1 : Int32))).toNatClampNeg (.int ((((own_c4 j1).toInt32).toInt8.toInt32).toInt8.toInt32))) (.int (0 : Int32)) := Arv.set Ar22 Q22 Sz22 Nn22 Ha22 Gf22 (fits_nar_byte _) W23 _ rfl (by simp only [List.length_set]; rw [hlen]; exact hlt4)
            have K23 : Keep h0 h23 [a1] := K20.wr W23 (Or.inl (List.mem_of_getElem? (i := 0) rfl))
            have N23 := Fr.snoc X23 N20 g_a1
            obtain ⟨fs, hr, hrun, hended, hW, hsame⟩ := X23.leave (v := some (.int (((((i1 + (1 : Int32)) + (1 : Int32)) + (1 : Int32)) + (1 : Int32)) + (1 : Int32)))) (fun h => by rw [Bd.returns] at h; cases h)
            refine ⟨_, _, pre21 _ ?_, hrun, hended, _, _, rfl, ?_, ⟨_, rfl⟩, hW, hsame.mono (by decide) (by decide)⟩
            · show Steps p.tables e below (T20.setTop (mkF m 13 #[.val (.long j1), .second, .val (.ref a1), .val (.int i1), .val (.int ((((i1 + (1 : Int32)) + (1 : Int32)) + (1 : Int32)) + (1 : Int32))), .val (.long (own_c4 j1)), .second] [(.int (XT.cmpL (own_c5 j1) (0 : Int64)))])) _
              refine XS.ifYes X20.here hx rfl (pc0 := 13) (pc' := 45) rfl (hb hby own_d2_13) rfl (XT.ll_eq_t hz4) (by decide) (by decide) ?_
              show Steps p.tables e below (T20.setTop (mkF m 45 #[.val (.long j1), .second, .val (.ref a1), .val (.int i1), .val (.int ((((i1 + (1 : Int32)) + (1 : Int32)) + (1 : Int32)) + (1 : Int32))), .val (.long (own_c4 j1)), .second] [])) _
              refine XS.aloadN X20.here hx rfl (hb hby own_d2_45) rfl rfl ?_
              show Steps p.tables e below (T20.setTop (mkF m 46 #[.val (.long j1), .second, .val (.ref a1), .val (.int i1), .val (.int ((((i1 + (1 : Int32)) + (1 : Int32)) + (1 : Int32)) + (1 : Int32))), .val (.long (own_c4 j1)), .second] [(.ref a1)])) _
              refine XS.iload X20.here hx rfl (hb hby own_d2_46) rfl ?_
              show Steps p.tables e below (T20.setTop (mkF m 48 #[.val (.long j1), .second, .val (.ref a1), .val (.int i1), .val (.int ((((i1 + (1 : Int32)) + (1 : Int32)) + (1 : Int32)) + (1 : Int32))), .val (.long (own_c4 j1)), .second] [(.int ((((i1 + (1 : Int32)) + (1 : Int32)) + (1 : Int32)) + (1 : Int32))), (.ref a1)])) _
              refine XT.iincV X20.here hx rfl (1 : Int32) (hb hby own_d2_48) rfl rfl (l' := #[.val (.long j1), .second, .val (.ref a1), .val (.int i1), .val (.int (((((i1 + (1 : Int32)) + (1 : Int32)) + (1 : Int32)) + (1 : Int32)) + (1 : Int32))), .val (.long (own_c4 j1)), .second]) rfl ?_
              show Steps p.tables e below (T20.setTop (mkF m 51 #[.val (.long j1), .second, .val (.ref a1), .val (.int i1), .val (.int (((((i1 + (1 : Int32)) + (1 : Int32)) + (1 : Int32)) + (1 : Int32)) + (1 : Int32))), .val (.long (own_c4 j1)), .second] [(.int ((((i1 + (1 : Int32)) + (1 : Int32)) + (1 : Int32)) + (1 : Int32))), (.ref a1)])) _
              refine XT.lload X20.here hx rfl (hb hby own_d2_51) rfl ?_
              show Steps p.tables e below (T20.setTop (mkF m 53 #[.val (.long j1), .second, .val (.ref a1), .val (.int i1), .val (.int (((((i1 + (1 : Int32)) + (1 : Int32)) + (1 : Int32)) + (1 : Int32)) + (1 : Int32))), .val (.long (own_c4 j1)), .second] [(.long (own_c4 j1)), (.int ((((i1 + (1 : Int32)) + (1 : Int32)) + (1 : Int32)) + (1 : Int32))), (.ref a1)])) _
              refine XT.l2i X20.here hx rfl (hb hby own_d2_53) rfl ?_
              show Steps p.tables e below (T20.setTop (mkF m 54 #[.val (.long j1), .second, .val (.ref a1), .val (.int i1), .val (.int (((((i1 + (1 : Int32)) + (1 : Int32)) + (1 : Int32)) + (1 : Int32)) + (1 : Int32))), .val (.long (own_c4 j1)), .second] [(.int ((own_c4 j1).toInt32)), (.int ((((i1 + (1 : Int32)) + (1 : Int32)) + (1 : Int32)) + (1 : Int32))), (.ref a1)])) _
              refine XT.i2b X20.here hx rfl (hb hby own_d2_54) rfl ?_
              show Steps p.tables e below (T20.setTop (mkF m 55 #[.val (.long j1), .second, .val (.ref a1), .val (.int i1), .val (.int (((((i1 + (1 : Int32)) + (1 : Int32)) + (1 : Int32)) + (1 : Int32)) + (1 : Int32))), .val (.long (own_c4 j1)), .second] [(.int (((own_c4 j1).toInt32).toInt8.toInt32)), (.int ((((i1 + (1 : Int32)) + (1 : Int32)) + (1 : Int32)) + (1 : Int32))), (.ref a1)])) _
              refine st23 _ ?_
              show Steps p.tables e below (T23.setTop (mkF m 56 #[.val (.long j1), .second, .val (.ref a1), .val (.int i1), .val (.int (((((i1 + (1 : Int32)) + (1 : Int32)) + (1 : Int32)) + (1 : Int32)) + (1 : Int32))), .val (.long (own_c4 j1)), .second] [])) _
              refine XS.iload X23.here hx rfl (hb hby own_d2_56) rfl ?_
              show Steps p.tables e below (T23.setTop (mkF m 58 #[.val (.long j1), .second, .val (.ref a1), .val (.int i1), .val (.int (((((i1 + (1 : Int32)) + (1 : Int32)) + (1 : Int32)) + (1 : Int32)) + (1 : Int32))), .val (.long (own_c4 j1)), .second] [(.int (((((i1 + (1 : Int32)) + (1 : Int32)) + (1 : Int32)) + (1 : Int32)) + (1 : Int32)))])) _
              exact retOut X23 hx (t := .int) Bd.returns rfl (Or.inl ⟨rfl, Or.inl rfl, _, rfl⟩) (hb hby own_d2_58) hr
            · show own_Q2 Z j1 a1 i1 kc vs h0 n0 _ T23.heap _
              rw [e23]
              exact ⟨by unfold own_end; rw [if_neg hz0, if_neg hz1, if_neg hz2, if_neg hz3, if_pos hz4], N23, K23, (by unfold own_wr; rw [if_neg hz0, if_neg hz1, if_neg hz2, if_neg hz3, if_pos hz4]; exact V23)⟩
          · obtain ⟨cl24, Ar24, Q24, Sz24, Nn24, Ha24, Gf24⟩ := id V20
            have ghin24 : ¬ (((((i1 + (1 : Int32)) + (1 : Int32)) + (1 : Int32)) + (1 : Int32)) < 0 ∨ cl24.slots.size ≤ (((((i1 + (1 : Int32)) + (1 : Int32)) + (1 : Int32)) + (1 : Int32))).toNatClampNeg) := inb_of Sz24 hin4
            obtain ⟨T25, h25, X25, e25, W25, st25⟩ := stB X20 hx hZ e20 Ar24 (j := ((((i1 + (1 : Int32)) + (1 : Int32)) + (1 : Int32)) + (1 : Int32))) ghin24 (g := (mkF m 34 #[.val (.long j1), .second, .val (.ref a1), .val (.int i1), .val (.int (((((i1 + (1 : Int32)) + (1 : Int32)) + (1 : Int32)) + (1 : Int32)) + (1 : Int32))), .val (.long (own_c4 j1)), .second] [(.int (((((own_c4 j1) &&& (127 : Int64)) ||| (128 : Int64)).toInt32).toInt8.toInt32)), (.int ((((i1 + (1 : Int32)) + (1 : Int32)) + (1 : Int32)) + (1 : Int32))), (.ref a1)])) rfl rfl (hb hby own_d2_34)
            have V25 : Arv Z h25 a1 kc .byte (16 : Int32) (((((vs.set (i1).toNatClampNeg (.int (((((j1 &&& (127 : Int64)) ||| (128 : Int64)).toInt32).toInt8.toInt32).toInt8.toInt32))).set ((i1 + (1 : Int32))).toNatClampNeg (.int ((((((own_c1 j1) &&& (127 : Int64)) ||| (128 : Int64)).toInt32).toInt8.toInt32).toInt8.toInt32))).set (((i1 + (1 : Int32)) + (1 : Int32))).toNatClampNeg (.int ((((((own_c2 j1) &&& (127 : Int64)) ||| (128 : Int64)).toInt32).toInt8.toInt32).toInt8.toInt32))).set ((((i1 + (1 : Int32)) + (1 : Int32)) + (1 : Int32))).toNatClampNeg (.int ((((((own_c3 j1) &&& (127 : Int64)) ||| (128 : Int64)).toInt32).toInt8.toInt32).toInt8.toInt32))).set (((((i1 + (1 : Int32)) + (1 : Int32)) + (1 : Int32)) + (1 : Int32))).toNatClampNeg (.int ((((((own_c4 j1) &&& (127 : Int64)) ||| (128 : Int64)).toInt32).toInt8.toInt32).toInt8.toInt32))) (.int (0 : Int32)) := Arv.set Ar24 Q24 Sz24 Nn24 Ha24 Gf24 (fits_nar_byte _) W25 _ rfl (by simp only [List.length_set]; rw [hlen]; exact hlt4)
            have K25 : Keep h0 h25 [a1] := K20.wr W25 (Or.inl (List.mem_of_getElem? (i := 0) rfl))
            have N25 := Fr.snoc X25 N20 g_a1
            have pre26 : ∀ t, Steps p.tables e below (T25.setTop (mkF m 13 #[.val (.long j1), .second, .val (.ref a1), .val (.int i1), .val (.int (((((i1 + (1 : Int32)) + (1 : Int32)) + (1 : Int32)) + (1 : Int32)) + (1 : Int32))), .val (.long (own_c5 j1)), .second] [(.int (XT.cmpL (own_c6 j1) (0 : Int64)))])) t → Steps p.tables e below (s₁.setTop (entryFrame m #[(.long j1), (.ref a1), (.int i1)] 7)) t := fun t k => pre21 t (by
              show Steps p.tables e below (T20.setTop (mkF m 13 #[.val (.long j1), .second, .val (.ref a1), .val (.int i1), .val (.int ((((i1 + (1 : Int32)) + (1 : Int32)) + (1 : Int32)) + (1 : Int32))), .val (.long (own_c4 j1)), .second] [(.int (XT.cmpL (own_c5 j1) (0 : Int64)))])) _
              refine XS.ifNo X20.here hx rfl (hb hby own_d2_13) rfl (XT.ll_eq_f hz4) ?_
              show Steps p.tables e below (T20.setTop (mkF m 16 #[.val (.long j1), .second, .val (.ref a1), .val (.int i1), .val (.int ((((i1 + (1 : Int32)) + (1 : Int32)) + (1 : Int32)) + (1 : Int32))), .val (.long (own_c4 j1)), .second] [])) _
              refine XS.aloadN X20.here hx rfl (hb hby own_d2_16) rfl rfl ?_
              show Steps p.tables e below (T20.setTop (mkF m 17 #[.val (.long j1), .second, .val (.ref a1), .val (.int i1), .val (.int ((((i1 + (1 : Int32)) + (1 : Int32)) + (1 : Int32)) + (1 : Int32))), .val (.long (own_c4 j1)), .second] [(.ref a1)])) _
              refine XS.iload X20.here hx rfl (hb hby own_d2_17) rfl ?_
              show Steps p.tables e below (T20.setTop (mkF m 19 #[.val (.long j1), .second, .val (.ref a1), .val (.int i1), .val (.int ((((i1 + (1 : Int32)) + (1 : Int32)) + (1 : Int32)) + (1 : Int32))), .val (.long (own_c4 j1)), .second] [(.int ((((i1 + (1 : Int32)) + (1 : Int32)) + (1 : Int32)) + (1 : Int32))), (.ref a1)])) _
              refine XT.iincV X20.here hx rfl (1 : Int32) (hb hby own_d2_19) rfl rfl (l' := #[.val (.long j1), .second, .val (.ref a1), .val (.int i1), .val (.int (((((i1 + (1 : Int32)) + (1 : Int32)) + (1 : Int32)) + (1 : Int32)) + (1 : Int32))), .val (.long (own_c4 j1)), .second]) rfl ?_
              show Steps p.tables e below (T20.setTop (mkF m 22 #[.val (.long j1), .second, .val (.ref a1), .val (.int i1), .val (.int (((((i1 + (1 : Int32)) + (1 : Int32)) + (1 : Int32)) + (1 : Int32)) + (1 : Int32))), .val (.long (own_c4 j1)), .second] [(.int ((((i1 + (1 : Int32)) + (1 : Int32)) + (1 : Int32)) + (1 : Int32))), (.ref a1)])) _
              refine XT.lload X20.here hx rfl (hb hby own_d2_22) rfl ?_
              show Steps p.tables e below (T20.setTop (mkF m 24 #[.val (.long j1), .second, .val (.ref a1), .val (.int i1), .val (.int (((((i1 + (1 : Int32)) + (1 : Int32)) + (1 : Int32)) + (1 : Int32)) + (1 : Int32))), .val (.long (own_c4 j1)), .second] [(.long (own_c4 j1)), (.int ((((i1 + (1 : Int32)) + (1 : Int32)) + (1 : Int32)) + (1 : Int32))), (.ref a1)])) _
              refine X20.ldc2J hx hown (mvT hZ (hw _ (List.mem_of_getElem? (i := 20) rfl))) (g := (mkF m 24 #[.val (.long j1), .second, .val (.ref a1), .val (.int i1), .val (.int (((((i1 + (1 : Int32)) + (1 : Int32)) + (1 : Int32)) + (1 : Int32)) + (1 : Int32))), .val (.long (own_c4 j1)), .second] [(.long (own_c4 j1)), (.int ((((i1 + (1 : Int32)) + (1 : Int32)) + (1 : Int32)) + (1 : Int32))), (.ref a1)])) rfl (hb hby own_d2_24) ?_
              show Steps p.tables e below (T20.setTop (mkF m 27 #[.val (.long j1), .second, .val (.ref a1), .val (.int i1), .val (.int (((((i1 + (1 : Int32)) + (1 : Int32)) + (1 : Int32)) + (1 : Int32)) + (1 : Int32))), .val (.long (own_c4 j1)), .second] [(.long (127 : Int64)), (.long (own_c4 j1)), (.int ((((i1 + (1 : Int32)) + (1 : Int32)) + (1 : Int32)) + (1 : Int32))), (.ref a1)])) _
              refine XT.land X20.here hx rfl (hb hby own_d2_27) rfl ?_
              show Steps p.tables e below (T20.setTop (mkF m 28 #[.val (.long j1), .second, .val (.ref a1), .val (.int i1), .val (.int (((((i1 + (1 : Int32)) + (1 : Int32)) + (1 : Int32)) + (1 : Int32)) + (1 : Int32))), .val (.long (own_c4 j1)), .second] [(.long ((own_c4 j1) &&& (127 : Int64))), (.int ((((i1 + (1 : Int32)) + (1 : Int32)) + (1 : Int32)) + (1 : Int32))), (.ref a1)])) _
              refine X20.ldc2J hx hown (mvT hZ (hw _ (List.mem_of_getElem? (i := 21) rfl))) (g := (mkF m 28 #[.val (.long j1), .second, .val (.ref a1), .val (.int i1), .val (.int (((((i1 + (1 : Int32)) + (1 : Int32)) + (1 : Int32)) + (1 : Int32)) + (1 : Int32))), .val (.long (own_c4 j1)), .second] [(.long ((own_c4 j1) &&& (127 : Int64))), (.int ((((i1 + (1 : Int32)) + (1 : Int32)) + (1 : Int32)) + (1 : Int32))), (.ref a1)])) rfl (hb hby own_d2_28) ?_
              show Steps p.tables e below (T20.setTop (mkF m 31 #[.val (.long j1), .second, .val (.ref a1), .val (.int i1), .val (.int (((((i1 + (1 : Int32)) + (1 : Int32)) + (1 : Int32)) + (1 : Int32)) + (1 : Int32))), .val (.long (own_c4 j1)), .second] [(.long (128 : Int64)), (.long ((own_c4 j1) &&& (127 : Int64))), (.int ((((i1 + (1 : Int32)) + (1 : Int32)) + (1 : Int32)) + (1 : Int32))), (.ref a1)])) _
              refine XT.lor X20.here hx rfl (hb hby own_d2_31) rfl ?_
              show Steps p.tables e below (T20.setTop (mkF m 32 #[.val (.long j1), .second, .val (.ref a1), .val (.int i1), .val (.int (((((i1 + (1 : Int32)) + (1 : Int32)) + (1 : Int32)) + (1 : Int32)) + (1 : Int32))), .val (.long (own_c4 j1)), .second] [(.long (((own_c4 j1) &&& (127 : Int64)) ||| (128 : Int64))), (.int ((((i1 + (1 : Int32)) + (1 : Int32)) + (1 : Int32)) + (1 : Int32))), (.ref a1)])) _
              refine XT.l2i X20.here hx rfl (hb hby own_d2_32) rfl ?_
              show Steps p.tables e below (T20.setTop (mkF m 33 #[.val (.long j1), .second, .val (.ref a1), .val (.int i1), .val (.int (((((i1 + (1 : Int32)) + (1 : Int32)) + (1 : Int32)) + (1 : Int32)) + (1 : Int32))), .val (.long (own_c4 j1)), .second] [(.int ((((own_c4 j1) &&& (127 : Int64)) ||| (128 : Int64)).toInt32)), (.int ((((i1 + (1 : Int32)) + (1 : Int32)) + (1 : Int32)) + (1 : Int32))), (.ref a1)])) _
              refine XT.i2b X20.here hx rfl (hb hby own_d2_33) rfl ?_
              show Steps p.tables e below (T20.setTop (mkF m 34 #[.val (.long j1), .second, .val (.ref a1), .val (.int i1), .val (.int (((((i1 + (1 : Int32)) + (1 : Int32)) + (1 : Int32)) + (1 : Int32)) + (1 : Int32))), .val (.long (own_c4 j1)), .second] [(.int (((((own_c4 j1) &&& (127 : Int64)) ||| (128 : Int64)).toInt32).toInt8.toInt32)), (.int ((((i1 + (1 : Int32)) + (1 : Int32)) + (1 : Int32)) + (1 : Int32))), (.ref a1)])) _
              refine st25 _ ?_
              show Steps p.tables e below (T25.setTop (mkF m 35 #[.val (.long j1), .second, .val (.ref a1), .val (.int i1), .val (.int (((((i1 + (1 : Int32)) + (1 : Int32)) + (1 : Int32)) + (1 : Int32)) + (1 : Int32))), .val (.long (own_c4 j1)), .second] [])) _
              refine XT.lload X25.here hx rfl (hb hby own_d2_35) rfl ?_
              show Steps p.tables e below (T25.setTop (mkF m 37 #[.val (.long j1), .second, .val (.ref a1), .val (.int i1), .val (.int (((((i1 + (1 : Int32)) + (1 : Int32)) + (1 : Int32)) + (1 : Int32)) + (1 : Int32))), .val (.long (own_c4 j1)), .second] [(.long (own_c4 j1))])) _
              refine XT.bipushV X25.here hx rfl (7 : Int32) (hb hby own_d2_37) rfl ?_
              show Steps p.tables e below (T25.setTop (mkF m 39 #[.val (.long j1), .second, .val (.ref a1), .val (.int i1), .val (.int (((((i1 + (1 : Int32)) + (1 : Int32)) + (1 : Int32)) + (1 : Int32)) + (1 : Int32))), .val (.long (own_c4 j1)), .second] [(.int (7 : Int32)), (.long (own_c4 j1))])) _
              refine XT.lushr X25.here hx rfl (hb hby own_d2_39) rfl ?_
              show Steps p.tables e below (T25.setTop (mkF m 40 #[.val (.long j1), .second, .val (.ref a1), .val (.int i1), .val (.int (((((i1 + (1 : Int32)) + (1 : Int32)) + (1 : Int32)) + (1 : Int32)) + (1 : Int32))), .val (.long (own_c4 j1)), .second] [(.long (own_c5 j1))])) _
              refine XT.lstore X25.here hx rfl (hb hby own_d2_40) rfl (l' := #[.val (.long j1), .second, .val (.ref a1), .val (.int i1), .val (.int (((((i1 + (1 : Int32)) + (1 : Int32)) + (1 : Int32)) + (1 : Int32)) + (1 : Int32))), .val (.long (own_c5 j1)), .second]) rfl ?_
              show Steps p.tables e below (T25.setTop (mkF m 42 #[.val (.long j1), .second, .val (.ref a1), .val (.int i1), .val (.int (((((i1 + (1 : Int32)) + (1 : Int32)) + (1 : Int32)) + (1 : Int32)) + (1 : Int32))), .val (.long (own_c5 j1)), .second] [])) _
              refine XS.goto X25.here hx rfl (pc0 := 42) (pc' := 6) rfl (hb hby own_d2_42) (by decide) (by decide) ?_
              show Steps p.tables e below (T25.setTop (mkF m 6 #[.val (.long j1), .second, .val (.ref a1), .val (.int i1), .val (.int (((((i1 + (1 : Int32)) + (1 : Int32)) + (1 : Int32)) + (1 : Int32)) + (1 : Int32))), .val (.long (own_c5 j1)), .second] [])) _
              refine XT.lload X25.here hx rfl (hb hby own_d2_6) rfl ?_
              show Steps p.tables e below (T25.setTop (mkF m 8 #[.val (.long j1), .second, .val (.ref a1), .val (.int i1), .val (.int (((((i1 + (1 : Int32)) + (1 : Int32)) + (1 : Int32)) + (1 : Int32)) + (1 : Int32))), .val (.long (own_c5 j1)), .second] [(.long (own_c5 j1))])) _
              refine XT.bipushV X25.here hx rfl (7 : Int32) (hb hby own_d2_8) rfl ?_
              show Steps p.tables e below (T25.setTop (mkF m 10 #[.val (.long j1), .second, .val (.ref a1), .val (.int i1), .val (.int (((((i1 + (1 : Int32)) + (1 : Int32)) + (1 : Int32)) + (1 : Int32)) + (1 : Int32))), .val (.long (own_c5 j1)), .second] [(.int (7 : Int32)), (.long (own_c5 j1))])) _
              refine XT.lushr X25.here hx rfl (hb hby own_d2_10) rfl ?_
              show Steps p.tables e below (T25.setTop (mkF m 11 #[.val (.long j1), .second, .val (.ref a1), .val (.int i1), .val (.int (((((i1 + (1 : Int32)) + (1 : Int32)) + (1 : Int32)) + (1 : Int32)) + (1 : Int32))), .val (.long (own_c5 j1)), .second] [(.long (own_c6 j1))])) _
              refine XT.lconstV X25.here hx rfl (0 : Int64) (hb hby own_d2_11) rfl ?_
              show Steps p.tables e below (T25.setTop (mkF m 12 #[.val (.long j1), .second, .val (.ref a1), .val (.int i1), .val (.int (((((i1 + (1 : Int32)) + (1 : Int32)) + (1 : Int32)) + (1 : Int32)) + (1 : Int32))), .val (.long (own_c5 j1)), .second] [(.long (0 : Int64)), (.long (own_c6 j1))])) _
              refine XT.lcmp X25.here hx rfl (hb hby own_d2_12) rfl ?_
              exact k)
            by_cases hz5 : (own_c6 j1) = (0 : Int64)
            · obtain ⟨cl27, Ar27, Q27, Sz27, Nn27, Ha27, Gf27⟩ := id V25
              have ghin27 : ¬ ((((((i1 + (1 : Int32)) + (1 : Int32)) + (1 : Int32)) + (1 : Int32)) + (1 : Int32)) < 0 ∨ cl27.slots.size ≤ ((((((i1 + (1 : Int32)) + (1 : Int32)) + (1 : Int32)) + (1 : Int32)) + (1 : Int32))).toNatClampNeg) := inb_of Sz27 hin5
              obtain ⟨T28, h28, X28, e28, W28, st28⟩ := stB X25 hx hZ e25 Ar27 (j := (((((i1 + (1 : Int32)) + (1 : Int32)) + (1 : Int32)) + (1 : Int32)) + (1 : Int32))) ghin27 (g := (mkF m 55 #[.val (.long j1), .second, .val (.ref a1), .val (.int i1), .val (.int ((((((i1 + (1 : Int32)) + (1 : Int32)) + (1 : Int32)) + (1 : Int32)) + (1 : Int32)) + (1 : Int32))), .val (.long (own_c5 j1)), .second] [(.int (((own_c5 j1).toInt32).toInt8.toInt32)), (.int (((((i1 + (1 : Int32)) + (1 : Int32)) + (1 : Int32)) + (1 : Int32)) + (1 : Int32))), (.ref a1)])) rfl rfl (hb hby own_d2_55)
              have V28 : Arv Z h28 a1 kc .byte (16 : Int32) ((((((vs.set (i1).toNatClampNeg (.int (((((j1 &&& (127 : Int64)) ||| (128 : Int64)).toInt32).toInt8.toInt32).toInt8.toInt32))).set ((i1 + (1 : Int32))).toNatClampNeg (.int ((((((own_c1 j1) &&& (127 : Int64)) ||| (128 : Int64)).toInt32).toInt8.toInt32).toInt8.toInt32))).set (((i1 + (1 : Int32)) + (1 : Int32))).toNatClampNeg (.int ((((((own_c2 j1) &&& (127 : Int64)) ||| (128 : Int64)).toInt32).toInt8.toInt32).toInt8.toInt32))).set ((((i1 + (1 : Int32)) + (1 : Int32)) + (1 : Int32))).toNatClampNeg (.int ((((((own_c3 j1) &&& (127 : Int64)) ||| (128 : Int64)).toInt32).toInt8.toInt32).toInt8.toInt32))).set (((((i1 + (1 : Int32)) + (1 : Int32)) + (1 : Int32)) + (1 : Int32))).toNatClampNeg (.int ((((((own_c4 j1) &&& (127 : Int64)) ||| (128 : Int64)).toInt32).toInt8.toInt32).toInt8.toInt32))).set ((((((i1 + (1 : Int32)) + (1 : Int32)) + (1 : Int32)) + (1 : Int32)) + (1 : Int32))).toNatClampNeg (.int ((((own_c5 j1).toInt32).toInt8.toInt32).toInt8.toInt32))) (.int (0 : Int32)) := Arv.set Ar27 Q27 Sz27 Nn27 Ha27 Gf27 (fits_nar_byte _) W28 _ rfl (by simp only [List.length_set]; rw [hlen]; exact hlt5)
              have K28 : Keep h0 h28 [a1] := K25.wr W28 (Or.inl (List.mem_of_getElem? (i := 0) rfl))
              have N28 := Fr.snoc X28 N25 g_a1
              obtain ⟨fs, hr, hrun, hended, hW, hsame⟩ := X28.leave (v := some (.int ((((((i1 + (1 : Int32)) + (1 : Int32)) + (1 : Int32)) + (1 : Int32)) + (1 : Int32)) + (1 : Int32)))) (fun h => by rw [Bd.returns] at h; cases h)
              refine ⟨_, _, pre26 _ ?_, hrun, hended, _, _, rfl, ?_, ⟨_, rfl⟩, hW, hsame.mono (by decide) (by decide)⟩
              · show Steps p.tables e below (T25.setTop (mkF m 13 #[.val (.long j1), .second, .val (.ref a1), .val (.int i1), .val (.int (((((i1 + (1 : Int32)) + (1 : Int32)) + (1 : Int32)) + (1 : Int32)) + (1 : Int32))), .val (.long (own_c5 j1)), .second] [(.int (XT.cmpL (own_c6 j1) (0 : Int64)))])) _
                refine XS.ifYes X25.here hx rfl (pc0 := 13) (pc' := 45) rfl (hb hby own_d2_13) rfl (XT.ll_eq_t hz5) (by decide) (by decide) ?_
                show Steps p.tables e below (T25.setTop (mkF m 45 #[.val (.long j1), .second, .val (.ref a1), .val (.int i1), .val (.int (((((i1 + (1 : Int32)) + (1 : Int32)) + (1 : Int32)) + (1 : Int32)) + (1 : Int32))), .val (.long (own_c5 j1)), .second] [])) _
                refine XS.aloadN X25.here hx rfl (hb hby own_d2_45) rfl rfl ?_
                show Steps p.tables e below (T25.setTop (mkF m 46 #[.val (.long j1), .second, .val (.ref a1), .val (.int i1), .val (.int (((((i1 + (1 : Int32)) + (1 : Int32)) + (1 : Int32)) + (1 : Int32)) + (1 : Int32))), .val (.long (own_c5 j1)), .second] [(.ref a1)])) _
                refine XS.iload X25.here hx rfl (hb hby own_d2_46) rfl ?_
                show Steps p.tables e below (T25.setTop (mkF m 48 #[.val (.long j1), .second, .val (.ref a1), .val (.int i1), .val (.int (((((i1 + (1 : Int32)) + (1 : Int32)) + (1 : Int32)) + (1 : Int32)) + (1 : Int32))), .val (.long (own_c5 j1)), .second] [(.int (((((i1 + (1 : Int32)) + (1 : Int32)) + (1 : Int32)) + (1 : Int32)) + (1 : Int32))), (.ref a1)])) _
                refine XT.iincV X25.here hx rfl (1 : Int32) (hb hby own_d2_48) rfl rfl (l' := #[.val (.long j1), .second, .val (.ref a1), .val (.int i1), .val (.int ((((((i1 + (1 : Int32)) + (1 : Int32)) + (1 : Int32)) + (1 : Int32)) + (1 : Int32)) + (1 : Int32))), .val (.long (own_c5 j1)), .second]) rfl ?_
                show Steps p.tables e below (T25.setTop (mkF m 51 #[.val (.long j1), .second, .val (.ref a1), .val (.int i1), .val (.int ((((((i1 + (1 : Int32)) + (1 : Int32)) + (1 : Int32)) + (1 : Int32)) + (1 : Int32)) + (1 : Int32))), .val (.long (own_c5 j1)), .second] [(.int (((((i1 + (1 : Int32)) + (1 : Int32)) + (1 : Int32)) + (1 : Int32)) + (1 : Int32))), (.ref a1)])) _
                refine XT.lload X25.here hx rfl (hb hby own_d2_51) rfl ?_
                show Steps p.tables e below (T25.setTop (mkF m 53 #[.val (.long j1), .second, .val (.ref a1), .val (.int i1), .val (.int ((((((i1 + (1 : Int32)) + (1 : Int32)) + (1 : Int32)) + (1 : Int32)) + (1 : Int32)) + (1 : Int32))), .val (.long (own_c5 j1)), .second] [(.long (own_c5 j1)), (.int (((((i1 + (1 : Int32)) + (1 : Int32)) + (1 : Int32)) + (1 : Int32)) + (1 : Int32))), (.ref a1)])) _
                refine XT.l2i X25.here hx rfl (hb hby own_d2_53) rfl ?_
                show Steps p.tables e below (T25.setTop (mkF m 54 #[.val (.long j1), .second, .val (.ref a1), .val (.int i1), .val (.int ((((((i1 + (1 : Int32)) + (1 : Int32)) + (1 : Int32)) + (1 : Int32)) + (1 : Int32)) + (1 : Int32))), .val (.long (own_c5 j1)), .second] [(.int ((own_c5 j1).toInt32)), (.int (((((i1 + (1 : Int32)) + (1 : Int32)) + (1 : Int32)) + (1 : Int32)) + (1 : Int32))), (.ref a1)])) _
                refine XT.i2b X25.here hx rfl (hb hby own_d2_54) rfl ?_
                show Steps p.tables e below (T25.setTop (mkF m 55 #[.val (.long j1), .second, .val (.ref a1), .val (.int i1), .val (.int ((((((i1 + (1 : Int32)) + (1 : Int32)) + (1 : Int32)) + (1 : Int32)) + (1 : Int32)) + (1 : Int32))), .val (.long (own_c5 j1)), .second] [(.int (((own_c5 j1).toInt32).toInt8.toInt32)), (.int (((((i1 + (1 : Int32)) + (1 : Int32)) + (1 : Int32)) + (1 : Int32)) + (1 : Int32))), (.ref a1)])) _
                refine st28 _ ?_
                show Steps p.tables e below (T28.setTop (mkF m 56 #[.val (.long j1), .second, .val (.ref a1), .val (.int i1), .val (.int ((((((i1 + (1 : Int32)) + (1 : Int32)) + (1 : Int32)) + (1 : Int32)) + (1 : Int32)) + (1 : Int32))), .val (.long (own_c5 j1)), .second] [])) _
                refine XS.iload X28.here hx rfl (hb hby own_d2_56) rfl ?_
                show Steps p.tables e below (T28.setTop (mkF m 58 #[.val (.long j1), .second, .val (.ref a1), .val (.int i1), .val (.int ((((((i1 + (1 : Int32)) + (1 : Int32)) + (1 : Int32)) + (1 : Int32)) + (1 : Int32)) + (1 : Int32))), .val (.long (own_c5 j1)), .second] [(.int ((((((i1 + (1 : Int32)) + (1 : Int32)) + (1 : Int32)) + (1 : Int32)) + (1 : Int32)) + (1 : Int32)))])) _
                exact retOut X28 hx (t := .int) Bd.returns rfl (Or.inl ⟨rfl, Or.inl rfl, _, rfl⟩) (hb hby own_d2_58) hr
              · show own_Q2 Z j1 a1 i1 kc vs h0 n0 _ T28.heap _
                rw [e28]
                exact ⟨by unfold own_end; rw [if_neg hz0, if_neg hz1, if_neg hz2, if_neg hz3, if_neg hz4, if_pos hz5], N28, K28, (by unfold own_wr; rw [if_neg hz0, if_neg hz1, if_neg hz2, if_neg hz3, if_neg hz4, if_pos hz5]; exact V28)⟩
            · obtain ⟨cl29, Ar29, Q29, Sz29, Nn29, Ha29, Gf29⟩ := id V25
              have ghin29 : ¬ ((((((i1 + (1 : Int32)) + (1 : Int32)) + (1 : Int32)) + (1 : Int32)) + (1 : Int32)) < 0 ∨ cl29.slots.size ≤ ((((((i1 + (1 : Int32)) + (1 : Int32)) + (1 : Int32)) + (1 : Int32)) + (1 : Int32))).toNatClampNeg) := inb_of Sz29 hin5
              obtain ⟨T30, h30, X30, e30, W30, st30⟩ := stB X25 hx hZ e25 Ar29 (j := (((((i1 + (1 : Int32)) + (1 : Int32)) + (1 : Int32)) + (1 : Int32)) + (1 : Int32))) ghin29 (g := (mkF m 34 #[.val (.long j1), .second, .val (.ref a1), .val (.int i1), .val (.int ((((((i1 + (1 : Int32)) + (1 : Int32)) + (1 : Int32)) + (1 : Int32)) + (1 : Int32)) + (1 : Int32))), .val (.long (own_c5 j1)), .second] [(.int (((((own_c5 j1) &&& (127 : Int64)) ||| (128 : Int64)).toInt32).toInt8.toInt32)), (.int (((((i1 + (1 : Int32)) + (1 : Int32)) + (1 : Int32)) + (1 : Int32)) + (1 : Int32))), (.ref a1)])) rfl rfl (hb hby own_d2_34)
              have V30 : Arv Z h30 a1 kc .byte (16 : Int32) ((((((vs.set (i1).toNatClampNeg (.int (((((j1 &&& (127 : Int64)) ||| (128 : Int64)).toInt32).toInt8.toInt32).toInt8.toInt32))).set ((i1 + (1 : Int32))).toNatClampNeg (.int ((((((own_c1 j1) &&& (127 : Int64)) ||| (128 : Int64)).toInt32).toInt8.toInt32).toInt8.toInt32))).set (((i1 + (1 : Int32)) + (1 : Int32))).toNatClampNeg (.int ((((((own_c2 j1) &&& (127 : Int64)) ||| (128 : Int64)).toInt32).toInt8.toInt32).toInt8.toInt32))).set ((((i1 + (1 : Int32)) + (1 : Int32)) + (1 : Int32))).toNatClampNeg (.int ((((((own_c3 j1) &&& (127 : Int64)) ||| (128 : Int64)).toInt32).toInt8.toInt32).toInt8.toInt32))).set (((((i1 + (1 : Int32)) + (1 : Int32)) + (1 : Int32)) + (1 : Int32))).toNatClampNeg (.int ((((((own_c4 j1) &&& (127 : Int64)) ||| (128 : Int64)).toInt32).toInt8.toInt32).toInt8.toInt32))).set ((((((i1 + (1 : Int32)) + (1 : Int32)) + (1 : Int32)) + (1 : Int32)) + (1 : Int32))).toNatClampNeg (.int ((((((own_c5 j1) &&& (127 : Int64)) ||| (128 : Int64)).toInt32).toInt8.toInt32).toInt8.toInt32))) (.int (0 : Int32)) := Arv.set Ar29 Q29 Sz29 Nn29 Ha29 Gf29 (fits_nar_byte _) W30 _ rfl (by simp only [List.length_set]; rw [hlen]; exact hlt5)
              have K30 : Keep h0 h30 [a1] := K25.wr W30 (Or.inl (List.mem_of_getElem? (i := 0) rfl))
              have N30 := Fr.snoc X30 N25 g_a1
              have pre31 : ∀ t, Steps p.tables e below (T30.setTop (mkF m 13 #[.val (.long j1), .second, .val (.ref a1), .val (.int i1), .val (.int ((((((i1 + (1 : Int32)) + (1 : Int32)) + (1 : Int32)) + (1 : Int32)) + (1 : Int32)) + (1 : Int32))), .val (.long (own_c6 j1)), .second] [(.int (XT.cmpL (own_c7 j1) (0 : Int64)))])) t → Steps p.tables e below (s₁.setTop (entryFrame m #[(.long j1), (.ref a1), (.int i1)] 7)) t := fun t k => pre26 t (by
                show Steps p.tables e below (T25.setTop (mkF m 13 #[.val (.long j1), .second, .val (.ref a1), .val (.int i1), .val (.int (((((i1 + (1 : Int32)) + (1 : Int32)) + (1 : Int32)) + (1 : Int32)) + (1 : Int32))), .val (.long (own_c5 j1)), .second] [(.int (XT.cmpL (own_c6 j1) (0 : Int64)))])) _
                refine XS.ifNo X25.here hx rfl (hb hby own_d2_13) rfl (XT.ll_eq_f hz5) ?_
                show Steps p.tables e below (T25.setTop (mkF m 16 #[.val (.long j1), .second, .val (.ref a1), .val (.int i1), .val (.int (((((i1 + (1 : Int32)) + (1 : Int32)) + (1 : Int32)) + (1 : Int32)) + (1 : Int32))), .val (.long (own_c5 j1)), .second] [])) _
                refine XS.aloadN X25.here hx rfl (hb hby own_d2_16) rfl rfl ?_
                show Steps p.tables e below (T25.setTop (mkF m 17 #[.val (.long j1), .second, .val (.ref a1), .val (.int i1), .val (.int (((((i1 + (1 : Int32)) + (1 : Int32)) + (1 : Int32)) + (1 : Int32)) + (1 : Int32))), .val (.long (own_c5 j1)), .second] [(.ref a1)])) _
                refine XS.iload X25.here hx rfl (hb hby own_d2_17) rfl ?_
                show Steps p.tables e below (T25.setTop (mkF m 19 #[.val (.long j1), .second, .val (.ref a1), .val (.int i1), .val (.int (((((i1 + (1 : Int32)) + (1 : Int32)) + (1 : Int32)) + (1 : Int32)) + (1 : Int32))), .val (.long (own_c5 j1)), .second] [(.int (((((i1 + (1 : Int32)) + (1 : Int32)) + (1 : Int32)) + (1 : Int32)) + (1 : Int32))), (.ref a1)])) _
                refine XT.iincV X25.here hx rfl (1 : Int32) (hb hby own_d2_19) rfl rfl (l' := #[.val (.long j1), .second, .val (.ref a1), .val (.int i1), .val (.int ((((((i1 + (1 : Int32)) + (1 : Int32)) + (1 : Int32)) + (1 : Int32)) + (1 : Int32)) + (1 : Int32))), .val (.long (own_c5 j1)), .second]) rfl ?_
                show Steps p.tables e below (T25.setTop (mkF m 22 #[.val (.long j1), .second, .val (.ref a1), .val (.int i1), .val (.int ((((((i1 + (1 : Int32)) + (1 : Int32)) + (1 : Int32)) + (1 : Int32)) + (1 : Int32)) + (1 : Int32))), .val (.long (own_c5 j1)), .second] [(.int (((((i1 + (1 : Int32)) + (1 : Int32)) + (1 : Int32)) + (1 : Int32)) + (1 : Int32))), (.ref a1)])) _
                refine XT.lload X25.here hx rfl (hb hby own_d2_22) rfl ?_
                show Steps p.tables e below (T25.setTop (mkF m 24 #[.val (.long j1), .second, .val (.ref a1), .val (.int i1), .val (.int ((((((i1 + (1 : Int32)) + (1 : Int32)) + (1 : Int32)) + (1 : Int32)) + (1 : Int32)) + (1 : Int32))), .val (.long (own_c5 j1)), .second] [(.long (own_c5 j1)), (.int (((((i1 + (1 : Int32)) + (1 : Int32)) + (1 : Int32)) + (1 : Int32)) + (1 : Int32))), (.ref a1)])) _
                refine X25.ldc2J hx hown (mvT hZ (hw _ (List.mem_of_getElem? (i := 20) rfl))) (g := (mkF m 24 #[.val (.long j1), .second, .val (.ref a1), .val (.int i1), .val (.int ((((((i1 + (1 : Int32)) + (1 : Int32)) + (1 : Int32)) + (1 : Int32)) + (1 : Int32)) + (1 : Int32))), .val (.long (own_c5 j1)), .second] [(.long (own_c5 j1)), (.int (((((i1 + (1 : Int32)) + (1 : Int32)) + (1 : Int32)) + (1 : Int32)) + (1 : Int32))), (.ref a1)])) rfl (hb hby own_d2_24) ?_
                show Steps p.tables e below (T25.setTop (mkF m 27 #[.val (.long j1), .second, .val (.ref a1), .val (.int i1), .val (.int ((((((i1 + (1 : Int32)) + (1 : Int32)) + (1 : Int32)) + (1 : Int32)) + (1 : Int32)) + (1 : Int32))), .val (.long (own_c5 j1)), .second] [(.long (127 : Int64)), (.long (own_c5 j1)), (.int (((((i1 + (1 : Int32)) + (1 : Int32)) + (1 : Int32)) + (1 : Int32)) + (1 : Int32))), (.ref a1)])) _
                refine XT.land X25.here hx rfl (hb hby own_d2_27) rfl ?_
                show Steps p.tables e below (T25.setTop (mkF m 28 #[.val (.long j1), .second, .val (.ref a1), .val (.int i1), .val (.int ((((((i1 + (1 : Int32)) + (1 : Int32)) + (1 : Int32)) + (1 : Int32)) + (1 : Int32)) + (1 : Int32))), .val (.long (own_c5 j1)), .second] [(.long ((own_c5 j1) &&& (127 : Int64))), (.int (((((i1 + (1 : Int32)) + (1 : Int32)) + (1 : Int32)) + (1 : Int32)) + (1 : Int32))), (.ref a1)])) _
                refine X25.ldc2J hx hown (mvT hZ (hw _ (List.mem_of_getElem? (i := 21) rfl))) (g := (mkF m 28 #[.val (.long j1), .second, .val (.ref a1), .val (.int i1), .val (.int ((((((i1 + (1 : Int32)) + (1 : Int32)) + (1 : Int32)) + (1 : Int32)) + (1 : Int32)) + (1 : Int32))), .val (.long (own_c5 j1)), .second] [(.long ((own_c5 j1) &&& (127 : Int64))), (.int (((((i1 + (1 : Int32)) + (1 : Int32)) + (1 : Int32)) + (1 : Int32)) + (1 : Int32))), (.ref a1)])) rfl (hb hby own_d2_28) ?_
                show Steps p.tables e below (T25.setTop (mkF m 31 #[.val (.long j1), .second, .val (.ref a1), .val (.int i1), .val (.int ((((((i1 + (1 : Int32)) + (1 : Int32)) + (1 : Int32)) + (1 : Int32)) + (1 : Int32)) + (1 : Int32))), .val (.long (own_c5 j1)), .second] [(.long (128 : Int64)), (.long ((own_c5 j1) &&& (127 : Int64))), (.int (((((i1 + (1 : Int32)) + (1 : Int32)) + (1 : Int32)) + (1 : Int32)) + (1 : Int32))), (.ref a1)])) _
                refine XT.lor X25.here hx rfl (hb hby own_d2_31) rfl ?_
                show Steps p.tables e below (T25.setTop (mkF m 32 #[.val (.long j1), .second, .val (.ref a1), .val (.int i1), .val (.int ((((((i1 + (1 : Int32)) + (1 : Int32)) + (1 : Int32)) + (1 : Int32)) + (1 : Int32)) + (1 : Int32))), .val (.long (own_c5 j1)), .second] [(.long (((own_c5 j1) &&& (127 : Int64)) ||| (128 : Int64))), (.int (((((i1 + (1 : Int32)) + (1 : Int32)) + (1 : Int32)) + (1 : Int32)) + (1 : Int32))), (.ref a1)])) _
                refine XT.l2i X25.here hx rfl (hb hby own_d2_32) rfl ?_
                show Steps p.tables e below (T25.setTop (mkF m 33 #[.val (.long j1), .second, .val (.ref a1), .val (.int i1), .val (.int ((((((i1 + (1 : Int32)) + (1 : Int32)) + (1 : Int32)) + (1 : Int32)) + (1 : Int32)) + (1 : Int32))), .val (.long (own_c5 j1)), .second] [(.int ((((own_c5 j1) &&& (127 : Int64)) ||| (128 : Int64)).toInt32)), (.int (((((i1 + (1 : Int32)) + (1 : Int32)) + (1 : Int32)) + (1 : Int32)) + (1 : Int32))), (.ref a1)])) _
                refine XT.i2b X25.here hx rfl (hb hby own_d2_33) rfl ?_
                show Steps p.tables e below (T25.setTop (mkF m 34 #[.val (.long j1), .second, .val (.ref a1), .val (.int i1), .val (.int ((((((i1 + (1 : Int32)) + (1 : Int32)) + (1 : Int32)) + (1 : Int32)) + (1 : Int32)) + (1 : Int32))), .val (.long (own_c5 j1)), .second] [(.int (((((own_c5 j1) &&& (127 : Int64)) ||| (128 : Int64)).toInt32).toInt8.toInt32)), (.int (((((i1 + (1 : Int32)) + (1 : Int32)) + (1 : Int32)) + (1 : Int32)) + (1 : Int32))), (.ref a1)])) _
                refine st30 _ ?_
                show Steps p.tables e below (T30.setTop (mkF m 35 #[.val (.long j1), .second, .val (.ref a1), .val (.int i1), .val (.int ((((((i1 + (1 : Int32)) + (1 : Int32)) + (1 : Int32)) + (1 : Int32)) + (1 : Int32)) + (1 : Int32))), .val (.long (own_c5 j1)), .second] [])) _
                refine XT.lload X30.here hx rfl (hb hby own_d2_35) rfl ?_
                show Steps p.tables e below (T30.setTop (mkF m 37 #[.val (.long j1), .second, .val (.ref a1), .val (.int i1), .val (.int ((((((i1 + (1 : Int32)) + (1 : Int32)) + (1 : Int32)) + (1 : Int32)) + (1 : Int32)) + (1 : Int32))), .val (.long (own_c5 j1)), .second] [(.long (own_c5 j1))])) _
                refine XT.bipushV X30.here hx rfl (7 : Int32) (hb hby own_d2_37) rfl ?_
                show Steps p.tables e below (T30.setTop (mkF m 39 #[.val (.long j1), .second, .val (.ref a1), .val (.int i1), .val (.int ((((((i1 + (1 : Int32)) + (1 : Int32)) + (1 : Int32)) + (1 : Int32)) + (1 : Int32)) + (1 : Int32))), .val (.long (own_c5 j1)), .second] [(.int (7 : Int32)), (.long (own_c5 j1))])) _
                refine XT.lushr X30.here hx rfl (hb hby own_d2_39) rfl ?_
                show Steps p.tables e below (T30.setTop (mkF m 40 #[.val (.long j1), .second, .val (.ref a1), .val (.int i1), .val (.int ((((((i1 + (1 : Int32)) + (1 : Int32)) + (1 : Int32)) + (1 : Int32)) + (1 : Int32)) + (1 : Int32))), .val (.long (own_c5 j1)), .second] [(.long (own_c6 j1))])) _
                refine XT.lstore X30.here hx rfl (hb hby own_d2_40) rfl (l' := #[.val (.long j1), .second, .val (.ref a1), .val (.int i1), .val (.int ((((((i1 + (1 : Int32)) + (1 : Int32)) + (1 : Int32)) + (1 : Int32)) + (1 : Int32)) + (1 : Int32))), .val (.long (own_c6 j1)), .second]) rfl ?_
                show Steps p.tables e below (T30.setTop (mkF m 42 #[.val (.long j1), .second, .val (.ref a1), .val (.int i1), .val (.int ((((((i1 + (1 : Int32)) + (1 : Int32)) + (1 : Int32)) + (1 : Int32)) + (1 : Int32)) + (1 : Int32))), .val (.long (own_c6 j1)), .second] [])) _
                refine XS.goto X30.here hx rfl (pc0 := 42) (pc' := 6) rfl (hb hby own_d2_42) (by decide) (by decide) ?_
                show Steps p.tables e below (T30.setTop (mkF m 6 #[.val (.long j1), .second, .val (.ref a1), .val (.int i1), .val (.int ((((((i1 + (1 : Int32)) + (1 : Int32)) + (1 : Int32)) + (1 : Int32)) + (1 : Int32)) + (1 : Int32))), .val (.long (own_c6 j1)), .second] [])) _
                refine XT.lload X30.here hx rfl (hb hby own_d2_6) rfl ?_
                show Steps p.tables e below (T30.setTop (mkF m 8 #[.val (.long j1), .second, .val (.ref a1), .val (.int i1), .val (.int ((((((i1 + (1 : Int32)) + (1 : Int32)) + (1 : Int32)) + (1 : Int32)) + (1 : Int32)) + (1 : Int32))), .val (.long (own_c6 j1)), .second] [(.long (own_c6 j1))])) _
                refine XT.bipushV X30.here hx rfl (7 : Int32) (hb hby own_d2_8) rfl ?_
                show Steps p.tables e below (T30.setTop (mkF m 10 #[.val (.long j1), .second, .val (.ref a1), .val (.int i1), .val (.int ((((((i1 + (1 : Int32)) + (1 : Int32)) + (1 : Int32)) + (1 : Int32)) + (1 : Int32)) + (1 : Int32))), .val (.long (own_c6 j1)), .second] [(.int (7 : Int32)), (.long (own_c6 j1))])) _
                refine XT.lushr X30.here hx rfl (hb hby own_d2_10) rfl ?_
                show Steps p.tables e below (T30.setTop (mkF m 11 #[.val (.long j1), .second, .val (.ref a1), .val (.int i1), .val (.int ((((((i1 + (1 : Int32)) + (1 : Int32)) + (1 : Int32)) + (1 : Int32)) + (1 : Int32)) + (1 : Int32))), .val (.long (own_c6 j1)), .second] [(.long (own_c7 j1))])) _
                refine XT.lconstV X30.here hx rfl (0 : Int64) (hb hby own_d2_11) rfl ?_
                show Steps p.tables e below (T30.setTop (mkF m 12 #[.val (.long j1), .second, .val (.ref a1), .val (.int i1), .val (.int ((((((i1 + (1 : Int32)) + (1 : Int32)) + (1 : Int32)) + (1 : Int32)) + (1 : Int32)) + (1 : Int32))), .val (.long (own_c6 j1)), .second] [(.long (0 : Int64)), (.long (own_c7 j1))])) _
                refine XT.lcmp X30.here hx rfl (hb hby own_d2_12) rfl ?_
                exact k)
              by_cases hz6 : (own_c7 j1) = (0 : Int64)
              · obtain ⟨cl32, Ar32, Q32, Sz32, Nn32, Ha32, Gf32⟩ := id V30
                have ghin32 : ¬ (((((((i1 + (1 : Int32)) + (1 : Int32)) + (1 : Int32)) + (1 : Int32)) + (1 : Int32)) + (1 : Int32)) < 0 ∨ cl32.slots.size ≤ (((((((i1 + (1 : Int32)) + (1 : Int32)) + (1 : Int32)) + (1 : Int32)) + (1 : Int32)) + (1 : Int32))).toNatClampNeg) := inb_of Sz32 hin6
                obtain ⟨T33, h33, X33, e33, W33, st33⟩ := stB X30 hx hZ e30 Ar32 (j := ((((((i1 + (1 : Int32)) + (1 : Int32)) + (1 : Int32)) + (1 : Int32)) + (1 : Int32)) + (1 : Int32))) ghin32 (g := (mkF m 55 #[.val (.long j1), .second, .val (.ref a1), .val (.int i1), .val (.int (((((((i1 + (1 : Int32)) + (1 : Int32)) + (1 : Int32)) + (1 : Int32)) + (1 : Int32)) + (1 : Int32)) + (1 : Int32))), .val (.long (own_c6 j1)), .second] [(.int (((own_c6 j1).toInt32).toInt8.toInt32)), (.int ((((((i1 + (1 : Int32)) + (1 : Int32)) + (1 : Int32)) + (1 : Int32)) + (1 : Int32)) + (1 : Int32))), (.ref a1)])) rfl rfl (hb hby own_d2_55)
                have V33 : Arv Z h33 a1 kc .byte (16 : Int32) (((((((vs.set (i1).toNatClampNeg (.int (((((j1 &&& (127 : Int64)) ||| (128 : Int64)).toInt32).toInt8.toInt32).toInt8.toInt32))).set ((i1 + (1 : Int32))).toNatClampNeg (.int ((((((own_c1 j1) &&& (127 : Int64)) ||| (128 : Int64)).toInt32).toInt8.toInt32).toInt8.toInt32))).set (((i1 + (1 : Int32)) + (1 : Int32))).toNatClampNeg (.int ((((((own_c2 j1) &&& (127 : Int64)) ||| (128 : Int64)).toInt32).toInt8.toInt32).toInt8.toInt32))).set ((((i1 + (1 : Int32)) + (1 : Int32)) + (1 : Int32))).toNatClampNeg (.int ((((((own_c3 j1) &&& (127 : Int64)) ||| (128 : Int64)).toInt32).toInt8.toInt32).toInt8.toInt32))).set (((((i1 + (1 : Int32)) + (1 : Int32)) + (1 : Int32)) + (1 : Int32))).toNatClampNeg (.int ((((((own_c4 j1) &&& (127 : Int64)) ||| (128 : Int64)).toInt32).toInt8.toInt32).toInt8.toInt32))).set ((((((i1 + (1 : Int32)) + (1 : Int32)) + (1 : Int32)) + (1 : Int32)) + (1 : Int32))).toNatClampNeg (.int ((((((own_c5 j1) &&& (127 : Int64)) ||| (128 : Int64)).toInt32).toInt8.toInt32).toInt8.toInt32))).set (((((((i1 + (1 : Int32)) + (1 : Int32)) + (1 : Int32)) + (1 : Int32)) + (1 : Int32)) + (1 : Int32))).toNatClampNeg (.int ((((own_c6 j1).toInt32).toInt8.toInt32).toInt8.toInt32))) (.int (0 : Int32)) := Arv.set Ar32 Q32 Sz32 Nn32 Ha32 Gf32 (fits_nar_byte _) W33 _ rfl (by simp only [List.length_set]; rw [hlen]; exact hlt6)
                have K33 : Keep h0 h33 [a1] := K30.wr W33 (Or.inl (List.mem_of_getElem? (i := 0) rfl))
                have N33 := Fr.snoc X33 N30 g_a1
                obtain ⟨fs, hr, hrun, hended, hW, hsame⟩ := X33.leave (v := some (.int (((((((i1 + (1 : Int32)) + (1 : Int32)) + (1 : Int32)) + (1 : Int32)) + (1 : Int32)) + (1 : Int32)) + (1 : Int32)))) (fun h => by rw [Bd.returns] at h; cases h)
                refine ⟨_, _, pre31 _ ?_, hrun, hended, _, _, rfl, ?_, ⟨_, rfl⟩, hW, hsame.mono (by decide) (by decide)⟩
                · show Steps p.tables e below (T30.setTop (mkF m 13 #[.val (.long j1), .second, .val (.ref a1), .val (.int i1), .val (.int ((((((i1 + (1 : Int32)) + (1 : Int32)) + (1 : Int32)) + (1 : Int32)) + (1 : Int32)) + (1 : Int32))), .val (.long (own_c6 j1)), .second] [(.int (XT.cmpL (own_c7 j1) (0 : Int64)))])) _
                  refine XS.ifYes X30.here hx rfl (pc0 := 13) (pc' := 45) rfl (hb hby own_d2_13) rfl (XT.ll_eq_t hz6) (by decide) (by decide) ?_
                  show Steps p.tables e below (T30.setTop (mkF m 45 #[.val (.long j1), .second, .val (.ref a1), .val (.int i1), .val (.int ((((((i1 + (1 : Int32)) + (1 : Int32)) + (1 : Int32)) + (1 : Int32)) + (1 : Int32)) + (1 : Int32))), .val (.long (own_c6 j1)), .second] [])) _
                  refine XS.aloadN X30.here hx rfl (hb hby own_d2_45) rfl rfl ?_
                  show Steps p.tables e below (T30.setTop (mkF m 46 #[.val (.long j1), .second, .val (.ref a1), .val (.int i1), .val (.int ((((((i1 + (1 : Int32)) + (1 : Int32)) + (1 : Int32)) + (1 : Int32)) + (1 : Int32)) + (1 : Int32))), .val (.long (own_c6 j1)), .second] [(.ref a1)])) _
                  refine XS.iload X30.here hx rfl (hb hby own_d2_46) rfl ?_
                  show Steps p.tables e below (T30.setTop (mkF m 48 #[.val (.long j1), .second, .val (.ref a1), .val (.int i1), .val (.int ((((((i1 + (1 : Int32)) + (1 : Int32)) + (1 : Int32)) + (1 : Int32)) + (1 : Int32)) + (1 : Int32))), .val (.long (own_c6 j1)), .second] [(.int ((((((i1 + (1 : Int32)) + (1 : Int32)) + (1 : Int32)) + (1 : Int32)) + (1 : Int32)) + (1 : Int32))), (.ref a1)])) _
                  refine XT.iincV X30.here hx rfl (1 : Int32) (hb hby own_d2_48) rfl rfl (l' := #[.val (.long j1), .second, .val (.ref a1), .val (.int i1), .val (.int (((((((i1 + (1 : Int32)) + (1 : Int32)) + (1 : Int32)) + (1 : Int32)) + (1 : Int32)) + (1 : Int32)) + (1 : Int32))), .val (.long (own_c6 j1)), .second]) rfl ?_
                  show Steps p.tables e below (T30.setTop (mkF m 51 #[.val (.long j1), .second, .val (.ref a1), .val (.int i1), .val (.int (((((((i1 + (1 : Int32)) + (1 : Int32)) + (1 : Int32)) + (1 : Int32)) + (1 : Int32)) + (1 : Int32)) + (1 : Int32))), .val (.long (own_c6 j1)), .second] [(.int ((((((i1 + (1 : Int32)) + (1 : Int32)) + (1 : Int32)) + (1 : Int32)) + (1 : Int32)) + (1 : Int32))), (.ref a1)])) _
                  refine XT.lload X30.here hx rfl (hb hby own_d2_51) rfl ?_
                  show Steps p.tables e below (T30.setTop (mkF m 53 #[.val (.long j1), .second, .val (.ref a1), .val (.int i1), .val (.int (((((((i1 + (1 : Int32)) + (1 : Int32)) + (1 : Int32)) + (1 : Int32)) + (1 : Int32)) + (1 : Int32)) + (1 : Int32))), .val (.long (own_c6 j1)), .second] [(.long (own_c6 j1)), (.int ((((((i1 + (1 : Int32)) + (1 : Int32)) + (1 : Int32)) + (1 : Int32)) + (1 : Int32)) + (1 : Int32))), (.ref a1)])) _
                  refine XT.l2i X30.here hx rfl (hb hby own_d2_53) rfl ?_
                  show Steps p.tables e below (T30.setTop (mkF m 54 #[.val (.long j1), .second, .val (.ref a1), .val (.int i1), .val (.int (((((((i1 + (1 : Int32)) + (1 : Int32)) + (1 : Int32)) + (1 : Int32)) + (1 : Int32)) + (1 : Int32)) + (1 : Int32))), .val (.long (own_c6 j1)), .second] [(.int ((own_c6 j1).toInt32)), (.int ((((((i1 + (1 : Int32)) + (1 : Int32)) + (1 : Int32)) + (1 : Int32)) + (1 : Int32)) + (1 : Int32))), (.ref a1)])) _
                  refine XT.i2b X30.here hx rfl (hb hby own_d2_54) rfl ?_
                  show Steps p.tables e below (T30.setTop (mkF m 55 #[.val (.long j1), .second, .val (.ref a1), .val (.int i1), .val (.int (((((((i1 + (1 : Int32)) + (1 : Int32)) + (1 : Int32)) + (1 : Int32)) + (1 : Int32)) + (1 : Int32)) + (1 : Int32))), .val (.long (own_c6 j1)), .second] [(.int (((own_c6 j1).toInt32).toInt8.toInt32)), (.int ((((((i1 + (1 : Int32)) + (1 : Int32)) + (1 : Int32)) + (1 : Int32)) + (1 : Int32)) + (1 : Int32))), (.ref a1)])) _
                  refine st33 _ ?_
                  show Steps p.tables e below (T33.setTop (mkF m 56 #[.val (.long j1), .second, .val (.ref a1), .val (.int i1), .val (.int (((((((i1 + (1 : Int32)) + (1 : Int32)) + (1 : Int32)) + (1 : Int32)) + (1 : Int32)) + (1 : Int32)) + (1 : Int32))), .val (.long (own_c6 j1)), .second] [])) _
                  refine XS.iload X33.here hx rfl (hb hby own_d2_56) rfl ?_
                  show Steps p.tables e below (T33.setTop (mkF m 58 #[.val (.long j1), .second, .val (.ref a1), .val (.int i1), .val (.int (((((((i1 + (1 : Int32)) + (1 : Int32)) + (1 : Int32)) + (1 : Int32)) + (1 : Int32)) + (1 : Int32)) + (1 : Int32))), .val (.long (own_c6 j1)), .second] [(.int (((((((i1 + (1 : Int32)) + (1 : Int32)) + (1 : Int32)) + (1 : Int32)) + (1 : Int32)) + (1 : Int32)) + (1 : Int32)))])) _
                  exact retOut X33 hx (t := .int) Bd.returns rfl (Or.inl ⟨rfl, Or.inl rfl, _, rfl⟩) (hb hby own_d2_58) hr
                · show own_Q2 Z j1 a1 i1 kc vs h0 n0 _ T33.heap _
                  rw [e33]
                  exact ⟨by unfold own_end; rw [if_neg hz0, if_neg hz1, if_neg hz2, if_neg hz3, if_neg hz4, if_neg hz5, if_pos hz6], N33, K33, (by unfold own_wr; rw [if_neg hz0, if_neg hz1, if_neg hz2, if_neg hz3, if_neg hz4, if_neg hz5, if_pos hz6]; exact V33)⟩
              · obtain ⟨cl34, Ar34, Q34, Sz34, Nn34, Ha34, Gf34⟩ := id V30
                have ghin34 : ¬ (((((((i1 + (1 : Int32)) + (1 : Int32)) + (1 : Int32)) + (1 : Int32)) + (1 : Int32)) + (1 : Int32)) < 0 ∨ cl34.slots.size ≤ (((((((i1 + (1 : Int32)) + (1 : Int32)) + (1 : Int32)) + (1 : Int32)) + (1 : Int32)) + (1 : Int32))).toNatClampNeg) := inb_of Sz34 hin6
                obtain ⟨T35, h35, X35, e35, W35, st35⟩ := stB X30 hx hZ e30 Ar34 (j := ((((((i1 + (1 : Int32)) + (1 : Int32)) + (1 : Int32)) + (1 : Int32)) + (1 : Int32)) + (1 : Int32))) ghin34 (g := (mkF m 34 #[.val (.long j1), .second, .val (.ref a1), .val (.int i1), .val (.int (((((((i1 + (1 : Int32)) + (1 : Int32)) + (1 : Int32)) + (1 : Int32)) + (1 : Int32)) + (1 : Int32)) + (1 : Int32))), .val (.long (own_c6 j1)), .second] [(.int (((((own_c6 j1) &&& (127 : Int64)) ||| (128 : Int64)).toInt32).toInt8.toInt32)), (.int ((((((i1 + (1 : Int32)) + (1 : Int32)) + (1 : Int32)) + (1 : Int32)) + (1 : Int32)) + (1 : Int32))), (.ref a1)])) rfl rfl (hb hby own_d2_34)
                have V35 : Arv Z h35 a1 kc .byte (16 : Int32) (((((((vs.set (i1).toNatClampNeg (.int (((((j1 &&& (127 : Int64)) ||| (128 : Int64)).toInt32).toInt8.toInt32).toInt8.toInt32))).set ((i1 + (1 : Int32))).toNatClampNeg (.int ((((((own_c1 j1) &&& (127 : Int64)) ||| (128 : Int64)).toInt32).toInt8.toInt32).toInt8.toInt32))).set (((i1 + (1 : Int32)) + (1 : Int32))).toNatClampNeg (.int ((((((own_c2 j1) &&& (127 : Int64)) ||| (128 : Int64)).toInt32).toInt8.toInt32).toInt8.toInt32))).set ((((i1 + (1 : Int32)) + (1 : Int32)) + (1 : Int32))).toNatClampNeg (.int ((((((own_c3 j1) &&& (127 : Int64)) ||| (128 : Int64)).toInt32).toInt8.toInt32).toInt8.toInt32))).set (((((i1 + (1 : Int32)) + (1 : Int32)) + (1 : Int32)) + (1 : Int32))).toNatClampNeg (.int ((((((own_c4 j1) &&& (127 : Int64)) ||| (128 : Int64)).toInt32).toInt8.toInt32).toInt8.toInt32))).set ((((((i1 + (1 : Int32)) + (1 : Int32)) + (1 : Int32)) + (1 : Int32)) + (1 : Int32))).toNatClampNeg (.int ((((((own_c5 j1) &&& (127 : Int64)) ||| (128 : Int64)).toInt32).toInt8.toInt32).toInt8.toInt32))).set (((((((i1 + (1 : Int32)) + (1 : Int32)) + (1 : Int32)) + (1 : Int32)) + (1 : Int32)) + (1 : Int32))).toNatClampNeg (.int ((((((own_c6 j1) &&& (127 : Int64)) ||| (128 : Int64)).toInt32).toInt8.toInt32).toInt8.toInt32))) (.int (0 : Int32)) := Arv.set Ar34 Q34 Sz34 Nn34 Ha34 Gf34 (fits_nar_byte _) W35 _ rfl (by simp only [List.length_set]; rw [hlen]; exact hlt6)
                have K35 : Keep h0 h35 [a1] := K30.wr W35 (Or.inl (List.mem_of_getElem? (i := 0) rfl))
                have N35 := Fr.snoc X35 N30 g_a1
                have pre36 : ∀ t, Steps p.tables e below (T35.setTop (mkF m 13 #[.val (.long j1), .second, .val (.ref a1), .val (.int i1), .val (.int (((((((i1 + (1 : Int32)) + (1 : Int32)) + (1 : Int32)) + (1 : Int32)) + (1 : Int32)) + (1 : Int32)) + (1 : Int32))), .val (.long (own_c7 j1)), .second] [(.int (XT.cmpL (own_c8 j1) (0 : Int64)))])) t → Steps p.tables e below (s₁.setTop (entryFrame m #[(.long j1), (.ref a1), (.int i1)] 7)) t := fun t k => pre31 t (by
                  show Steps p.tables e below (T30.setTop (mkF m 13 #[.val (.long j1), .second, .val (.ref a1), .val (.int i1), .val (.int ((((((i1 + (1 : Int32)) + (1 : Int32)) + (1 : Int32)) + (1 : Int32)) + (1 : Int32)) + (1 : Int32))), .val (.long (own_c6 j1)), .second] [(.int (XT.cmpL (own_c7 j1) (0 : Int64)))])) _
                  refine XS.ifNo X30.here hx rfl (hb hby own_d2_13) rfl (XT.ll_eq_f hz6) ?_
                  show Steps p.tables e below (T30.setTop (mkF m 16 #[.val (.long j1), .second, .val (.ref a1), .val (.int i1), .val (.int ((((((i1 + (1 : Int32)) + (1 : Int32)) + (1 : Int32)) + (1 : Int32)) + (1 : Int32)) + (1 : Int32))), .val (.long (own_c6 j1)), .second] [])) _
                  refine XS.aloadN X30.here hx rfl (hb hby own_d2_16) rfl rfl ?_
                  show Steps p.tables e below (T30.setTop (mkF m 17 #[.val (.long j1), .second, .val (.ref a1), .val (.int i1), .val (.int ((((((i1 + (1 : Int32)) + (1 : Int32)) + (1 : Int32)) + (1 : Int32)) + (1 : Int32)) + (1 : Int32))), .val (.long (own_c6 j1)), .second] [(.ref a1)])) _
                  refine XS.iload X30.here hx rfl (hb hby own_d2_17) rfl ?_
                  show Steps p.tables e below (T30.setTop (mkF m 19 #[.val (.long j1), .second, .val (.ref a1), .val (.int i1), .val (.int ((((((i1 + (1 : Int32)) + (1 : Int32)) + (1 : Int32)) + (1 : Int32)) + (1 : Int32)) + (1 : Int32))), .val (.long (own_c6 j1)), .second] [(.int ((((((i1 + (1 : Int32)) + (1 : Int32)) + (1 : Int32)) + (1 : Int32)) + (1 : Int32)) + (1 : Int32))), (.ref a1)])) _
                  refine XT.iincV X30.here hx rfl (1 : Int32) (hb hby own_d2_19) rfl rfl (l' := #[.val (.long j1), .second, .val (.ref a1), .val (.int i1), .val (.int (((((((i1 + (1 : Int32)) + (1 : Int32)) + (1 : Int32)) + (1 : Int32)) + (1 : Int32)) + (1 : Int32)) + (1 : Int32))), .val (.long (own_c6 j1)), .second]) rfl ?_
                  show Steps p.tables e below (T30.setTop (mkF m 22 #[.val (.long j1), .second, .val (.ref a1), .val (.int i1), .val (.int (((((((i1 + (1 : Int32)) + (1 : Int32)) + (1 : Int32)) + (1 : Int32)) + (1 : Int32)) + (1 : Int32)) + (1 : Int32))), .val (.long (own_c6 j1)), .second] [(.int ((((((i1 + (1 : Int32)) + (1 : Int32)) + (1 : Int32)) + (1 : Int32)) + (1 : Int32)) + (1 : Int32))), (.ref a1)])) _
                  refine XT.lload X30.here hx rfl (hb hby own_d2_22) rfl ?_
                  show Steps p.tables e below (T30.setTop (mkF m 24 #[.val (.long j1), .second, .val (.ref a1), .val (.int i1), .val (.int (((((((i1 + (1 : Int32)) + (1 : Int32)) + (1 : Int32)) + (1 : Int32)) + (1 : Int32)) + (1 : Int32)) + (1 : Int32))), .val (.long (own_c6 j1)), .second] [(.long (own_c6 j1)), (.int ((((((i1 + (1 : Int32)) + (1 : Int32)) + (1 : Int32)) + (1 : Int32)) + (1 : Int32)) + (1 : Int32))), (.ref a1)])) _
                  refine X30.ldc2J hx hown (mvT hZ (hw _ (List.mem_of_getElem? (i := 20) rfl))) (g := (mkF m 24 #[.val (.long j1), .second, .val (.ref a1), .val (.int i1), .val (.int (((((((i1 + (1 : Int32)) + (1 : Int32)) + (1 : Int32)) + (1 : Int32)) + (1 : Int32)) + (1 : Int32)) + (1 : Int32))), .val (.long (own_c6 j1)), .second] [(.long (own_c6 j1)), (.int ((((((i1 + (1 : Int32)) + (1 : Int32)) + (1 : Int32)) + (1 : Int32)) + (1 : Int32)) + (1 : Int32))), (.ref a1)])) rfl (hb hby own_d2_24) ?_
                  show Steps p.tables e below (T30.setTop (mkF m 27 #[.val (.long j1), .second, .val (.ref a1), .val (.int i1), .val (.int (((((((i1 + (1 : Int32)) + (1 : Int32)) + (1 : Int32)) + (1 : Int32)) + (1 : Int32)) + (1 : Int32)) + (1 : Int32))), .val (.long (own_c6 j1)), .second] [(.long (127 : Int64)), (.long (own_c6 j1)), (.int ((((((i1 + (1 : Int32)) + (1 : Int32)) + (1 : Int32)) + (1 : Int32)) + (1 : Int32)) + (1 : Int32))), (.ref a1)])) _
                  refine XT.land X30.here hx rfl (hb hby own_d2_27) rfl ?_
                  show Steps p.tables e below (T30.setTop (mkF m 28 #[.val (.long j1), .second, .val (.ref a1), .val (.int i1), .val (.int (((((((i1 + (1 : Int32)) + (1 : Int32)) + (1 : Int32)) + (1 : Int32)) + (1 : Int32)) + (1 : Int32)) + (1 : Int32))), .val (.long (own_c6 j1)), .second] [(.long ((own_c6 j1) &&& (127 : Int64))), (.int ((((((i1 + (1 : Int32)) + (1 : Int32)) + (1 : Int32)) + (1 : Int32)) + (1 : Int32)) + (1 : Int32))), (.ref a1)])) _
                  refine X30.ldc2J hx hown (mvT hZ (hw _ (List.mem_of_getElem? (i := 21) rfl))) (g := (mkF m 28 #[.val (.long j1), .second, .val (.ref a1), .val (.int i1), .val (.int (((((((i1 + (1 : Int32)) + (1 : Int32)) + (1 : Int32)) + (1 : Int32)) + (1 : Int32)) + (1 : Int32)) + (1 : Int32))), .val (.long (own_c6 j1)), .second] [(.long ((own_c6 j1) &&& (127 : Int64))), (.int ((((((i1 + (1 : Int32)) + (1 : Int32)) + (1 : Int32)) + (1 : Int32)) + (1 : Int32)) + (1 : Int32))), (.ref a1)])) rfl (hb hby own_d2_28) ?_
                  show Steps p.tables e below (T30.setTop (mkF m 31 #[.val (.long j1), .second, .val (.ref a1), .val (.int i1), .val (.int (((((((i1 + (1 : Int32)) + (1 : Int32)) + (1 : Int32)) + (1 : Int32)) + (1 : Int32)) + (1 : Int32)) + (1 : Int32))), .val (.long (own_c6 j1)), .second] [(.long (128 : Int64)), (.long ((own_c6 j1) &&& (127 : Int64))), (.int ((((((i1 + (1 : Int32)) + (1 : Int32)) + (1 : Int32)) + (1 : Int32)) + (1 : Int32)) + (1 : Int32))), (.ref a1)])) _
                  refine XT.lor X30.here hx rfl (hb hby own_d2_31) rfl ?_
                  show Steps p.tables e below (T30.setTop (mkF m 32 #[.val (.long j1), .second, .val (.ref a1), .val (.int i1), .val (.int (((((((i1 + (1 : Int32)) + (1 : Int32)) + (1 : Int32)) + (1 : Int32)) + (1 : Int32)) + (1 : Int32)) + (1 : Int32))), .val (.long (own_c6 j1)), .second] [(.long (((own_c6 j1) &&& (127 : Int64)) ||| (128 : Int64))), (.int ((((((i1 + (1 : Int32)) + (1 : Int32)) + (1 : Int32)) + (1 : Int32)) + (1 : Int32)) + (1 : Int32))), (.ref a1)])) _
                  refine XT.l2i X30.here hx rfl (hb hby own_d2_32) rfl ?_
                  show Steps p.tables e below (T30.setTop (mkF m 33 #[.val (.long j1), .second, .val (.ref a1), .val (.int i1), .val (.int (((((((i1 + (1 : Int32)) + (1 : Int32)) + (1 : Int32)) + (1 : Int32)) + (1 : Int32)) + (1 : Int32)) + (1 : Int32))), .val (.long (own_c6 j1)), .second] [(.int ((((own_c6 j1) &&& (127 : Int64)) ||| (128 : Int64)).toInt32)), (.int ((((((i1 + (1 : Int32)) + (1 : Int32)) + (1 : Int32)) + (1 : Int32)) + (1 : Int32)) + (1 : Int32))), (.ref a1)])) _
                  refine XT.i2b X30.here hx rfl (hb hby own_d2_33) rfl ?_
                  show Steps p.tables e below (T30.setTop (mkF m 34 #[.val (.long j1), .second, .val (.ref a1), .val (.int i1), .val (.int (((((((i1 + (1 : Int32)) + (1 : Int32)) + (1 : Int32)) + (1 : Int32)) + (1 : Int32)) + (1 : Int32)) + (1 : Int32))), .val (.long (own_c6 j1)), .second] [(.int (((((own_c6 j1) &&& (127 : Int64)) ||| (128 : Int64)).toInt32).toInt8.toInt32)), (.int ((((((i1 + (1 : Int32)) + (1 : Int32)) + (1 : Int32)) + (1 : Int32)) + (1 : Int32)) + (1 : Int32))), (.ref a1)])) _
                  refine st35 _ ?_
                  show Steps p.tables e below (T35.setTop (mkF m 35 #[.val (.long j1), .second, .val (.ref a1), .val (.int i1), .val (.int (((((((i1 + (1 : Int32)) + (1 : Int32)) + (1 : Int32)) + (1 : Int32)) + (1 : Int32)) + (1 : Int32)) + (1 : Int32))), .val (.long (own_c6 j1)), .second] [])) _
                  refine XT.lload X35.here hx rfl (hb hby own_d2_35) rfl ?_
                  show Steps p.tables e below (T35.setTop (mkF m 37 #[.val (.long j1), .second, .val (.ref a1), .val (.int i1), .val (.int (((((((i1 + (1 : Int32)) + (1 : Int32)) + (1 : Int32)) + (1 : Int32)) + (1 : Int32)) + (1 : Int32)) + (1 : Int32))), .val (.long (own_c6 j1)), .second] [(.long (own_c6 j1))])) _
                  refine XT.bipushV X35.here hx rfl (7 : Int32) (hb hby own_d2_37) rfl ?_
                  show Steps p.tables e below (T35.setTop (mkF m 39 #[.val (.long j1), .second, .val (.ref a1), .val (.int i1), .val (.int (((((((i1 + (1 : Int32)) + (1 : Int32)) + (1 : Int32)) + (1 : Int32)) + (1 : Int32)) + (1 : Int32)) + (1 : Int32))), .val (.long (own_c6 j1)), .second] [(.int (7 : Int32)), (.long (own_c6 j1))])) _
                  refine XT.lushr X35.here hx rfl (hb hby own_d2_39) rfl ?_
                  show Steps p.tables e below (T35.setTop (mkF m 40 #[.val (.long j1), .second, .val (.ref a1), .val (.int i1), .val (.int (((((((i1 + (1 : Int32)) + (1 : Int32)) + (1 : Int32)) + (1 : Int32)) + (1 : Int32)) + (1 : Int32)) + (1 : Int32))), .val (.long (own_c6 j1)), .second] [(.long (own_c7 j1))])) _
                  refine XT.lstore X35.here hx rfl (hb hby own_d2_40) rfl (l' := #[.val (.long j1), .second, .val (.ref a1), .val (.int i1), .val (.int (((((((i1 + (1 : Int32)) + (1 : Int32)) + (1 : Int32)) + (1 : Int32)) + (1 : Int32)) + (1 : Int32)) + (1 : Int32))), .val (.long (own_c7 j1)), .second]) rfl ?_
                  show Steps p.tables e below (T35.setTop (mkF m 42 #[.val (.long j1), .second, .val (.ref a1), .val (.int i1), .val (.int (((((((i1 + (1 : Int32)) + (1 : Int32)) + (1 : Int32)) + (1 : Int32)) + (1 : Int32)) + (1 : Int32)) + (1 : Int32))), .val (.long (own_c7 j1)), .second] [])) _
                  refine XS.goto X35.here hx rfl (pc0 := 42) (pc' := 6) rfl (hb hby own_d2_42) (by decide) (by decide) ?_
                  show Steps p.tables e below (T35.setTop (mkF m 6 #[.val (.long j1), .second, .val (.ref a1), .val (.int i1), .val (.int (((((((i1 + (1 : Int32)) + (1 : Int32)) + (1 : Int32)) + (1 : Int32)) + (1 : Int32)) + (1 : Int32)) + (1 : Int32))), .val (.long (own_c7 j1)), .second] [])) _
                  refine XT.lload X35.here hx rfl (hb hby own_d2_6) rfl ?_
                  show Steps p.tables e below (T35.setTop (mkF m 8 #[.val (.long j1), .second, .val (.ref a1), .val (.int i1), .val (.int (((((((i1 + (1 : Int32)) + (1 : Int32)) + (1 : Int32)) + (1 : Int32)) + (1 : Int32)) + (1 : Int32)) + (1 : Int32))), .val (.long (own_c7 j1)), .second] [(.long (own_c7 j1))])) _
                  refine XT.bipushV X35.here hx rfl (7 : Int32) (hb hby own_d2_8) rfl ?_
                  show Steps p.tables e below (T35.setTop (mkF m 10 #[.val (.long j1), .second, .val (.ref a1), .val (.int i1), .val (.int (((((((i1 + (1 : Int32)) + (1 : Int32)) + (1 : Int32)) + (1 : Int32)) + (1 : Int32)) + (1 : Int32)) + (1 : Int32))), .val (.long (own_c7 j1)), .second] [(.int (7 : Int32)), (.long (own_c7 j1))])) _
                  refine XT.lushr X35.here hx rfl (hb hby own_d2_10) rfl ?_
                  show Steps p.tables e below (T35.setTop (mkF m 11 #[.val (.long j1), .second, .val (.ref a1), .val (.int i1), .val (.int (((((((i1 + (1 : Int32)) + (1 : Int32)) + (1 : Int32)) + (1 : Int32)) + (1 : Int32)) + (1 : Int32)) + (1 : Int32))), .val (.long (own_c7 j1)), .second] [(.long (own_c8 j1))])) _
                  refine XT.lconstV X35.here hx rfl (0 : Int64) (hb hby own_d2_11) rfl ?_
                  show Steps p.tables e below (T35.setTop (mkF m 12 #[.val (.long j1), .second, .val (.ref a1), .val (.int i1), .val (.int (((((((i1 + (1 : Int32)) + (1 : Int32)) + (1 : Int32)) + (1 : Int32)) + (1 : Int32)) + (1 : Int32)) + (1 : Int32))), .val (.long (own_c7 j1)), .second] [(.long (0 : Int64)), (.long (own_c8 j1))])) _
                  refine XT.lcmp X35.here hx rfl (hb hby own_d2_12) rfl ?_
                  exact k)
                by_cases hz7 : (own_c8 j1) = (0 : Int64)
                · obtain ⟨cl37, Ar37, Q37, Sz37, Nn37, Ha37, Gf37⟩ := id V35
                  have ghin37 : ¬ ((((((((i1 + (1 : Int32)) + (1 : Int32)) + (1 : Int32)) + (1 : Int32)) + (1 : Int32)) + (1 : Int32)) + (1 : Int32)) < 0 ∨ cl37.slots.size ≤ ((((((((i1 + (1 : Int32)) + (1 : Int32)) + (1 : Int32)) + (1 : Int32)) + (1 : Int32)) + (1 : Int32)) + (1 : Int32))).toNatClampNeg) := inb_of Sz37 hin7
                  obtain ⟨T38, h38, X38, e38, W38, st38⟩ := stB X35 hx hZ e35 Ar37 (j := (((((((i1 + (1 : Int32)) + (1 : Int32)) + (1 : Int32)) + (1 : Int32)) + (1 : Int32)) + (1 : Int32)) + (1 : Int32))) ghin37 (g := (mkF m 55 #[.val (.long j1), .second, .val (.ref a1), .val (.int i1), .val (.int ((((((((i1 + (1 : Int32)) + (1 : Int32)) + (1 : Int32)) + (1 : Int32)) + (1 : Int32)) + (1 : Int32)) + (1 : Int32)) + (1 : Int32))), .val (.long (own_c7 j1)), .second] [(.int (((own_c7 j1).toInt32).toInt8.toInt32)), (.int (((((((i1 + (1 : Int32)) + (1 : Int32)) + (1 : Int32)) + (1 : Int32)) + (1 : Int32)) + (1 : Int32)) + (1 : Int32))), (.ref a1)])) rfl rfl (hb hby own_d2_55)
                  have V38 : Arv Z h38 a1 kc .byte (16 : Int32) ((((((((vs.set (i1).toNatClampNeg (.int (((((j1 &&& (127 : Int64)) ||| (128 : Int64)).toInt32).toInt8.toInt32).toInt8.toInt32))).set ((i1 + (1 : Int32))).toNatClampNeg (.int ((((((own_c1 j1) &&& (127 : Int64)) ||| (128 : Int64)).toInt32).toInt8.toInt32).toInt8.toInt32))).set (((i1 + (1 : Int32)) + (1 : Int32))).toNatClampNeg (.int ((((((own_c2 j1) &&& (127 : Int64)) ||| (128 : Int64)).toInt32).toInt8.toInt32).toInt8.toInt32))).set ((((i1 + (1 : Int32)) + (1 : Int32)) + (1 : Int32))).toNatClampNeg (.int ((((((own_c3 j1) &&& (127 : Int64)) ||| (128 : Int64)).toInt32).toInt8.toInt32).toInt8.toInt32))).set (((((i1 + (1 : Int32)) + (1 : Int32)) + (1 : Int32)) + (1 : Int32))).toNatClampNeg (.int ((((((own_c4 j1) &&& (127 : Int64)) ||| (128 : Int64)).toInt32).toInt8.toInt32).toInt8.toInt32))).set ((((((i1 + (1 : Int32)) + (1 : Int32)) + (1 : Int32)) + (1 : Int32)) + (1 : Int32))).toNatClampNeg (.int ((((((own_c5 j1) &&& (127 : Int64)) ||| (128 : Int64)).toInt32).toInt8.toInt32).toInt8.toInt32))).set (((((((i1 + (1 : Int32)) + (1 : Int32)) + (1 : Int32)) + (1 : Int32)) + (1 : Int32)) + (1 : Int32))).toNatClampNeg (.int ((((((own_c6 j1) &&& (127 : Int64)) ||| (128 : Int64)).toInt32).toInt8.toInt32).toInt8.toInt32))).set ((((((((i1 + (1 : Int32)) + (1 : Int32)) + (1 : Int32)) + (1 : Int32)) + (1 : Int32)) + (1 : Int32)) + (1 : Int32))).toNatClampNeg (.int ((((own_c7 j1).toInt32).toInt8.toInt32).toInt8.toInt32))) (.int (0 : Int32)) := Arv.set Ar37 Q37 Sz37 Nn37 Ha37 Gf37 (fits_nar_byte _) W38 _ rfl (by simp only [List.length_set]; rw [hlen]; exact hlt7)
                  have K38 : Keep h0 h38 [a1] := K35.wr W38 (Or.inl (List.mem_of_getElem? (i := 0) rfl))
                  have N38 := Fr.snoc X38 N35 g_a1
                  obtain ⟨fs, hr, hrun, hended, hW, hsame⟩ := X38.leave (v := some (.int ((((((((i1 + (1 : Int32)) + (1 : Int32)) + (1 : Int32)) + (1 : Int32)) + (1 : Int32)) + (1 : Int32)) + (1 : Int32)) + (1 : Int32)))) (fun h => by rw [Bd.returns] at h; cases h)
                  refine ⟨_, _, pre36 _ ?_, hrun, hended, _, _, rfl, ?_, ⟨_, rfl⟩, hW, hsame.mono (by decide) (by decide)⟩
                  · show Steps p.tables e below (T35.setTop (mkF m 13 #[.val (.long j1), .second, .val (.ref a1), .val (.int i1), .val (.int (((((((i1 + (1 : Int32)) + (1 : Int32)) + (1 : Int32)) + (1 : Int32)) + (1 : Int32)) + (1 : Int32)) + (1 : Int32))), .val (.long (own_c7 j1)), .second] [(.int (XT.cmpL (own_c8 j1) (0 : Int64)))])) _
                    refine XS.ifYes X35.here hx rfl (pc0 := 13) (pc' := 45) rfl (hb hby own_d2_13) rfl (XT.ll_eq_t hz7) (by decide) (by decide) ?_
                    show Steps p.tables e below (T35.setTop (mkF m 45 #[.val (.long j1), .second, .val (.ref a1), .val (.int i1), .val (.int (((((((i1 + (1 : Int32)) + (1 : Int32)) + (1 : Int32)) + (1 : Int32)) + (1 : Int32)) + (1 : Int32)) + (1 : Int32))), .val (.long (own_c7 j1)), .second] [])) _
                    refine XS.aloadN X35.here hx rfl (hb hby own_d2_45) rfl rfl ?_
                    show Steps p.tables e below (T35.setTop (mkF m 46 #[.val (.long j1), .second, .val (.ref a1), .val (.int i1), .val (.int (((((((i1 + (1 : Int32)) + (1 : Int32)) + (1 : Int32)) + (1 : Int32)) + (1 : Int32)) + (1 : Int32)) + (1 : Int32))), .val (.long (own_c7 j1)), .second] [(.ref a1)])) _
                    refine XS.iload X35.here hx rfl (hb hby own_d2_46) rfl ?_
                    show Steps p.tables e below (T35.setTop (mkF m 48 #[.val (.long j1), .second, .val (.ref a1), .val (.int i1), .val (.int (((((((i1 + (1 : Int32)) + (1 : Int32)) + (1 : Int32)) + (1 : Int32)) + (1 : Int32)) + (1 : Int32)) + (1 : Int32))), .val (.long (own_c7 j1)), .second] [(.int (((((((i1 + (1 : Int32)) + (1 : Int32)) + (1 : Int32)) + (1 : Int32)) + (1 : Int32)) + (1 : Int32)) + (1 : Int32))), (.ref a1)])) _
                    refine XT.iincV X35.here hx rfl (1 : Int32) (hb hby own_d2_48) rfl rfl (l' := #[.val (.long j1), .second, .val (.ref a1), .val (.int i1), .val (.int ((((((((i1 + (1 : Int32)) + (1 : Int32)) + (1 : Int32)) + (1 : Int32)) + (1 : Int32)) + (1 : Int32)) + (1 : Int32)) + (1 : Int32))), .val (.long (own_c7 j1)), .second]) rfl ?_
                    show Steps p.tables e below (T35.setTop (mkF m 51 #[.val (.long j1), .second, .val (.ref a1), .val (.int i1), .val (.int ((((((((i1 + (1 : Int32)) + (1 : Int32)) + (1 : Int32)) + (1 : Int32)) + (1 : Int32)) + (1 : Int32)) + (1 : Int32)) + (1 : Int32))), .val (.long (own_c7 j1)), .second] [(.int (((((((i1 + (1 : Int32)) + (1 : Int32)) + (1 : Int32)) + (1 : Int32)) + (1 : Int32)) + (1 : Int32)) + (1 : Int32))), (.ref a1)])) _
                    refine XT.lload X35.here hx rfl (hb hby own_d2_51) rfl ?_
                    show Steps p.tables e below (T35.setTop (mkF m 53 #[.val (.long j1), .second, .val (.ref a1), .val (.int i1), .val (.int ((((((((i1 + (1 : Int32)) + (1 : Int32)) + (1 : Int32)) + (1 : Int32)) + (1 : Int32)) + (1 : Int32)) + (1 : Int32)) + (1 : Int32))), .val (.long (own_c7 j1)), .second] [(.long (own_c7 j1)), (.int (((((((i1 + (1 : Int32)) + (1 : Int32)) + (1 : Int32)) + (1 : Int32)) + (1 : Int32)) + (1 : Int32)) + (1 : Int32))), (.ref a1)])) _
                    refine XT.l2i X35.here hx rfl (hb hby own_d2_53) rfl ?_
                    show Steps p.tables e below (T35.setTop (mkF m 54 #[.val (.long j1), .second, .val (.ref a1), .val (.int i1), .val (.int ((((((((i1 + (1 : Int32)) + (1 : Int32)) + (1 : Int32)) + (1 : Int32)) + (1 : Int32)) + (1 : Int32)) + (1 : Int32)) + (1 : Int32))), .val (.long (own_c7 j1)), .second] [(.int ((own_c7 j1).toInt32)), (.int (((((((i1 + (1 : Int32)) + (1 : Int32)) + (1 : Int32)) + (1 : Int32)) + (1 : Int32)) + (1 : Int32)) + (1 : Int32))), (.ref a1)])) _
                    refine XT.i2b X35.here hx rfl (hb hby own_d2_54) rfl ?_
                    show Steps p.tables e below (T35.setTop (mkF m 55 #[.val (.long j1), .second, .val (.ref a1), .val (.int i1), .val (.int ((((((((i1 + (1 : Int32)) + (1 : Int32)) + (1 : Int32)) + (1 : Int32)) + (1 : Int32)) + (1 : Int32)) + (1 : Int32)) + (1 : Int32))), .val (.long (own_c7 j1)), .second] [(.int (((own_c7 j1).toInt32).toInt8.toInt32)), (.int (((((((i1 + (1 : Int32)) + (1 : Int32)) + (1 : Int32)) + (1 : Int32)) + (1 : Int32)) + (1 : Int32)) + (1 : Int32))), (.ref a1)])) _
                    refine st38 _ ?_
                    show Steps p.tables e below (T38.setTop (mkF m 56 #[.val (.long j1), .second, .val (.ref a1), .val (.int i1), .val (.int ((((((((i1 + (1 : Int32)) + (1 : Int32)) + (1 : Int32)) + (1 : Int32)) + (1 : Int32)) + (1 : Int32)) + (1 : Int32)) + (1 : Int32))), .val (.long (own_c7 j1)), .second] [])) _
                    refine XS.iload X38.here hx rfl (hb hby own_d2_56) rfl ?_
                    show Steps p.tables e below (T38.setTop (mkF m 58 #[.val (.long j1), .second, .val (.ref a1), .val (.int i1), .val (.int ((((((((i1 + (1 : Int32)) + (1 : Int32)) + (1 : Int32)) + (1 : Int32)) + (1 : Int32)) + (1 : Int32)) + (1 : Int32)) + (1 : Int32))), .val (.long (own_c7 j1)), .second] [(.int ((((((((i1 + (1 : Int32)) + (1 : Int32)) + (1 : Int32)) + (1 : Int32)) + (1 : Int32)) + (1 : Int32)) + (1 : Int32)) + (1 : Int32)))])) _
                    exact retOut X38 hx (t := .int) Bd.returns rfl (Or.inl ⟨rfl, Or.inl rfl, _, rfl⟩) (hb hby own_d2_58) hr
                  · show own_Q2 Z j1 a1 i1 kc vs h0 n0 _ T38.heap _
                    rw [e38]
                    exact ⟨by unfold own_end; rw [if_neg hz0, if_neg hz1, if_neg hz2, if_neg hz3, if_neg hz4, if_neg hz5, if_neg hz6, if_pos hz7], N38, K38, (by unfold own_wr; rw [if_neg hz0, if_neg hz1, if_neg hz2, if_neg hz3, if_neg hz4, if_neg hz5, if_neg hz6, if_pos hz7]; exact V38)⟩
                · obtain ⟨cl39, Ar39, Q39, Sz39, Nn39, Ha39, Gf39⟩ := id V35
                  have ghin39 : ¬ ((((((((i1 + (1 : Int32)) + (1 : Int32)) + (1 : Int32)) + (1 : Int32)) + (1 : Int32)) + (1 : Int32)) + (1 : Int32)) < 0 ∨ cl39.slots.size ≤ ((((((((i1 + (1 : Int32)) + (1 : Int32)) + (1 : Int32)) + (1 : Int32)) + (1 : Int32)) + (1 : Int32)) + (1 : Int32))).toNatClampNeg) := inb_of Sz39 hin7
                  obtain ⟨T40, h40, X40, e40, W40, st40⟩ := stB X35 hx hZ e35 Ar39 (j := (((((((i1 + (1 : Int32)) + (1 : Int32)) + (1 : Int32)) + (1 : Int32)) + (1 : Int32)) + (1 : Int32)) + (1 : Int32))) ghin39 (g := (mkF m 34 #[.val (.long j1), .second, .val (.ref a1), .val (.int i1), .val (.int ((((((((i1 + (1 : Int32)) + (1 : Int32)) + (1 : Int32)) + (1 : Int32)) + (1 : Int32)) + (1 : Int32)) + (1 : Int32)) + (1 : Int32))), .val (.long (own_c7 j1)), .second] [(.int (((((own_c7 j1) &&& (127 : Int64)) ||| (128 : Int64)).toInt32).toInt8.toInt32)), (.int (((((((i1 + (1 : Int32)) + (1 : Int32)) + (1 : Int32)) + (1 : Int32)) + (1 : Int32)) + (1 : Int32)) + (1 : Int32))), (.ref a1)])) rfl rfl (hb hby own_d2_34)
                  have V40 : Arv Z h40 a1 kc .byte (16 : Int32) ((((((((vs.set (i1).toNatClampNeg (.int (((((j1 &&& (127 : Int64)) ||| (128 : Int64)).toInt32).toInt8.toInt32).toInt8.toInt32))).set ((i1 + (1 : Int32))).toNatClampNeg (.int ((((((own_c1 j1) &&& (127 : Int64)) ||| (128 : Int64)).toInt32).toInt8.toInt32).toInt8.toInt32))).set (((i1 + (1 : Int32)) + (1 : Int32))).toNatClampNeg (.int ((((((own_c2 j1) &&& (127 : Int64)) ||| (128 : Int64)).toInt32).toInt8.toInt32).toInt8.toInt32))).set ((((i1 + (1 : Int32)) + (1 : Int32)) + (1 : Int32))).toNatClampNeg (.int ((((((own_c3 j1) &&& (127 : Int64)) ||| (128 : Int64)).toInt32).toInt8.toInt32).toInt8.toInt32))).set (((((i1 + (1 : Int32)) + (1 : Int32)) + (1 : Int32)) + (1 : Int32))).toNatClampNeg (.int ((((((own_c4 j1) &&& (127 : Int64)) ||| (128 : Int64)).toInt32).toInt8.toInt32).toInt8.toInt32))).set ((((((i1 + (1 : Int32)) + (1 : Int32)) + (1 : Int32)) + (1 : Int32)) + (1 : Int32))).toNatClampNeg (.int ((((((own_c5 j1) &&& (127 : Int64)) ||| (128 : Int64)).toInt32).toInt8.toInt32).toInt8.toInt32))).set (((((((i1 + (1 : Int32)) + (1 : Int32)) + (1 : Int32)) + (1 : Int32)) + (1 : Int32)) + (1 : Int32))).toNatClampNeg (.int ((((((own_c6 j1) &&& (127 : Int64)) ||| (128 : Int64)).toInt32).toInt8.toInt32).toInt8.toInt32))).set ((((((((i1 + (1 : Int32)) + (1 : Int32)) + (1 : Int32)) + (1 : Int32)) + (1 : Int32)) + (1 : Int32)) + (1 : Int32))).toNatClampNeg (.int ((((((own_c7 j1) &&& (127 : Int64)) ||| (128 : Int64)).toInt32).toInt8.toInt32).toInt8.toInt32))) (.int (0 : Int32)) := Arv.set Ar39 Q39 Sz39 Nn39 Ha39 Gf39 (fits_nar_byte _) W40 _ rfl (by simp only [List.length_set]; rw [hlen]; exact hlt7)
                  have K40 : Keep h0 h40 [a1] := K35.wr W40 (Or.inl (List.mem_of_getElem? (i := 0) rfl))
                  have N40 := Fr.snoc X40 N35 g_a1
                  obtain ⟨cl41, Ar41, Q41, Sz41, Nn41, Ha41, Gf41⟩ := id V40
                  have ghin41 : ¬ (((((((((i1 + (1 : Int32)) + (1 : Int32)) + (1 : Int32)) + (1 : Int32)) + (1 : Int32)) + (1 : Int32)) + (1 : Int32)) + (1 : Int32)) < 0 ∨ cl41.slots.size ≤ (((((((((i1 + (1 : Int32)) + (1 : Int32)) + (1 : Int32)) + (1 : Int32)) + (1 : Int32)) + (1 : Int32)) + (1 : Int32)) + (1 : Int32))).toNatClampNeg) := inb_of Sz41 hin8
                  obtain ⟨T42, h42, X42, e42, W42, st42⟩ := stB X40 hx hZ e40 Ar41 (j := ((((((((i1 + (1 : Int32)) + (1 : Int32)) + (1 : Int32)) + (1 : Int32)) + (1 : Int32)) + (1 : Int32)) + (1 : Int32)) + (1 : Int32))) ghin41 (g := (mkF m 55 #[.val (.long j1), .second, .val (.ref a1), .val (.int i1), .val (.int (((((((((i1 + (1 : Int32)) + (1 : Int32)) + (1 : Int32)) + (1 : Int32)) + (1 : Int32)) + (1 : Int32)) + (1 : Int32)) + (1 : Int32)) + (1 : Int32))), .val (.long (own_c8 j1)), .second] [(.int (((own_c8 j1).toInt32).toInt8.toInt32)), (.int ((((((((i1 + (1 : Int32)) + (1 : Int32)) + (1 : Int32)) + (1 : Int32)) + (1 : Int32)) + (1 : Int32)) + (1 : Int32)) + (1 : Int32))), (.ref a1)])) rfl rfl (hb hby own_d2_55)
                  have V42 : Arv Z h42 a1 kc .byte (16 : Int32) (((((((((vs.set (i1).toNatClampNeg (.int (((((j1 &&& (127 : Int64)) ||| (128 : Int64)).toInt32).toInt8.toInt32).toInt8.toInt32))).set ((i1 + (1 : Int32))).toNatClampNeg (.int ((((((own_c1 j1) &&& (127 : Int64)) ||| (128 : Int64)).toInt32).toInt8.toInt32).toInt8.toInt32))).set (((i1 + (1 : Int32)) + (1 : Int32))).toNatClampNeg (.int ((((((own_c2 j1) &&& (127 : Int64)) ||| (128 : Int64)).toInt32).toInt8.toInt32).toInt8.toInt32))).set ((((i1 + (1 : Int32)) + (1 : Int32)) + (1 : Int32))).toNatClampNeg (.int ((((((own_c3 j1) &&& (127 : Int64)) ||| (128 : Int64)).toInt32).toInt8.toInt32).toInt8.toInt32))).set (((((i1 + (1 : Int32)) + (1 : Int32)) + (1 : Int32)) + (1 : Int32))).toNatClampNeg (.int ((((((own_c4 j1) &&& (127 : Int64)) ||| (128 : Int64)).toInt32).toInt8.toInt32).toInt8.toInt32))).set ((((((i1 + (1 : Int32)) + (1 : Int32)) + (1 : Int32)) + (1 : Int32)) + (1 : Int32))).toNatClampNeg (.int ((((((own_c5 j1) &&& (127 : Int64)) ||| (128 : Int64)).toInt32).toInt8.toInt32).toInt8.toInt32))).set (((((((i1 + (1 : Int32)) + (1 : Int32)) + (1 : Int32)) + (1 : Int32)) + (1 : Int32)) + (1 : Int32))).toNatClampNeg (.int ((((((own_c6 j1) &&& (127 : Int64)) ||| (128 : Int64)).toInt32).toInt8.toInt32).toInt8.toInt32))).set ((((((((i1 + (1 : Int32)) + (1 : Int32)) + (1 : Int32)) + (1 : Int32)) + (1 : Int32)) + (1 : Int32)) + (1 : Int32))).toNatClampNeg (.int ((((((own_c7 j1) &&& (127 : Int64)) ||| (128 : Int64)).toInt32).toInt8.toInt32).toInt8.toInt32))).set (((((((((i1 + (1 : Int32)) + (1 : Int32)) + (1 : Int32)) + (1 : Int32)) + (1 : Int32)) + (1 : Int32)) + (1 : Int32)) + (1 : Int32))).toNatClampNeg (.int ((((own_c8 j1).toInt32).toInt8.toInt32).toInt8.toInt32))) (.int (0 : Int32)) := Arv.set Ar41 Q41 Sz41 Nn41 Ha41 Gf41 (fits_nar_byte _) W42 _ rfl (by simp only [List.length_set]; rw [hlen]; exact hlt8)
                  have K42 : Keep h0 h42 [a1] := K40.wr W42 (Or.inl (List.mem_of_getElem? (i := 0) rfl))
                  have N42 := Fr.snoc X42 N40 g_a1
                  obtain ⟨fs, hr, hrun, hended, hW, hsame⟩ := X42.leave (v := some (.int (((((((((i1 + (1 : Int32)) + (1 : Int32)) + (1 : Int32)) + (1 : Int32)) + (1 : Int32)) + (1 : Int32)) + (1 : Int32)) + (1 : Int32)) + (1 : Int32)))) (fun h => by rw [Bd.returns] at h; cases h)
                  refine ⟨_, _, pre36 _ ?_, hrun, hended, _, _, rfl, ?_, ⟨_, rfl⟩, hW, hsame.mono (by decide) (by decide)⟩
                  · show Steps p.tables e below (T35.setTop (mkF m 13 #[.val (.long j1), .second, .val (.ref a1), .val (.int i1), .val (.int (((((((i1 + (1 : Int32)) + (1 : Int32)) + (1 : Int32)) + (1 : Int32)) + (1 : Int32)) + (1 : Int32)) + (1 : Int32))), .val (.long (own_c7 j1)), .second] [(.int (XT.cmpL (own_c8 j1) (0 : Int64)))])) _
                    refine XS.ifNo X35.here hx rfl (hb hby own_d2_13) rfl (XT.ll_eq_f hz7) ?_
                    show Steps p.tables e below (T35.setTop (mkF m 16 #[.val (.long j1), .second, .val (.ref a1), .val (.int i1), .val (.int (((((((i1 + (1 : Int32)) + (1 : Int32)) + (1 : Int32)) + (1 : Int32)) + (1 : Int32)) + (1 : Int32)) + (1 : Int32))), .val (.long (own_c7 j1)), .second] [])) _
                    refine XS.aloadN X35.here hx rfl (hb hby own_d2_16) rfl rfl ?_
                    show Steps p.tables e below (T35.setTop (mkF m 17 #[.val (.long j1), .second, .val (.ref a1), .val (.int i1), .val (.int (((((((i1 + (1 : Int32)) + (1 : Int32)) + (1 : Int32)) + (1 : Int32)) + (1 : Int32)) + (1 : Int32)) + (1 : Int32))), .val (.long (own_c7 j1)), .second] [(.ref a1)])) _
                    refine XS.iload X35.here hx rfl (hb hby own_d2_17) rfl ?_
                    show Steps p.tables e below (T35.setTop (mkF m 19 #[.val (.long j1), .second, .val (.ref a1), .val (.int i1), .val (.int (((((((i1 + (1 : Int32)) + (1 : Int32)) + (1 : Int32)) + (1 : Int32)) + (1 : Int32)) + (1 : Int32)) + (1 : Int32))), .val (.long (own_c7 j1)), .second] [(.int (((((((i1 + (1 : Int32)) + (1 : Int32)) + (1 : Int32)) + (1 : Int32)) + (1 : Int32)) + (1 : Int32)) + (1 : Int32))), (.ref a1)])) _
                    refine XT.iincV X35.here hx rfl (1 : Int32) (hb hby own_d2_19) rfl rfl (l' := #[.val (.long j1), .second, .val (.ref a1), .val (.int i1), .val (.int ((((((((i1 + (1 : Int32)) + (1 : Int32)) + (1 : Int32)) + (1 : Int32)) + (1 : Int32)) + (1 : Int32)) + (1 : Int32)) + (1 : Int32))), .val (.long (own_c7 j1)), .second]) rfl ?_
                    show Steps p.tables e below (T35.setTop (mkF m 22 #[.val (.long j1), .second, .val (.ref a1), .val (.int i1), .val (.int ((((((((i1 + (1 : Int32)) + (1 : Int32)) + (1 : Int32)) + (1 : Int32)) + (1 : Int32)) + (1 : Int32)) + (1 : Int32)) + (1 : Int32))), .val (.long (own_c7 j1)), .second] [(.int (((((((i1 + (1 : Int32)) + (1 : Int32)) + (1 : Int32)) + (1 : Int32)) + (1 : Int32)) + (1 : Int32)) + (1 : Int32))), (.ref a1)])) _
                    refine XT.lload X35.here hx rfl (hb hby own_d2_22) rfl ?_
                    show Steps p.tables e below (T35.setTop (mkF m 24 #[.val (.long j1), .second, .val (.ref a1), .val (.int i1), .val (.int ((((((((i1 + (1 : Int32)) + (1 : Int32)) + (1 : Int32)) + (1 : Int32)) + (1 : Int32)) + (1 : Int32)) + (1 : Int32)) + (1 : Int32))), .val (.long (own_c7 j1)), .second] [(.long (own_c7 j1)), (.int (((((((i1 + (1 : Int32)) + (1 : Int32)) + (1 : Int32)) + (1 : Int32)) + (1 : Int32)) + (1 : Int32)) + (1 : Int32))), (.ref a1)])) _
                    refine X35.ldc2J hx hown (mvT hZ (hw _ (List.mem_of_getElem? (i := 20) rfl))) (g := (mkF m 24 #[.val (.long j1), .second, .val (.ref a1), .val (.int i1), .val (.int ((((((((i1 + (1 : Int32)) + (1 : Int32)) + (1 : Int32)) + (1 : Int32)) + (1 : Int32)) + (1 : Int32)) + (1 : Int32)) + (1 : Int32))), .val (.long (own_c7 j1)), .second] [(.long (own_c7 j1)), (.int (((((((i1 + (1 : Int32)) + (1 : Int32)) + (1 : Int32)) + (1 : Int32)) + (1 : Int32)) + (1 : Int32)) + (1 : Int32))), (.ref a1)])) rfl (hb hby own_d2_24) ?_
                    show Steps p.tables e below (T35.setTop (mkF m 27 #[.val (.long j1), .second, .val (.ref a1), .val (.int i1), .val (.int ((((((((i1 + (1 : Int32)) + (1 : Int32)) + (1 : Int32)) + (1 : Int32)) + (1 : Int32)) + (1 : Int32)) + (1 : Int32)) + (1 : Int32))), .val (.long (own_c7 j1)), .second] [(.long (127 : Int64)), (.long (own_c7 j1)), (.int (((((((i1 + (1 : Int32)) + (1 : Int32)) + (1 : Int32)) + (1 : Int32)) + (1 : Int32)) + (1 : Int32)) + (1 : Int32))), (.ref a1)])) _
                    refine XT.land X35.here hx rfl (hb hby own_d2_27) rfl ?_
                    show Steps p.tables e below (T35.setTop (mkF m 28 #[.val (.long j1), .second, .val (.ref a1), .val (.int i1), .val (.int ((((((((i1 + (1 : Int32)) + (1 : Int32)) + (1 : Int32)) + (1 : Int32)) + (1 : Int32)) + (1 : Int32)) + (1 : Int32)) + (1 : Int32))), .val (.long (own_c7 j1)), .second] [(.long ((own_c7 j1) &&& (127 : Int64))), (.int (((((((i1 + (1 : Int32)) + (1 : Int32)) + (1 : Int32)) + (1 : Int32)) + (1 : Int32)) + (1 : Int32)) + (1 : Int32))), (.ref a1)])) _
                    refine X35.ldc2J hx hown (mvT hZ (hw _ (List.mem_of_getElem? (i := 21) rfl))) (g := (mkF m 28 #[.val (.long j1), .second, .val (.ref a1), .val (.int i1), .val (.int ((((((((i1 + (1 : Int32)) + (1 : Int32)) + (1 : Int32)) + (1 : Int32)) + (1 : Int32)) + (1 : Int32)) + (1 : Int32)) + (1 : Int32))), .val (.long (own_c7 j1)), .second] [(.long ((own_c7 j1) &&& (127 : Int64))), (.int (((((((i1 + (1 : Int32)) + (1 : Int32)) + (1 : Int32)) + (1 : Int32)) + (1 : Int32)) + (1 : Int32)) + (1 : Int32))), (.ref a1)])) rfl (hb hby own_d2_28) ?_
                    show Steps p.tables e below (T35.setTop (mkF m 31 #[.val (.long j1), .second, .val (.ref a1), .val (.int i1), .val (.int ((((((((i1 + (1 : Int32)) + (1 : Int32)) + (1 : Int32)) + (1 : Int32)) + (1 : Int32)) + (1 : Int32)) + (1 : Int32)) + (1 : Int32))), .val (.long (own_c7 j1)), .second] [(.long (128 : Int64)), (.long ((own_c7 j1) &&& (127 : Int64))), (.int (((((((i1 + (1 : Int32)) + (1 : Int32)) + (1 : Int32)) + (1 : Int32)) + (1 : Int32)) + (1 : Int32)) + (1 : Int32))), (.ref a1)])) _
                    refine XT.lor X35.here hx rfl (hb hby own_d2_31) rfl ?_
                    show Steps p.tables e below (T35.setTop (mkF m 32 #[.val (.long j1), .second, .val (.ref a1), .val (.int i1), .val (.int ((((((((i1 + (1 : Int32)) + (1 : Int32)) + (1 : Int32)) + (1 : Int32)) + (1 : Int32)) + (1 : Int32)) + (1 : Int32)) + (1 : Int32))), .val (.long (own_c7 j1)), .second] [(.long (((own_c7 j1) &&& (127 : Int64)) ||| (128 : Int64))), (.int (((((((i1 + (1 : Int32)) + (1 : Int32)) + (1 : Int32)) + (1 : Int32)) + (1 : Int32)) + (1 : Int32)) + (1 : Int32))), (.ref a1)])) _
                    refine XT.l2i X35.here hx rfl (hb hby own_d2_32) rfl ?_
                    show Steps p.tables e below (T35.setTop (mkF m 33 #[.val (.long j1), .second, .val (.ref a1), .val (.int i1), .val (.int ((((((((i1 + (1 : Int32)) + (1 : Int32)) + (1 : Int32)) + (1 : Int32)) + (1 : Int32)) + (1 : Int32)) + (1 : Int32)) + (1 : Int32))), .val (.long (own_c7 j1)), .second] [(.int ((((own_c7 j1) &&& (127 : Int64)) ||| (128 : Int64)).toInt32)), (.int (((((((i1 + (1 : Int32)) + (1 : Int32)) + (1 : Int32)) + (1 : Int32)) + (1 : Int32)) + (1 : Int32)) + (1 : Int32))), (.ref a1)])) _
                    refine XT.i2b X35.here hx rfl (hb hby own_d2_33) rfl ?_
                    show Steps p.tables e below (T35.setTop (mkF m 34 #[.val (.long j1), .second, .val (.ref a1), .val (.int i1), .val (.int ((((((((i1 + (1 : Int32)) + (1 : Int32)) + (1 : Int32)) + (1 : Int32)) + (1 : Int32)) + (1 : Int32)) + (1 : Int32)) + (1 : Int32))), .val (.long (own_c7 j1)), .second] [(.int (((((own_c7 j1) &&& (127 : Int64)) ||| (128 : Int64)).toInt32).toInt8.toInt32)), (.int (((((((i1 + (1 : Int32)) + (1 : Int32)) + (1 : Int32)) + (1 : Int32)) + (1 : Int32)) + (1 : Int32)) + (1 : Int32))), (.ref a1)])) _
                    refine st40 _ ?_
                    show Steps p.tables e below (T40.setTop (mkF m 35 #[.val (.long j1), .second, .val (.ref a1), .val (.int i1), .val (.int ((((((((i1 + (1 : Int32)) + (1 : Int32)) + (1 : Int32)) + (1 : Int32)) + (1 : Int32)) + (1 : Int32)) + (1 : Int32)) + (1 : Int32))), .val (.long (own_c7 j1)), .second] [])) _
                    refine XT.lload X40.here hx rfl (hb hby own_d2_35) rfl ?_
                    show Steps p.tables e below (T40.setTop (mkF m 37 #[.val (.long j1), .second, .val (.ref a1), .val (.int i1), .val (.int ((((((((i1 + (1 : Int32)) + (1 : Int32)) + (1 : Int32)) + (1 : Int32)) + (1 : Int32)) + (1 : Int32)) + (1 : Int32)) + (1 : Int32))), .val (.long (own_c7 j1)), .second] [(.long (own_c7 j1))])) _
                    refine XT.bipushV X40.here hx rfl (7 : Int32) (hb hby own_d2_37) rfl ?_
                    show Steps p.tables e below (T40.setTop (mkF m 39 #[.val (.long j1), .second, .val (.ref a1), .val (.int i1), .val (.int ((((((((i1 + (1 : Int32)) + (1 : Int32)) + (1 : Int32)) + (1 : Int32)) + (1 : Int32)) + (1 : Int32)) + (1 : Int32)) + (1 : Int32))), .val (.long (own_c7 j1)), .second] [(.int (7 : Int32)), (.long (own_c7 j1))])) _
                    refine XT.lushr X40.here hx rfl (hb hby own_d2_39) rfl ?_
                    show Steps p.tables e below (T40.setTop (mkF m 40 #[.val (.long j1), .second, .val (.ref a1), .val (.int i1), .val (.int ((((((((i1 + (1 : Int32)) + (1 : Int32)) + (1 : Int32)) + (1 : Int32)) + (1 : Int32)) + (1 : Int32)) + (1 : Int32)) + (1 : Int32))), .val (.long (own_c7 j1)), .second] [(.long (own_c8 j1))])) _
                    refine XT.lstore X40.here hx rfl (hb hby own_d2_40) rfl (l' := #[.val (.long j1), .second, .val (.ref a1), .val (.int i1), .val (.int ((((((((i1 + (1 : Int32)) + (1 : Int32)) + (1 : Int32)) + (1 : Int32)) + (1 : Int32)) + (1 : Int32)) + (1 : Int32)) + (1 : Int32))), .val (.long (own_c8 j1)), .second]) rfl ?_
                    show Steps p.tables e below (T40.setTop (mkF m 42 #[.val (.long j1), .second, .val (.ref a1), .val (.int i1), .val (.int ((((((((i1 + (1 : Int32)) + (1 : Int32)) + (1 : Int32)) + (1 : Int32)) + (1 : Int32)) + (1 : Int32)) + (1 : Int32)) + (1 : Int32))), .val (.long (own_c8 j1)), .second] [])) _
                    refine XS.goto X40.here hx rfl (pc0 := 42) (pc' := 6) rfl (hb hby own_d2_42) (by decide) (by decide) ?_
                    show Steps p.tables e below (T40.setTop (mkF m 6 #[.val (.long j1), .second, .val (.ref a1), .val (.int i1), .val (.int ((((((((i1 + (1 : Int32)) + (1 : Int32)) + (1 : Int32)) + (1 : Int32)) + (1 : Int32)) + (1 : Int32)) + (1 : Int32)) + (1 : Int32))), .val (.long (own_c8 j1)), .second] [])) _
                    refine XT.lload X40.here hx rfl (hb hby own_d2_6) rfl ?_
                    show Steps p.tables e below (T40.setTop (mkF m 8 #[.val (.long j1), .second, .val (.ref a1), .val (.int i1), .val (.int ((((((((i1 + (1 : Int32)) + (1 : Int32)) + (1 : Int32)) + (1 : Int32)) + (1 : Int32)) + (1 : Int32)) + (1 : Int32)) + (1 : Int32))), .val (.long (own_c8 j1)), .second] [(.long (own_c8 j1))])) _
                    refine XT.bipushV X40.here hx rfl (7 : Int32) (hb hby own_d2_8) rfl ?_
                    show Steps p.tables e below (T40.setTop (mkF m 10 #[.val (.long j1), .second, .val (.ref a1), .val (.int i1), .val (.int ((((((((i1 + (1 : Int32)) + (1 : Int32)) + (1 : Int32)) + (1 : Int32)) + (1 : Int32)) + (1 : Int32)) + (1 : Int32)) + (1 : Int32))), .val (.long (own_c8 j1)), .second] [(.int (7 : Int32)), (.long (own_c8 j1))])) _
                    refine XT.lushr X40.here hx rfl (hb hby own_d2_10) rfl ?_
                    show Steps p.tables e below (T40.setTop (mkF m 11 #[.val (.long j1), .second, .val (.ref a1), .val (.int i1), .val (.int ((((((((i1 + (1 : Int32)) + (1 : Int32)) + (1 : Int32)) + (1 : Int32)) + (1 : Int32)) + (1 : Int32)) + (1 : Int32)) + (1 : Int32))), .val (.long (own_c8 j1)), .second] [(.long (own_c9 j1))])) _
                    refine XT.lconstV X40.here hx rfl (0 : Int64) (hb hby own_d2_11) rfl ?_
                    show Steps p.tables e below (T40.setTop (mkF m 12 #[.val (.long j1), .second, .val (.ref a1), .val (.int i1), .val (.int ((((((((i1 + (1 : Int32)) + (1 : Int32)) + (1 : Int32)) + (1 : Int32)) + (1 : Int32)) + (1 : Int32)) + (1 : Int32)) + (1 : Int32))), .val (.long (own_c8 j1)), .second] [(.long (0 : Int64)), (.long (own_c9 j1))])) _
                    refine XT.lcmp X40.here hx rfl (hb hby own_d2_12) rfl ?_
                    show Steps p.tables e below (T40.setTop (mkF m 13 #[.val (.long j1), .second, .val (.ref a1), .val (.int i1), .val (.int ((((((((i1 + (1 : Int32)) + (1 : Int32)) + (1 : Int32)) + (1 : Int32)) + (1 : Int32)) + (1 : Int32)) + (1 : Int32)) + (1 : Int32))), .val (.long (own_c8 j1)), .second] [(.int (XT.cmpL (own_c9 j1) (0 : Int64)))])) _
                    refine XS.ifYes X40.here hx rfl (pc0 := 13) (pc' := 45) rfl (hb hby own_d2_13) rfl (XT.ll_eq_t hz8) (by decide) (by decide) ?_
                    show Steps p.tables e below (T40.setTop (mkF m 45 #[.val (.long j1), .second, .val (.ref a1), .val (.int i1), .val (.int ((((((((i1 + (1 : Int32)) + (1 : Int32)) + (1 : Int32)) + (1 : Int32)) + (1 : Int32)) + (1 : Int32)) + (1 : Int32)) + (1 : Int32))), .val (.long (own_c8 j1)), .second] [])) _
                    refine XS.aloadN X40.here hx rfl (hb hby own_d2_45) rfl rfl ?_
                    show Steps p.tables e below (T40.setTop (mkF m 46 #[.val (.long j1), .second, .val (.ref a1), .val (.int i1), .val (.int ((((((((i1 + (1 : Int32)) + (1 : Int32)) + (1 : Int32)) + (1 : Int32)) + (1 : Int32)) + (1 : Int32)) + (1 : Int32)) + (1 : Int32))), .val (.long (own_c8 j1)), .second] [(.ref a1)])) _
                    refine XS.iload X40.here hx rfl (hb hby own_d2_46) rfl ?_
                    show Steps p.tables e below (T40.setTop (mkF m 48 #[.val (.long j1), .second, .val (.ref a1), .val (.int i1), .val (.int ((((((((i1 + (1 : Int32)) + (1 : Int32)) + (1 : Int32)) + (1 : Int32)) + (1 : Int32)) + (1 : Int32)) + (1 : Int32)) + (1 : Int32))), .val (.long (own_c8 j1)), .second] [(.int ((((((((i1 + (1 : Int32)) + (1 : Int32)) + (1 : Int32)) + (1 : Int32)) + (1 : Int32)) + (1 : Int32)) + (1 : Int32)) + (1 : Int32))), (.ref a1)])) _
                    refine XT.iincV X40.here hx rfl (1 : Int32) (hb hby own_d2_48) rfl rfl (l' := #[.val (.long j1), .second, .val (.ref a1), .val (.int i1), .val (.int (((((((((i1 + (1 : Int32)) + (1 : Int32)) + (1 : Int32)) + (1 : Int32)) + (1 : Int32)) + (1 : Int32)) + (1 : Int32)) + (1 : Int32)) + (1 : Int32))), .val (.long (own_c8 j1)), .second]) rfl ?_
                    show Steps p.tables e below (T40.setTop (mkF m 51 #[.val (.long j1), .second, .val (.ref a1), .val (.int i1), .val (.int (((((((((i1 + (1 : Int32)) + (1 : Int32)) + (1 : Int32)) + (1 : Int32)) + (1 : Int32)) + (1 : Int32)) + (1 : Int32)) + (1 : Int32)) + (1 : Int32))), .val (.long (own_c8 j1)), .second] [(.int ((((((((i1 + (1 : Int32)) + (1 : Int32)) + (1 : Int32)) + (1 : Int32)) + (1 : Int32)) + (1 : Int32)) + (1 : Int32)) + (1 : Int32))), (.ref a1)])) _
                    refine XT.lload X40.here hx rfl (hb hby own_d2_51) rfl ?_
                    show Steps p.tables e below (T40.setTop (mkF m 53 #[.val (.long j1), .second, .val (.ref a1), .val (.int i1), .val (.int (((((((((i1 + (1 : Int32)) + (1 : Int32)) + (1 : Int32)) + (1 : Int32)) + (1 : Int32)) + (1 : Int32)) + (1 : Int32)) + (1 : Int32)) + (1 : Int32))), .val (.long (own_c8 j1)), .second] [(.long (own_c8 j1)), (.int ((((((((i1 + (1 : Int32)) + (1 : Int32)) + (1 : Int32)) + (1 : Int32)) + (1 : Int32)) + (1 : Int32)) + (1 : Int32)) + (1 : Int32))), (.ref a1)])) _
                    refine XT.l2i X40.here hx rfl (hb hby own_d2_53) rfl ?_
                    show Steps p.tables e below (T40.setTop (mkF m 54 #[.val (.long j1), .second, .val (.ref a1), .val (.int i1), .val (.int (((((((((i1 + (1 : Int32)) + (1 : Int32)) + (1 : Int32)) + (1 : Int32)) + (1 : Int32)) + (1 : Int32)) + (1 : Int32)) + (1 : Int32)) + (1 : Int32))), .val (.long (own_c8 j1)), .second] [(.int ((own_c8 j1).toInt32)), (.int ((((((((i1 + (1 : Int32)) + (1 : Int32)) + (1 : Int32)) + (1 : Int32)) + (1 : Int32)) + (1 : Int32)) + (1 : Int32)) + (1 : Int32))), (.ref a1)])) _
                    refine XT.i2b X40.here hx rfl (hb hby own_d2_54) rfl ?_
                    show Steps p.tables e below (T40.setTop (mkF m 55 #[.val (.long j1), .second, .val (.ref a1), .val (.int i1), .val (.int (((((((((i1 + (1 : Int32)) + (1 : Int32)) + (1 : Int32)) + (1 : Int32)) + (1 : Int32)) + (1 : Int32)) + (1 : Int32)) + (1 : Int32)) + (1 : Int32))), .val (.long (own_c8 j1)), .second] [(.int (((own_c8 j1).toInt32).toInt8.toInt32)), (.int ((((((((i1 + (1 : Int32)) + (1 : Int32)) + (1 : Int32)) + (1 : Int32)) + (1 : Int32)) + (1 : Int32)) + (1 : Int32)) + (1 : Int32))), (.ref a1)])) _
                    refine st42 _ ?_
                    show Steps p.tables e below (T42.setTop (mkF m 56 #[.val (.long j1), .second, .val (.ref a1), .val (.int i1), .val (.int (((((((((i1 + (1 : Int32)) + (1 : Int32)) + (1 : Int32)) + (1 : Int32)) + (1 : Int32)) + (1 : Int32)) + (1 : Int32)) + (1 : Int32)) + (1 : Int32))), .val (.long (own_c8 j1)), .second] [])) _
                    refine XS.iload X42.here hx rfl (hb hby own_d2_56) rfl ?_
                    show Steps p.tables e below (T42.setTop (mkF m 58 #[.val (.long j1), .second, .val (.ref a1), .val (.int i1), .val (.int (((((((((i1 + (1 : Int32)) + (1 : Int32)) + (1 : Int32)) + (1 : Int32)) + (1 : Int32)) + (1 : Int32)) + (1 : Int32)) + (1 : Int32)) + (1 : Int32))), .val (.long (own_c8 j1)), .second] [(.int (((((((((i1 + (1 : Int32)) + (1 : Int32)) + (1 : Int32)) + (1 : Int32)) + (1 : Int32)) + (1 : Int32)) + (1 : Int32)) + (1 : Int32)) + (1 : Int32)))])) _
                    exact retOut X42 hx (t := .int) Bd.returns rfl (Or.inl ⟨rfl, Or.inl rfl, _, rfl⟩) (hb hby own_d2_58) hr
                  · show own_Q2 Z j1 a1 i1 kc vs h0 n0 _ T42.heap _
                    rw [e42]
                    exact ⟨by unfold own_end; rw [if_neg hz0, if_neg hz1, if_neg hz2, if_neg hz3, if_neg hz4, if_neg hz5, if_neg hz6, if_neg hz7], N42, K42, (by unfold own_wr; rw [if_neg hz0, if_neg hz1, if_neg hz2, if_neg hz3, if_neg hz4, if_neg hz5, if_neg hz6, if_neg hz7]; exact V42)⟩
theorem own_d3_0 : decode method_4_code 0 = .ok (.iload_n 1, 1) := by decide +kernel
theorem own_d3_1 : decode method_4_code 1 = .ok (.iload 5, 2) := by decide +kernel
theorem own_d3_3 : decode method_4_code 3 = .ok (.isub, 1) := by decide +kernel
theorem own_d3_4 : decode method_4_code 4 = .ok (.istore 7, 2) := by decide +kernel
theorem own_d3_6 : decode method_4_code 6 = .ok (.iload 7, 2) := by decide +kernel
theorem own_d3_8 : decode method_4_code 8 = .ok (.ifCond .lt 10, 3) := by decide +kernel
theorem own_d3_11 : decode method_4_code 11 = .ok (.iload 7, 2) := by decide +kernel
theorem own_d3_13 : decode method_4_code 13 = .ok (.iload 4, 2) := by decide +kernel
theorem own_d3_15 : decode method_4_code 15 = .ok (.if_icmp .lt 10, 3) := by decide +kernel
theorem own_d3_18 : decode method_4_code 18 = .ok (.iload 6, 2) := by decide +kernel
theorem own_d3_20 : decode method_4_code 20 = .ok (.istore 8, 2) := by decide +kernel
theorem own_d3_22 : decode method_4_code 22 = .ok (.goto 40, 3) := by decide +kernel
theorem own_d3_25 : decode method_4_code 25 = .ok (.lload_n 2, 1) := by decide +kernel
theorem own_d3_26 : decode method_4_code 26 = .ok (.bipush 7, 2) := by decide +kernel
theorem own_d3_28 : decode method_4_code 28 = .ok (.iload 7, 2) := by decide +kernel
theorem own_d3_30 : decode method_4_code 30 = .ok (.imul, 1) := by decide +kernel
theorem own_d3_31 : decode method_4_code 31 = .ok (.lushr, 1) := by decide +kernel
theorem own_d3_32 : decode method_4_code 32 = .ok (.ldc2_w 44, 3) := by decide +kernel
theorem own_d3_35 : decode method_4_code 35 = .ok (.land, 1) := by decide +kernel
theorem own_d3_36 : decode method_4_code 36 = .ok (.lstore 9, 2) := by decide +kernel
theorem own_d3_38 : decode method_4_code 38 = .ok (.iload 7, 2) := by decide +kernel
theorem own_d3_40 : decode method_4_code 40 = .ok (.iload 4, 2) := by decide +kernel
theorem own_d3_42 : decode method_4_code 42 = .ok (.iconst 1, 1) := by decide +kernel
theorem own_d3_43 : decode method_4_code 43 = .ok (.isub, 1) := by decide +kernel
theorem own_d3_44 : decode method_4_code 44 = .ok (.if_icmp .ge 12, 3) := by decide +kernel
theorem own_d3_47 : decode method_4_code 47 = .ok (.lload 9, 2) := by decide +kernel
theorem own_d3_49 : decode method_4_code 49 = .ok (.ldc2_w 28, 3) := by decide +kernel
theorem own_d3_52 : decode method_4_code 52 = .ok (.lor, 1) := by decide +kernel
theorem own_d3_53 : decode method_4_code 53 = .ok (.goto 5, 3) := by decide +kernel
theorem own_d3_56 : decode method_4_code 56 = .ok (.lload 9, 2) := by decide +kernel
theorem own_d3_58 : decode method_4_code 58 = .ok (.l2i, 1) := by decide +kernel
theorem own_d3_59 : decode method_4_code 59 = .ok (.i2b, 1) := by decide +kernel
theorem own_d3_60 : decode method_4_code 60 = .ok (.istore 8, 2) := by decide +kernel
theorem own_d3_62 : decode method_4_code 62 = .ok (.aload_n 0, 1) := by decide +kernel
theorem own_d3_63 : decode method_4_code 63 = .ok (.iload_n 1, 1) := by decide +kernel
theorem own_d3_64 : decode method_4_code 64 = .ok (.baload, 1) := by decide +kernel
theorem own_d3_65 : decode method_4_code 65 = .ok (.iload 8, 2) := by decide +kernel
theorem own_d3_67 : decode method_4_code 67 = .ok (.if_icmp .ne 7, 3) := by decide +kernel
theorem own_d3_70 : decode method_4_code 70 = .ok (.iconst 1, 1) := by decide +kernel
theorem own_d3_71 : decode method_4_code 71 = .ok (.goto 4, 3) := by decide +kernel
theorem own_d3_74 : decode method_4_code 74 = .ok (.iconst 0, 1) := by decide +kernel
theorem own_d3_75 : decode method_4_code 75 = .ok (.ireturn, 1) := by decide +kernel
theorem own_pn3 : plainName "com/example/plainsong/plainsong/PackedTextsWriteNumberPinLaw" = true := by first | (simp [plainName, overriddenIn]; done) | decide +kernel
theorem own_ef3 (m : MethodId) (a1 : Addr) (i1 : Int32) (j1 : Int64) (s1 : Int32) (t1 : Int32) (f1 : Int32) : entryFrame m #[(.ref a1), (.int i1), (.long j1), (.int s1), (.int t1), (.int f1)] 11 = mkF m 0 #[.val (.ref a1), .val (.int i1), .val (.long j1), .second, .val (.int s1), .val (.int t1), .val (.int f1), .unset, .unset, .unset, .unset] [] := by first | (simp [entryFrame, mkF, argsToLocals, Value.category]; done) | rfl
def own_Q3 (Z : State) (a1 : Addr) (i1 : Int32) (j1 : Int64) (s1 : Int32) (t1 : Int32) (f1 : Int32) (kc : ClassId) (vs : List Value) (wv : Int32) (h0 : Heap) (n0 : Nat) (v : Option Value) (h : Heap) (L : List Loc) : Prop := (v = some (.int (1 : Int32))) ∧ (Fr n0 L) ∧ (h = h0)
set_option maxRecDepth 65536 in
set_option maxHeartbeats 40000000 in
theorem own_rm3 (l : Launch) (Z : State) (a0 : Array Value) (hw : ∀ d ∈ tables_1, d.before a0 Z = true) (ws : List Jvm.Cond) (a1 : Addr) (i1 : Int32) (j1 : Int64) (s1 : Int32) (t1 : Int32) (f1 : Int32) (kc : ClassId) (vs : List Value) (wv : Int32) (h0 : Heap) (n0 : Nat) (Z0 : n0 ≤ h0.size) (P_V_a1 : Arv Z h0 a1 kc .byte (16 : Int32) vs (.int (0 : Int32))) (hin0 : ¬ i1 < 0 ∧ i1 < (16 : Int32)) (hat0 : vs.getD (i1).toNatClampNeg (.int (0 : Int32)) = .int wv) (heq : wv = own_want j1 i1 s1 t1 f1) :
    MetFree l (⟨"com/example/plainsong/plainsong/PackedTextsWriteNumberPinLaw", "check", "([BIJIIB)Z"⟩ : MethodName) (head1 (Jvm.Cond.code (⟨"com/example/plainsong/plainsong/PackedTextsWriteNumberPinLaw", "check", "([BIJIIB)Z"⟩ : MethodName) method_4_code 11 (some .boolean) :: ws) ({ frames := 0, cells := 0, slots := 0, locals := 0 } : Room)) (fun ar_ U_ => ar_ = #[(.ref a1), (.int i1), (.long j1), (.int s1), (.int t1), (.int f1)] ∧ Z.Warmed39 U_.vm ∧ U_.heap = h0) (fun _ _ _ _ _ => True) (fun _ U_ o_ U_' => ∃ v_ L_, o_ = .returned v_ ∧ own_Q3 Z a1 i1 j1 s1 t1 f1 kc vs wv h0 n0 v_ U_'.heap L_ ∧ FrameEnd U_ o_ U_' L_ ({ frames := 0, cells := 0, slots := 0, locals := 0 } : Room).cells ({ frames := 0, cells := 0, slots := 0, locals := 0 } : Room).slots) := by
  refine MetFree.of_bodySF (plainFor_of_name own_pn3) hisR ?_
  intro p e s m args below meth c s₁ Bd hml0 hP hK
  obtain ⟨rfl, hZ, hh⟩ := hP
  have hx := Bd.exec
  have hby := Bd.bytes
  have hml : c.maxLocals = 11 := hml0
  have hown : s.vm.findClass "com/example/plainsong/plainsong/PackedTextsWriteNumberPinLaw" = some m.cls := findClass_of_methodNamed Bd.named
  have hnm := (name_of_methodNamed Bd.named Bd.method).1
  have X0 : Stand p l e ({ frames := 0, cells := 0, slots := 0, locals := 0 } : Room) s m #[(.ref a1), (.int i1), (.long j1), (.int s1), (.int t1), (.int f1)] below meth c s₁ [] 0 0 := Stand.of_body Bd
  have e0 : s₁.heap = h0 := by rw [← hh, Bd.state]; rfl
  have N0 := Fr.nil n0
  have pre0 : ∀ t, Steps p.tables e below (s₁.setTop (mkF m 0 #[.val (.ref a1), .val (.int i1), .val (.long j1), .second, .val (.int s1), .val (.int t1), .val (.int f1), .unset, .unset, .unset, .unset] [])) t → Steps p.tables e below (s₁.setTop (entryFrame m #[(.ref a1), (.int i1), (.long j1), (.int s1), (.int t1), (.int f1)] 11)) t := fun t k => castTop (own_ef3 m a1 i1 j1 s1 t1 f1) k
  have pre1 : ∀ t, Steps p.tables e below (s₁.setTop (mkF m 8 #[.val (.ref a1), .val (.int i1), .val (.long j1), .second, .val (.int s1), .val (.int t1), .val (.int f1), .val (.int (i1 - t1)), .unset, .unset, .unset] [(.int (i1 - t1))])) t → Steps p.tables e below (s₁.setTop (entryFrame m #[(.ref a1), (.int i1), (.long j1), (.int s1), (.int t1), (.int f1)] 11)) t := fun t k => pre0 t (by
    show Steps p.tables e below (s₁.setTop (mkF m 0 #[.val (.ref a1), .val (.int i1), .val (.long j1), .second, .val (.int s1), .val (.int t1), .val (.int f1), .unset, .unset, .unset, .unset] [])) _
    refine XS.iloadN X0.here hx rfl (hb hby own_d3_0) rfl ?_
    show Steps p.tables e below (s₁.setTop (mkF m 1 #[.val (.ref a1), .val (.int i1), .val (.long j1), .second, .val (.int s1), .val (.int t1), .val (.int f1), .unset, .unset, .unset, .unset] [(.int i1)])) _
    refine XS.iload X0.here hx rfl (hb hby own_d3_1) rfl ?_
    show Steps p.tables e below (s₁.setTop (mkF m 3 #[.val (.ref a1), .val (.int i1), .val (.long j1), .second, .val (.int s1), .val (.int t1), .val (.int f1), .unset, .unset, .unset, .unset] [(.int t1), (.int i1)])) _
    refine XS.isub X0.here hx rfl (hb hby own_d3_3) rfl ?_
    show Steps p.tables e below (s₁.setTop (mkF m 4 #[.val (.ref a1), .val (.int i1), .val (.long j1), .second, .val (.int s1), .val (.int t1), .val (.int f1), .unset, .unset, .unset, .unset] [(.int (i1 - t1))])) _
    refine XS.istore X0.here hx rfl (hb hby own_d3_4) rfl (l' := #[.val (.ref a1), .val (.int i1), .val (.long j1), .second, .val (.int s1), .val (.int t1), .val (.int f1), .val (.int (i1 - t1)), .unset, .unset, .unset]) rfl ?_
    show Steps p.tables e below (s₁.setTop (mkF m 6 #[.val (.ref a1), .val (.int i1), .val (.long j1), .second, .val (.int s1), .val (.int t1), .val (.int f1), .val (.int (i1 - t1)), .unset, .unset, .unset] [])) _
    refine XS.iload X0.here hx rfl (hb hby own_d3_6) rfl ?_
    exact k)
  by_cases h8 : (i1 - t1) < 0
  · obtain ⟨cl2, Ar2, Q2, Sz2, Nn2, Ha2, Gf2⟩ := id P_V_a1
    have ghin2 : ¬ (i1 < 0 ∨ cl2.slots.size ≤ (i1).toNatClampNeg) := inb_of Sz2 hin0
    have ghat2 : cl2.slots[(i1).toNatClampNeg]? = some (.int wv) := Ha2.at ghin2 hat0
    obtain ⟨fs, hr, hrun, hended, hW, hsame⟩ := X0.leave (v := some (.int (1 : Int32))) (fun h => by rw [Bd.returns] at h; cases h)
    refine ⟨_, _, pre1 _ ?_, hrun, hended, _, _, rfl, ?_, ⟨_, rfl⟩, hW, hsame.mono (by decide) (by decide)⟩
    · show Steps p.tables e below (s₁.setTop (mkF m 8 #[.val (.ref a1), .val (.int i1), .val (.long j1), .second, .val (.int s1), .val (.int t1), .val (.int f1), .val (.int (i1 - t1)), .unset, .unset, .unset] [(.int (i1 - t1))])) _
      refine XS.ifYes X0.here hx rfl (pc0 := 8) (pc' := 18) rfl (hb hby own_d3_8) rfl (XT.i0_lt_t h8) (by decide) (by decide) ?_
      show Steps p.tables e below (s₁.setTop (mkF m 18 #[.val (.ref a1), .val (.int i1), .val (.long j1), .second, .val (.int s1), .val (.int t1), .val (.int f1), .val (.int (i1 - t1)), .unset, .unset, .unset] [])) _
      refine XS.iload X0.here hx rfl (hb hby own_d3_18) rfl ?_
      show Steps p.tables e below (s₁.setTop (mkF m 20 #[.val (.ref a1), .val (.int i1), .val (.long j1), .second, .val (.int s1), .val (.int t1), .val (.int f1), .val (.int (i1 - t1)), .unset, .unset, .unset] [(.int f1)])) _
      refine XS.istore X0.here hx rfl (hb hby own_d3_20) rfl (l' := #[.val (.ref a1), .val (.int i1), .val (.long j1), .second, .val (.int s1), .val (.int t1), .val (.int f1), .val (.int (i1 - t1)), .val (.int f1), .unset, .unset]) rfl ?_
      show Steps p.tables e below (s₁.setTop (mkF m 22 #[.val (.ref a1), .val (.int i1), .val (.long j1), .second, .val (.int s1), .val (.int t1), .val (.int f1), .val (.int (i1 - t1)), .val (.int f1), .unset, .unset] [])) _
      refine XS.goto X0.here hx rfl (pc0 := 22) (pc' := 62) rfl (hb hby own_d3_22) (by decide) (by decide) ?_
      show Steps p.tables e below (s₁.setTop (mkF m 62 #[.val (.ref a1), .val (.int i1), .val (.long j1), .second, .val (.int s1), .val (.int t1), .val (.int f1), .val (.int (i1 - t1)), .val (.int f1), .unset, .unset] [])) _
      refine XS.aloadN X0.here hx rfl (hb hby own_d3_62) rfl rfl ?_
      show Steps p.tables e below (s₁.setTop (mkF m 63 #[.val (.ref a1), .val (.int i1), .val (.long j1), .second, .val (.int s1), .val (.int t1), .val (.int f1), .val (.int (i1 - t1)), .val (.int f1), .unset, .unset] [(.ref a1)])) _
      refine XS.iloadN X0.here hx rfl (hb hby own_d3_63) rfl ?_
      show Steps p.tables e below (s₁.setTop (mkF m 64 #[.val (.ref a1), .val (.int i1), .val (.long j1), .second, .val (.int s1), .val (.int t1), .val (.int f1), .val (.int (i1 - t1)), .val (.int f1), .unset, .unset] [(.int i1), (.ref a1)])) _
      refine X0.baloadBytes hx (j := i1) (v := (.int wv)) (by rw [e0]; exact Ar2.1) (State.isArrayOf_alike hZ.alike Ar2.2.1) Ar2.2.2 ghin2 ghat2 (g := (mkF m 64 #[.val (.ref a1), .val (.int i1), .val (.long j1), .second, .val (.int s1), .val (.int t1), .val (.int f1), .val (.int (i1 - t1)), .val (.int f1), .unset, .unset] [(.int i1), (.ref a1)])) rfl rfl (hb hby own_d3_64) _ ?_
      show Steps p.tables e below (s₁.setTop (mkF m 65 #[.val (.ref a1), .val (.int i1), .val (.long j1), .second, .val (.int s1), .val (.int t1), .val (.int f1), .val (.int (i1 - t1)), .val (.int f1), .unset, .unset] [(.int wv)])) _
      refine XS.iload X0.here hx rfl (hb hby own_d3_65) rfl ?_
      show Steps p.tables e below (s₁.setTop (mkF m 67 #[.val (.ref a1), .val (.int i1), .val (.long j1), .second, .val (.int s1), .val (.int t1), .val (.int f1), .val (.int (i1 - t1)), .val (.int f1), .unset, .unset] [(.int f1), (.int wv)])) _
      refine XS.icmpNo X0.here hx rfl (hb hby own_d3_67) rfl (XT.ii_ne_f (by rw [heq]; unfold own_want; rw [if_pos h8])) ?_
      show Steps p.tables e below (s₁.setTop (mkF m 70 #[.val (.ref a1), .val (.int i1), .val (.long j1), .second, .val (.int s1), .val (.int t1), .val (.int f1), .val (.int (i1 - t1)), .val (.int f1), .unset, .unset] [])) _
      refine XT.iconstV X0.here hx rfl (1 : Int32) (hb hby own_d3_70) rfl ?_
      show Steps p.tables e below (s₁.setTop (mkF m 71 #[.val (.ref a1), .val (.int i1), .val (.long j1), .second, .val (.int s1), .val (.int t1), .val (.int f1), .val (.int (i1 - t1)), .val (.int f1), .unset, .unset] [(.int (1 : Int32))])) _
      refine XS.goto X0.here hx rfl (pc0 := 71) (pc' := 75) rfl (hb hby own_d3_71) (by decide) (by decide) ?_
      show Steps p.tables e below (s₁.setTop (mkF m 75 #[.val (.ref a1), .val (.int i1), .val (.long j1), .second, .val (.int s1), .val (.int t1), .val (.int f1), .val (.int (i1 - t1)), .val (.int f1), .unset, .unset] [(.int (1 : Int32))])) _
      exact retN X0 hx (t := .boolean) Bd.returns (by simp) (hb hby own_d3_75) hr
    · show own_Q3 Z a1 i1 j1 s1 t1 f1 kc vs wv h0 n0 _ s₁.heap _
      exact ⟨rfl, N0, e0⟩
  · have pre3 : ∀ t, Steps p.tables e below (s₁.setTop (mkF m 15 #[.val (.ref a1), .val (.int i1), .val (.long j1), .second, .val (.int s1), .val (.int t1), .val (.int f1), .val (.int (i1 - t1)), .unset, .unset, .unset] [(.int s1), (.int (i1 - t1))])) t → Steps p.tables e below (s₁.setTop (entryFrame m #[(.ref a1), (.int i1), (.long j1), (.int s1), (.int t1), (.int f1)] 11)) t := fun t k => pre1 t (by
      show Steps p.tables e below (s₁.setTop (mkF m 8 #[.val (.ref a1), .val (.int i1), .val (.long j1), .second, .val (.int s1), .val (.int t1), .val (.int f1), .val (.int (i1 - t1)), .unset, .unset, .unset] [(.int (i1 - t1))])) _
      refine XS.ifNo X0.here hx rfl (hb hby own_d3_8) rfl (XT.i0_lt_f h8) ?_
      show Steps p.tables e below (s₁.setTop (mkF m 11 #[.val (.ref a1), .val (.int i1), .val (.long j1), .second, .val (.int s1), .val (.int t1), .val (.int f1), .val (.int (i1 - t1)), .unset, .unset, .unset] [])) _
      refine XS.iload X0.here hx rfl (hb hby own_d3_11) rfl ?_
      show Steps p.tables e below (s₁.setTop (mkF m 13 #[.val (.ref a1), .val (.int i1), .val (.long j1), .second, .val (.int s1), .val (.int t1), .val (.int f1), .val (.int (i1 - t1)), .unset, .unset, .unset] [(.int (i1 - t1))])) _
      refine XS.iload X0.here hx rfl (hb hby own_d3_13) rfl ?_
      exact k)
    by_cases h15 : (i1 - t1) < s1
    · have pre4 : ∀ t, Steps p.tables e below (s₁.setTop (mkF m 44 #[.val (.ref a1), .val (.int i1), .val (.long j1), .second, .val (.int s1), .val (.int t1), .val (.int f1), .val (.int (i1 - t1)), .unset, .val (.long ((XT.ushrL j1 ((7 : Int32) * (i1 - t1))) &&& (127 : Int64))), .second] [(.int (s1 - (1 : Int32))), (.int (i1 - t1))])) t → Steps p.tables e below (s₁.setTop (entryFrame m #[(.ref a1), (.int i1), (.long j1), (.int s1), (.int t1), (.int f1)] 11)) t := fun t k => pre3 t (by
        show Steps p.tables e below (s₁.setTop (mkF m 15 #[.val (.ref a1), .val (.int i1), .val (.long j1), .second, .val (.int s1), .val (.int t1), .val (.int f1), .val (.int (i1 - t1)), .unset, .unset, .unset] [(.int s1), (.int (i1 - t1))])) _
        refine XS.icmpYes X0.here hx rfl (pc0 := 15) (pc' := 25) rfl (hb hby own_d3_15) rfl (XT.ii_lt_t h15) (by decide) (by decide) ?_
        show Steps p.tables e below (s₁.setTop (mkF m 25 #[.val (.ref a1), .val (.int i1), .val (.long j1), .second, .val (.int s1), .val (.int t1), .val (.int f1), .val (.int (i1 - t1)), .unset, .unset, .unset] [])) _
        refine XT.lloadN X0.here hx rfl (hb hby own_d3_25) rfl ?_
        show Steps p.tables e below (s₁.setTop (mkF m 26 #[.val (.ref a1), .val (.int i1), .val (.long j1), .second, .val (.int s1), .val (.int t1), .val (.int f1), .val (.int (i1 - t1)), .unset, .unset, .unset] [(.long j1)])) _
        refine XT.bipushV X0.here hx rfl (7 : Int32) (hb hby own_d3_26) rfl ?_
        show Steps p.tables e below (s₁.setTop (mkF m 28 #[.val (.ref a1), .val (.int i1), .val (.long j1), .second, .val (.int s1), .val (.int t1), .val (.int f1), .val (.int (i1 - t1)), .unset, .unset, .unset] [(.int (7 : Int32)), (.long j1)])) _
        refine XS.iload X0.here hx rfl (hb hby own_d3_28) rfl ?_
        show Steps p.tables e below (s₁.setTop (mkF m 30 #[.val (.ref a1), .val (.int i1), .val (.long j1), .second, .val (.int s1), .val (.int t1), .val (.int f1), .val (.int (i1 - t1)), .unset, .unset, .unset] [(.int (i1 - t1)), (.int (7 : Int32)), (.long j1)])) _
        refine XS.imul X0.here hx rfl (hb hby own_d3_30) rfl ?_
        show Steps p.tables e below (s₁.setTop (mkF m 31 #[.val (.ref a1), .val (.int i1), .val (.long j1), .second, .val (.int s1), .val (.int t1), .val (.int f1), .val (.int (i1 - t1)), .unset, .unset, .unset] [(.int ((7 : Int32) * (i1 - t1))), (.long j1)])) _
        refine XT.lushr X0.here hx rfl (hb hby own_d3_31) rfl ?_
        show Steps p.tables e below (s₁.setTop (mkF m 32 #[.val (.ref a1), .val (.int i1), .val (.long j1), .second, .val (.int s1), .val (.int t1), .val (.int f1), .val (.int (i1 - t1)), .unset, .unset, .unset] [(.long (XT.ushrL j1 ((7 : Int32) * (i1 - t1))))])) _
        refine X0.ldc2J hx hown (mvT hZ (hw _ (List.mem_of_getElem? (i := 15) rfl))) (g := (mkF m 32 #[.val (.ref a1), .val (.int i1), .val (.long j1), .second, .val (.int s1), .val (.int t1), .val (.int f1), .val (.int (i1 - t1)), .unset, .unset, .unset] [(.long (XT.ushrL j1 ((7 : Int32) * (i1 - t1))))])) rfl (hb hby own_d3_32) ?_
        show Steps p.tables e below (s₁.setTop (mkF m 35 #[.val (.ref a1), .val (.int i1), .val (.long j1), .second, .val (.int s1), .val (.int t1), .val (.int f1), .val (.int (i1 - t1)), .unset, .unset, .unset] [(.long (127 : Int64)), (.long (XT.ushrL j1 ((7 : Int32) * (i1 - t1))))])) _
        refine XT.land X0.here hx rfl (hb hby own_d3_35) rfl ?_
        show Steps p.tables e below (s₁.setTop (mkF m 36 #[.val (.ref a1), .val (.int i1), .val (.long j1), .second, .val (.int s1), .val (.int t1), .val (.int f1), .val (.int (i1 - t1)), .unset, .unset, .unset] [(.long ((XT.ushrL j1 ((7 : Int32) * (i1 - t1))) &&& (127 : Int64)))])) _
        refine XT.lstore X0.here hx rfl (hb hby own_d3_36) rfl (l' := #[.val (.ref a1), .val (.int i1), .val (.long j1), .second, .val (.int s1), .val (.int t1), .val (.int f1), .val (.int (i1 - t1)), .unset, .val (.long ((XT.ushrL j1 ((7 : Int32) * (i1 - t1))) &&& (127 : Int64))), .second]) rfl ?_
        show Steps p.tables e below (s₁.setTop (mkF m 38 #[.val (.ref a1), .val (.int i1), .val (.long j1), .second, .val (.int s1), .val (.int t1), .val (.int f1), .val (.int (i1 - t1)), .unset, .val (.long ((XT.ushrL j1 ((7 : Int32) * (i1 - t1))) &&& (127 : Int64))), .second] [])) _
        refine XS.iload X0.here hx rfl (hb hby own_d3_38) rfl ?_
        show Steps p.tables e below (s₁.setTop (mkF m 40 #[.val (.ref a1), .val (.int i1), .val (.long j1), .second, .val (.int s1), .val (.int t1), .val (.int f1), .val (.int (i1 - t1)), .unset, .val (.long ((XT.ushrL j1 ((7 : Int32) * (i1 - t1))) &&& (127 : Int64))), .second] [(.int (i1 - t1))])) _
        refine XS.iload X0.here hx rfl (hb hby own_d3_40) rfl ?_
        show Steps p.tables e below (s₁.setTop (mkF m 42 #[.val (.ref a1), .val (.int i1), .val (.long j1), .second, .val (.int s1), .val (.int t1), .val (.int f1), .val (.int (i1 - t1)), .unset, .val (.long ((XT.ushrL j1 ((7 : Int32) * (i1 - t1))) &&& (127 : Int64))), .second] [(.int s1), (.int (i1 - t1))])) _
        refine XT.iconstV X0.here hx rfl (1 : Int32) (hb hby own_d3_42) rfl ?_
        show Steps p.tables e below (s₁.setTop (mkF m 43 #[.val (.ref a1), .val (.int i1), .val (.long j1), .second, .val (.int s1), .val (.int t1), .val (.int f1), .val (.int (i1 - t1)), .unset, .val (.long ((XT.ushrL j1 ((7 : Int32) * (i1 - t1))) &&& (127 : Int64))), .second] [(.int (1 : Int32)), (.int s1), (.int (i1 - t1))])) _
        refine XS.isub X0.here hx rfl (hb hby own_d3_43) rfl ?_
        exact k)
      by_cases h44 : (i1 - t1) < (s1 - (1 : Int32))
      · obtain ⟨cl5, Ar5, Q5, Sz5, Nn5, Ha5, Gf5⟩ := id P_V_a1
        have ghin5 : ¬ (i1 < 0 ∨ cl5.slots.size ≤ (i1).toNatClampNeg) := inb_of Sz5 hin0
        have ghat5 : cl5.slots[(i1).toNatClampNeg]? = some (.int wv) := Ha5.at ghin5 hat0
        obtain ⟨fs, hr, hrun, hended, hW, hsame⟩ := X0.leave (v := some (.int (1 : Int32))) (fun h => by rw [Bd.returns] at h; cases h)
        refine ⟨_, _, pre4 _ ?_, hrun, hended, _, _, rfl, ?_, ⟨_, rfl⟩, hW, hsame.mono (by decide) (by decide)⟩
        · show Steps p.tables e below (s₁.setTop (mkF m 44 #[.val (.ref a1), .val (.int i1), .val (.long j1), .second, .val (.int s1), .val (.int t1), .val (.int f1), .val (.int (i1 - t1)), .unset, .val (.long ((XT.ushrL j1 ((7 : Int32) * (i1 - t1))) &&& (127 : Int64))), .second] [(.int (s1 - (1 : Int32))), (.int (i1 - t1))])) _
          refine XS.icmpNo X0.here hx rfl (hb hby own_d3_44) rfl (XT.ii_ge_f h44) ?_
          show Steps p.tables e below (s₁.setTop (mkF m 47 #[.val (.ref a1), .val (.int i1), .val (.long j1), .second, .val (.int s1), .val (.int t1), .val (.int f1), .val (.int (i1 - t1)), .unset, .val (.long ((XT.ushrL j1 ((7 : Int32) * (i1 - t1))) &&& (127 : Int64))), .second] [])) _
          refine XT.lload X0.here hx rfl (hb hby own_d3_47) rfl ?_
          show Steps p.tables e below (s₁.setTop (mkF m 49 #[.val (.ref a1), .val (.int i1), .val (.long j1), .second, .val (.int s1), .val (.int t1), .val (.int f1), .val (.int (i1 - t1)), .unset, .val (.long ((XT.ushrL j1 ((7 : Int32) * (i1 - t1))) &&& (127 : Int64))), .second] [(.long ((XT.ushrL j1 ((7 : Int32) * (i1 - t1))) &&& (127 : Int64)))])) _
          refine X0.ldc2J hx hown (mvT hZ (hw _ (List.mem_of_getElem? (i := 7) rfl))) (g := (mkF m 49 #[.val (.ref a1), .val (.int i1), .val (.long j1), .second, .val (.int s1), .val (.int t1), .val (.int f1), .val (.int (i1 - t1)), .unset, .val (.long ((XT.ushrL j1 ((7 : Int32) * (i1 - t1))) &&& (127 : Int64))), .second] [(.long ((XT.ushrL j1 ((7 : Int32) * (i1 - t1))) &&& (127 : Int64)))])) rfl (hb hby own_d3_49) ?_
          show Steps p.tables e below (s₁.setTop (mkF m 52 #[.val (.ref a1), .val (.int i1), .val (.long j1), .second, .val (.int s1), .val (.int t1), .val (.int f1), .val (.int (i1 - t1)), .unset, .val (.long ((XT.ushrL j1 ((7 : Int32) * (i1 - t1))) &&& (127 : Int64))), .second] [(.long (128 : Int64)), (.long ((XT.ushrL j1 ((7 : Int32) * (i1 - t1))) &&& (127 : Int64)))])) _
          refine XT.lor X0.here hx rfl (hb hby own_d3_52) rfl ?_
          show Steps p.tables e below (s₁.setTop (mkF m 53 #[.val (.ref a1), .val (.int i1), .val (.long j1), .second, .val (.int s1), .val (.int t1), .val (.int f1), .val (.int (i1 - t1)), .unset, .val (.long ((XT.ushrL j1 ((7 : Int32) * (i1 - t1))) &&& (127 : Int64))), .second] [(.long (((XT.ushrL j1 ((7 : Int32) * (i1 - t1))) &&& (127 : Int64)) ||| (128 : Int64)))])) _
          refine XS.goto X0.here hx rfl (pc0 := 53) (pc' := 58) rfl (hb hby own_d3_53) (by decide) (by decide) ?_
          show Steps p.tables e below (s₁.setTop (mkF m 58 #[.val (.ref a1), .val (.int i1), .val (.long j1), .second, .val (.int s1), .val (.int t1), .val (.int f1), .val (.int (i1 - t1)), .unset, .val (.long ((XT.ushrL j1 ((7 : Int32) * (i1 - t1))) &&& (127 : Int64))), .second] [(.long (((XT.ushrL j1 ((7 : Int32) * (i1 - t1))) &&& (127 : Int64)) ||| (128 : Int64)))])) _
          refine XT.l2i X0.here hx rfl (hb hby own_d3_58) rfl ?_
          show Steps p.tables e below (s₁.setTop (mkF m 59 #[.val (.ref a1), .val (.int i1), .val (.long j1), .second, .val (.int s1), .val (.int t1), .val (.int f1), .val (.int (i1 - t1)), .unset, .val (.long ((XT.ushrL j1 ((7 : Int32) * (i1 - t1))) &&& (127 : Int64))), .second] [(.int ((((XT.ushrL j1 ((7 : Int32) * (i1 - t1))) &&& (127 : Int64)) ||| (128 : Int64)).toInt32))])) _
          refine XT.i2b X0.here hx rfl (hb hby own_d3_59) rfl ?_
          show Steps p.tables e below (s₁.setTop (mkF m 60 #[.val (.ref a1), .val (.int i1), .val (.long j1), .second, .val (.int s1), .val (.int t1), .val (.int f1), .val (.int (i1 - t1)), .unset, .val (.long ((XT.ushrL j1 ((7 : Int32) * (i1 - t1))) &&& (127 : Int64))), .second] [(.int (((((XT.ushrL j1 ((7 : Int32) * (i1 - t1))) &&& (127 : Int64)) ||| (128 : Int64)).toInt32).toInt8.toInt32))])) _
          refine XS.istore X0.here hx rfl (hb hby own_d3_60) rfl (l' := #[.val (.ref a1), .val (.int i1), .val (.long j1), .second, .val (.int s1), .val (.int t1), .val (.int f1), .val (.int (i1 - t1)), .val (.int (((((XT.ushrL j1 ((7 : Int32) * (i1 - t1))) &&& (127 : Int64)) ||| (128 : Int64)).toInt32).toInt8.toInt32)), .val (.long ((XT.ushrL j1 ((7 : Int32) * (i1 - t1))) &&& (127 : Int64))), .second]) rfl ?_
          show Steps p.tables e below (s₁.setTop (mkF m 62 #[.val (.ref a1), .val (.int i1), .val (.long j1), .second, .val (.int s1), .val (.int t1), .val (.int f1), .val (.int (i1 - t1)), .val (.int (((((XT.ushrL j1 ((7 : Int32) * (i1 - t1))) &&& (127 : Int64)) ||| (128 : Int64)).toInt32).toInt8.toInt32)), .val (.long ((XT.ushrL j1 ((7 : Int32) * (i1 - t1))) &&& (127 : Int64))), .second] [])) _
          refine XS.aloadN X0.here hx rfl (hb hby own_d3_62) rfl rfl ?_
          show Steps p.tables e below (s₁.setTop (mkF m 63 #[.val (.ref a1), .val (.int i1), .val (.long j1), .second, .val (.int s1), .val (.int t1), .val (.int f1), .val (.int (i1 - t1)), .val (.int (((((XT.ushrL j1 ((7 : Int32) * (i1 - t1))) &&& (127 : Int64)) ||| (128 : Int64)).toInt32).toInt8.toInt32)), .val (.long ((XT.ushrL j1 ((7 : Int32) * (i1 - t1))) &&& (127 : Int64))), .second] [(.ref a1)])) _
          refine XS.iloadN X0.here hx rfl (hb hby own_d3_63) rfl ?_
          show Steps p.tables e below (s₁.setTop (mkF m 64 #[.val (.ref a1), .val (.int i1), .val (.long j1), .second, .val (.int s1), .val (.int t1), .val (.int f1), .val (.int (i1 - t1)), .val (.int (((((XT.ushrL j1 ((7 : Int32) * (i1 - t1))) &&& (127 : Int64)) ||| (128 : Int64)).toInt32).toInt8.toInt32)), .val (.long ((XT.ushrL j1 ((7 : Int32) * (i1 - t1))) &&& (127 : Int64))), .second] [(.int i1), (.ref a1)])) _
          refine X0.baloadBytes hx (j := i1) (v := (.int wv)) (by rw [e0]; exact Ar5.1) (State.isArrayOf_alike hZ.alike Ar5.2.1) Ar5.2.2 ghin5 ghat5 (g := (mkF m 64 #[.val (.ref a1), .val (.int i1), .val (.long j1), .second, .val (.int s1), .val (.int t1), .val (.int f1), .val (.int (i1 - t1)), .val (.int (((((XT.ushrL j1 ((7 : Int32) * (i1 - t1))) &&& (127 : Int64)) ||| (128 : Int64)).toInt32).toInt8.toInt32)), .val (.long ((XT.ushrL j1 ((7 : Int32) * (i1 - t1))) &&& (127 : Int64))), .second] [(.int i1), (.ref a1)])) rfl rfl (hb hby own_d3_64) _ ?_
          show Steps p.tables e below (s₁.setTop (mkF m 65 #[.val (.ref a1), .val (.int i1), .val (.long j1), .second, .val (.int s1), .val (.int t1), .val (.int f1), .val (.int (i1 - t1)), .val (.int (((((XT.ushrL j1 ((7 : Int32) * (i1 - t1))) &&& (127 : Int64)) ||| (128 : Int64)).toInt32).toInt8.toInt32)), .val (.long ((XT.ushrL j1 ((7 : Int32) * (i1 - t1))) &&& (127 : Int64))), .second] [(.int wv)])) _
          refine XS.iload X0.here hx rfl (hb hby own_d3_65) rfl ?_
          show Steps p.tables e below (s₁.setTop (mkF m 67 #[.val (.ref a1), .val (.int i1), .val (.long j1), .second, .val (.int s1), .val (.int t1), .val (.int f1), .val (.int (i1 - t1)), .val (.int (((((XT.ushrL j1 ((7 : Int32) * (i1 - t1))) &&& (127 : Int64)) ||| (128 : Int64)).toInt32).toInt8.toInt32)), .val (.long ((XT.ushrL j1 ((7 : Int32) * (i1 - t1))) &&& (127 : Int64))), .second] [(.int (((((XT.ushrL j1 ((7 : Int32) * (i1 - t1))) &&& (127 : Int64)) ||| (128 : Int64)).toInt32).toInt8.toInt32)), (.int wv)])) _
          refine XS.icmpNo X0.here hx rfl (hb hby own_d3_67) rfl (XT.ii_ne_f (by rw [heq]; unfold own_want; rw [if_neg h8, if_pos h15, if_pos h44])) ?_
          show Steps p.tables e below (s₁.setTop (mkF m 70 #[.val (.ref a1), .val (.int i1), .val (.long j1), .second, .val (.int s1), .val (.int t1), .val (.int f1), .val (.int (i1 - t1)), .val (.int (((((XT.ushrL j1 ((7 : Int32) * (i1 - t1))) &&& (127 : Int64)) ||| (128 : Int64)).toInt32).toInt8.toInt32)), .val (.long ((XT.ushrL j1 ((7 : Int32) * (i1 - t1))) &&& (127 : Int64))), .second] [])) _
          refine XT.iconstV X0.here hx rfl (1 : Int32) (hb hby own_d3_70) rfl ?_
          show Steps p.tables e below (s₁.setTop (mkF m 71 #[.val (.ref a1), .val (.int i1), .val (.long j1), .second, .val (.int s1), .val (.int t1), .val (.int f1), .val (.int (i1 - t1)), .val (.int (((((XT.ushrL j1 ((7 : Int32) * (i1 - t1))) &&& (127 : Int64)) ||| (128 : Int64)).toInt32).toInt8.toInt32)), .val (.long ((XT.ushrL j1 ((7 : Int32) * (i1 - t1))) &&& (127 : Int64))), .second] [(.int (1 : Int32))])) _
          refine XS.goto X0.here hx rfl (pc0 := 71) (pc' := 75) rfl (hb hby own_d3_71) (by decide) (by decide) ?_
          show Steps p.tables e below (s₁.setTop (mkF m 75 #[.val (.ref a1), .val (.int i1), .val (.long j1), .second, .val (.int s1), .val (.int t1), .val (.int f1), .val (.int (i1 - t1)), .val (.int (((((XT.ushrL j1 ((7 : Int32) * (i1 - t1))) &&& (127 : Int64)) ||| (128 : Int64)).toInt32).toInt8.toInt32)), .val (.long ((XT.ushrL j1 ((7 : Int32) * (i1 - t1))) &&& (127 : Int64))), .second] [(.int (1 : Int32))])) _
          exact retN X0 hx (t := .boolean) Bd.returns (by simp) (hb hby own_d3_75) hr
        · show own_Q3 Z a1 i1 j1 s1 t1 f1 kc vs wv h0 n0 _ s₁.heap _
          exact ⟨rfl, N0, e0⟩
      · obtain ⟨cl6, Ar6, Q6, Sz6, Nn6, Ha6, Gf6⟩ := id P_V_a1
        have ghin6 : ¬ (i1 < 0 ∨ cl6.slots.size ≤ (i1).toNatClampNeg) := inb_of Sz6 hin0
        have ghat6 : cl6.slots[(i1).toNatClampNeg]? = some (.int wv) := Ha6.at ghin6 hat0
        obtain ⟨fs, hr, hrun, hended, hW, hsame⟩ := X0.leave (v := some (.int (1 : Int32))) (fun h => by rw [Bd.returns] at h; cases h)
        refine ⟨_, _, pre4 _ ?_, hrun, hended, _, _, rfl, ?_, ⟨_, rfl⟩, hW, hsame.mono (by decide) (by decide)⟩
        · show Steps p.tables e below (s₁.setTop (mkF m 44 #[.val (.ref a1), .val (.int i1), .val (.long j1), .second, .val (.int s1), .val (.int t1), .val (.int f1), .val (.int (i1 - t1)), .unset, .val (.long ((XT.ushrL j1 ((7 : Int32) * (i1 - t1))) &&& (127 : Int64))), .second] [(.int (s1 - (1 : Int32))), (.int (i1 - t1))])) _
          refine XS.icmpYes X0.here hx rfl (pc0 := 44) (pc' := 56) rfl (hb hby own_d3_44) rfl (XT.ii_ge_t h44) (by decide) (by decide) ?_
          show Steps p.tables e below (s₁.setTop (mkF m 56 #[.val (.ref a1), .val (.int i1), .val (.long j1), .second, .val (.int s1), .val (.int t1), .val (.int f1), .val (.int (i1 - t1)), .unset, .val (.long ((XT.ushrL j1 ((7 : Int32) * (i1 - t1))) &&& (127 : Int64))), .second] [])) _
          refine XT.lload X0.here hx rfl (hb hby own_d3_56) rfl ?_
          show Steps p.tables e below (s₁.setTop (mkF m 58 #[.val (.ref a1), .val (.int i1), .val (.long j1), .second, .val (.int s1), .val (.int t1), .val (.int f1), .val (.int (i1 - t1)), .unset, .val (.long ((XT.ushrL j1 ((7 : Int32) * (i1 - t1))) &&& (127 : Int64))), .second] [(.long ((XT.ushrL j1 ((7 : Int32) * (i1 - t1))) &&& (127 : Int64)))])) _
          refine XT.l2i X0.here hx rfl (hb hby own_d3_58) rfl ?_
          show Steps p.tables e below (s₁.setTop (mkF m 59 #[.val (.ref a1), .val (.int i1), .val (.long j1), .second, .val (.int s1), .val (.int t1), .val (.int f1), .val (.int (i1 - t1)), .unset, .val (.long ((XT.ushrL j1 ((7 : Int32) * (i1 - t1))) &&& (127 : Int64))), .second] [(.int (((XT.ushrL j1 ((7 : Int32) * (i1 - t1))) &&& (127 : Int64)).toInt32))])) _
          refine XT.i2b X0.here hx rfl (hb hby own_d3_59) rfl ?_
          show Steps p.tables e below (s₁.setTop (mkF m 60 #[.val (.ref a1), .val (.int i1), .val (.long j1), .second, .val (.int s1), .val (.int t1), .val (.int f1), .val (.int (i1 - t1)), .unset, .val (.long ((XT.ushrL j1 ((7 : Int32) * (i1 - t1))) &&& (127 : Int64))), .second] [(.int ((((XT.ushrL j1 ((7 : Int32) * (i1 - t1))) &&& (127 : Int64)).toInt32).toInt8.toInt32))])) _
          refine XS.istore X0.here hx rfl (hb hby own_d3_60) rfl (l' := #[.val (.ref a1), .val (.int i1), .val (.long j1), .second, .val (.int s1), .val (.int t1), .val (.int f1), .val (.int (i1 - t1)), .val (.int ((((XT.ushrL j1 ((7 : Int32) * (i1 - t1))) &&& (127 : Int64)).toInt32).toInt8.toInt32)), .val (.long ((XT.ushrL j1 ((7 : Int32) * (i1 - t1))) &&& (127 : Int64))), .second]) rfl ?_
          show Steps p.tables e below (s₁.setTop (mkF m 62 #[.val (.ref a1), .val (.int i1), .val (.long j1), .second, .val (.int s1), .val (.int t1), .val (.int f1), .val (.int (i1 - t1)), .val (.int ((((XT.ushrL j1 ((7 : Int32) * (i1 - t1))) &&& (127 : Int64)).toInt32).toInt8.toInt32)), .val (.long ((XT.ushrL j1 ((7 : Int32) * (i1 - t1))) &&& (127 : Int64))), .second] [])) _
          refine XS.aloadN X0.here hx rfl (hb hby own_d3_62) rfl rfl ?_
          show Steps p.tables e below (s₁.setTop (mkF m 63 #[.val (.ref a1), .val (.int i1), .val (.long j1), .second, .val (.int s1), .val (.int t1), .val (.int f1), .val (.int (i1 - t1)), .val (.int ((((XT.ushrL j1 ((7 : Int32) * (i1 - t1))) &&& (127 : Int64)).toInt32).toInt8.toInt32)), .val (.long ((XT.ushrL j1 ((7 : Int32) * (i1 - t1))) &&& (127 : Int64))), .second] [(.ref a1)])) _
          refine XS.iloadN X0.here hx rfl (hb hby own_d3_63) rfl ?_
          show Steps p.tables e below (s₁.setTop (mkF m 64 #[.val (.ref a1), .val (.int i1), .val (.long j1), .second, .val (.int s1), .val (.int t1), .val (.int f1), .val (.int (i1 - t1)), .val (.int ((((XT.ushrL j1 ((7 : Int32) * (i1 - t1))) &&& (127 : Int64)).toInt32).toInt8.toInt32)), .val (.long ((XT.ushrL j1 ((7 : Int32) * (i1 - t1))) &&& (127 : Int64))), .second] [(.int i1), (.ref a1)])) _
          refine X0.baloadBytes hx (j := i1) (v := (.int wv)) (by rw [e0]; exact Ar6.1) (State.isArrayOf_alike hZ.alike Ar6.2.1) Ar6.2.2 ghin6 ghat6 (g := (mkF m 64 #[.val (.ref a1), .val (.int i1), .val (.long j1), .second, .val (.int s1), .val (.int t1), .val (.int f1), .val (.int (i1 - t1)), .val (.int ((((XT.ushrL j1 ((7 : Int32) * (i1 - t1))) &&& (127 : Int64)).toInt32).toInt8.toInt32)), .val (.long ((XT.ushrL j1 ((7 : Int32) * (i1 - t1))) &&& (127 : Int64))), .second] [(.int i1), (.ref a1)])) rfl rfl (hb hby own_d3_64) _ ?_
          show Steps p.tables e below (s₁.setTop (mkF m 65 #[.val (.ref a1), .val (.int i1), .val (.long j1), .second, .val (.int s1), .val (.int t1), .val (.int f1), .val (.int (i1 - t1)), .val (.int ((((XT.ushrL j1 ((7 : Int32) * (i1 - t1))) &&& (127 : Int64)).toInt32).toInt8.toInt32)), .val (.long ((XT.ushrL j1 ((7 : Int32) * (i1 - t1))) &&& (127 : Int64))), .second] [(.int wv)])) _
          refine XS.iload X0.here hx rfl (hb hby own_d3_65) rfl ?_
          show Steps p.tables e below (s₁.setTop (mkF m 67 #[.val (.ref a1), .val (.int i1), .val (.long j1), .second, .val (.int s1), .val (.int t1), .val (.int f1), .val (.int (i1 - t1)), .val (.int ((((XT.ushrL j1 ((7 : Int32) * (i1 - t1))) &&& (127 : Int64)).toInt32).toInt8.toInt32)), .val (.long ((XT.ushrL j1 ((7 : Int32) * (i1 - t1))) &&& (127 : Int64))), .second] [(.int ((((XT.ushrL j1 ((7 : Int32) * (i1 - t1))) &&& (127 : Int64)).toInt32).toInt8.toInt32)), (.int wv)])) _
          refine XS.icmpNo X0.here hx rfl (hb hby own_d3_67) rfl (XT.ii_ne_f (by rw [heq]; unfold own_want; rw [if_neg h8, if_pos h15, if_neg h44])) ?_
          show Steps p.tables e below (s₁.setTop (mkF m 70 #[.val (.ref a1), .val (.int i1), .val (.long j1), .second, .val (.int s1), .val (.int t1), .val (.int f1), .val (.int (i1 - t1)), .val (.int ((((XT.ushrL j1 ((7 : Int32) * (i1 - t1))) &&& (127 : Int64)).toInt32).toInt8.toInt32)), .val (.long ((XT.ushrL j1 ((7 : Int32) * (i1 - t1))) &&& (127 : Int64))), .second] [])) _
          refine XT.iconstV X0.here hx rfl (1 : Int32) (hb hby own_d3_70) rfl ?_
          show Steps p.tables e below (s₁.setTop (mkF m 71 #[.val (.ref a1), .val (.int i1), .val (.long j1), .second, .val (.int s1), .val (.int t1), .val (.int f1), .val (.int (i1 - t1)), .val (.int ((((XT.ushrL j1 ((7 : Int32) * (i1 - t1))) &&& (127 : Int64)).toInt32).toInt8.toInt32)), .val (.long ((XT.ushrL j1 ((7 : Int32) * (i1 - t1))) &&& (127 : Int64))), .second] [(.int (1 : Int32))])) _
          refine XS.goto X0.here hx rfl (pc0 := 71) (pc' := 75) rfl (hb hby own_d3_71) (by decide) (by decide) ?_
          show Steps p.tables e below (s₁.setTop (mkF m 75 #[.val (.ref a1), .val (.int i1), .val (.long j1), .second, .val (.int s1), .val (.int t1), .val (.int f1), .val (.int (i1 - t1)), .val (.int ((((XT.ushrL j1 ((7 : Int32) * (i1 - t1))) &&& (127 : Int64)).toInt32).toInt8.toInt32)), .val (.long ((XT.ushrL j1 ((7 : Int32) * (i1 - t1))) &&& (127 : Int64))), .second] [(.int (1 : Int32))])) _
          exact retN X0 hx (t := .boolean) Bd.returns (by simp) (hb hby own_d3_75) hr
        · show own_Q3 Z a1 i1 j1 s1 t1 f1 kc vs wv h0 n0 _ s₁.heap _
          exact ⟨rfl, N0, e0⟩
    · obtain ⟨cl7, Ar7, Q7, Sz7, Nn7, Ha7, Gf7⟩ := id P_V_a1
      have ghin7 : ¬ (i1 < 0 ∨ cl7.slots.size ≤ (i1).toNatClampNeg) := inb_of Sz7 hin0
      have ghat7 : cl7.slots[(i1).toNatClampNeg]? = some (.int wv) := Ha7.at ghin7 hat0
      obtain ⟨fs, hr, hrun, hended, hW, hsame⟩ := X0.leave (v := some (.int (1 : Int32))) (fun h => by rw [Bd.returns] at h; cases h)
      refine ⟨_, _, pre3 _ ?_, hrun, hended, _, _, rfl, ?_, ⟨_, rfl⟩, hW, hsame.mono (by decide) (by decide)⟩
      · show Steps p.tables e below (s₁.setTop (mkF m 15 #[.val (.ref a1), .val (.int i1), .val (.long j1), .second, .val (.int s1), .val (.int t1), .val (.int f1), .val (.int (i1 - t1)), .unset, .unset, .unset] [(.int s1), (.int (i1 - t1))])) _
        refine XS.icmpNo X0.here hx rfl (hb hby own_d3_15) rfl (XT.ii_lt_f h15) ?_
        show Steps p.tables e below (s₁.setTop (mkF m 18 #[.val (.ref a1), .val (.int i1), .val (.long j1), .second, .val (.int s1), .val (.int t1), .val (.int f1), .val (.int (i1 - t1)), .unset, .unset, .unset] [])) _
        refine XS.iload X0.here hx rfl (hb hby own_d3_18) rfl ?_
        show Steps p.tables e below (s₁.setTop (mkF m 20 #[.val (.ref a1), .val (.int i1), .val (.long j1), .second, .val (.int s1), .val (.int t1), .val (.int f1), .val (.int (i1 - t1)), .unset, .unset, .unset] [(.int f1)])) _
        refine XS.istore X0.here hx rfl (hb hby own_d3_20) rfl (l' := #[.val (.ref a1), .val (.int i1), .val (.long j1), .second, .val (.int s1), .val (.int t1), .val (.int f1), .val (.int (i1 - t1)), .val (.int f1), .unset, .unset]) rfl ?_
        show Steps p.tables e below (s₁.setTop (mkF m 22 #[.val (.ref a1), .val (.int i1), .val (.long j1), .second, .val (.int s1), .val (.int t1), .val (.int f1), .val (.int (i1 - t1)), .val (.int f1), .unset, .unset] [])) _
        refine XS.goto X0.here hx rfl (pc0 := 22) (pc' := 62) rfl (hb hby own_d3_22) (by decide) (by decide) ?_
        show Steps p.tables e below (s₁.setTop (mkF m 62 #[.val (.ref a1), .val (.int i1), .val (.long j1), .second, .val (.int s1), .val (.int t1), .val (.int f1), .val (.int (i1 - t1)), .val (.int f1), .unset, .unset] [])) _
        refine XS.aloadN X0.here hx rfl (hb hby own_d3_62) rfl rfl ?_
        show Steps p.tables e below (s₁.setTop (mkF m 63 #[.val (.ref a1), .val (.int i1), .val (.long j1), .second, .val (.int s1), .val (.int t1), .val (.int f1), .val (.int (i1 - t1)), .val (.int f1), .unset, .unset] [(.ref a1)])) _
        refine XS.iloadN X0.here hx rfl (hb hby own_d3_63) rfl ?_
        show Steps p.tables e below (s₁.setTop (mkF m 64 #[.val (.ref a1), .val (.int i1), .val (.long j1), .second, .val (.int s1), .val (.int t1), .val (.int f1), .val (.int (i1 - t1)), .val (.int f1), .unset, .unset] [(.int i1), (.ref a1)])) _
        refine X0.baloadBytes hx (j := i1) (v := (.int wv)) (by rw [e0]; exact Ar7.1) (State.isArrayOf_alike hZ.alike Ar7.2.1) Ar7.2.2 ghin7 ghat7 (g := (mkF m 64 #[.val (.ref a1), .val (.int i1), .val (.long j1), .second, .val (.int s1), .val (.int t1), .val (.int f1), .val (.int (i1 - t1)), .val (.int f1), .unset, .unset] [(.int i1), (.ref a1)])) rfl rfl (hb hby own_d3_64) _ ?_
        show Steps p.tables e below (s₁.setTop (mkF m 65 #[.val (.ref a1), .val (.int i1), .val (.long j1), .second, .val (.int s1), .val (.int t1), .val (.int f1), .val (.int (i1 - t1)), .val (.int f1), .unset, .unset] [(.int wv)])) _
        refine XS.iload X0.here hx rfl (hb hby own_d3_65) rfl ?_
        show Steps p.tables e below (s₁.setTop (mkF m 67 #[.val (.ref a1), .val (.int i1), .val (.long j1), .second, .val (.int s1), .val (.int t1), .val (.int f1), .val (.int (i1 - t1)), .val (.int f1), .unset, .unset] [(.int f1), (.int wv)])) _
        refine XS.icmpNo X0.here hx rfl (hb hby own_d3_67) rfl (XT.ii_ne_f (by rw [heq]; unfold own_want; rw [if_neg h8, if_neg h15])) ?_
        show Steps p.tables e below (s₁.setTop (mkF m 70 #[.val (.ref a1), .val (.int i1), .val (.long j1), .second, .val (.int s1), .val (.int t1), .val (.int f1), .val (.int (i1 - t1)), .val (.int f1), .unset, .unset] [])) _
        refine XT.iconstV X0.here hx rfl (1 : Int32) (hb hby own_d3_70) rfl ?_
        show Steps p.tables e below (s₁.setTop (mkF m 71 #[.val (.ref a1), .val (.int i1), .val (.long j1), .second, .val (.int s1), .val (.int t1), .val (.int f1), .val (.int (i1 - t1)), .val (.int f1), .unset, .unset] [(.int (1 : Int32))])) _
        refine XS.goto X0.here hx rfl (pc0 := 71) (pc' := 75) rfl (hb hby own_d3_71) (by decide) (by decide) ?_
        show Steps p.tables e below (s₁.setTop (mkF m 75 #[.val (.ref a1), .val (.int i1), .val (.long j1), .second, .val (.int s1), .val (.int t1), .val (.int f1), .val (.int (i1 - t1)), .val (.int f1), .unset, .unset] [(.int (1 : Int32))])) _
        exact retN X0 hx (t := .boolean) Bd.returns (by simp) (hb hby own_d3_75) hr
      · show own_Q3 Z a1 i1 j1 s1 t1 f1 kc vs wv h0 n0 _ s₁.heap _
        exact ⟨rfl, N0, e0⟩
theorem own_pn0 : plainName "com/example/plainsong/plainsong/PackedTextsWriteNumberPinLaw" = true := by first | (simp [plainName, overriddenIn]; done) | decide +kernel
theorem own_ef0 (m : MethodId) (jn : Int64) (is : Int32) (ia : Int32) (if_ : Int32) : entryFrame m #[(.long jn), (.int is), (.int ia), (.int if_)] maxLocals = mkF m 0 #[.val (.long jn), .second, .val (.int is), .val (.int ia), .val (.int if_), .unset, .unset, .unset, .unset, .unset, .unset, .unset, .unset, .unset] [] := by first | (simp [entryFrame, mkF, argsToLocals, Value.category, maxLocals]; done) | rfl
def own_Q0 (Z : State) (jn : Int64) (is : Int32) (ia : Int32) (if_ : Int32) (h0 : Heap) (n0 : Nat) (v : Option Value) (h : Heap) (L : List Loc) : Prop := (v = some (.int (1 : Int32))) ∧ (Fr n0 L)
set_option maxRecDepth 65536 in
set_option maxHeartbeats 40000000 in
theorem own_rm0 (l : Launch) (Z : State) (a0 : Array Value) (hw : ∀ d ∈ tables_1, d.before a0 Z = true) (ws : List Jvm.Cond) (jn : Int64) (is : Int32) (ia : Int32) (if_ : Int32) (h0 : Heap) (n0 : Nat) (Z0 : n0 ≤ h0.size)  :
    MetFree l x (head1 (Jvm.Cond.code x code maxLocals ret :: ws) room_1) (fun ar_ U_ => ar_ = #[(.long jn), (.int is), (.int ia), (.int if_)] ∧ Z.Warmed39 U_.vm ∧ U_.heap = h0) (fun _ _ _ _ _ => True) (fun _ U_ o_ U_' => ∃ v_ L_, o_ = .returned v_ ∧ own_Q0 Z jn is ia if_ h0 n0 v_ U_'.heap L_ ∧ FrameEnd U_ o_ U_' L_ room_1.cells room_1.slots) := by
  refine MetFree.of_bodySF (plainFor_of_name own_pn0) hisR ?_
  intro p e s m args below meth c s₁ Bd hml0 hP hK
  obtain ⟨rfl, hZ, hh⟩ := hP
  have hx := Bd.exec
  have hby := Bd.bytes
  have hml : c.maxLocals = 14 := hml0
  have hown : s.vm.findClass "com/example/plainsong/plainsong/PackedTextsWriteNumberPinLaw" = some m.cls := findClass_of_methodNamed Bd.named
  have hnm := (name_of_methodNamed Bd.named Bd.method).1
  have X0 : Stand p l e room_1 s m #[(.long jn), (.int is), (.int ia), (.int if_)] below meth c s₁ [] 0 0 := Stand.of_body Bd
  have e0 : s₁.heap = h0 := by rw [← hh, Bd.state]; rfl
  have N0 := Fr.nil n0
  have pre0 : ∀ t, Steps p.tables e below (s₁.setTop (mkF m 0 #[.val (.long jn), .second, .val (.int is), .val (.int ia), .val (.int if_), .unset, .unset, .unset, .unset, .unset, .unset, .unset, .unset, .unset] [])) t → Steps p.tables e below (s₁.setTop (entryFrame m #[(.long jn), (.int is), (.int ia), (.int if_)] maxLocals)) t := fun t k => castTop (own_ef0 m jn is ia if_) k
  have pre1 : ∀ t, Steps p.tables e below (s₁.setTop (mkF m 9 #[.val (.long jn), .second, .val (.int is), .val (.int ia), .val (.int if_), .val (.int ((is &&& (2147483647 : Int32)) % (64 : Int32))), .unset, .unset, .unset, .unset, .unset, .unset, .unset, .unset] [])) t → Steps p.tables e below (s₁.setTop (entryFrame m #[(.long jn), (.int is), (.int ia), (.int if_)] maxLocals)) t := fun t k => pre0 t (by
    show Steps p.tables e below (s₁.setTop (mkF m 0 #[.val (.long jn), .second, .val (.int is), .val (.int ia), .val (.int if_), .unset, .unset, .unset, .unset, .unset, .unset, .unset, .unset, .unset] [])) _
    refine XS.iloadN X0.here hx rfl (hb hby at_0) rfl ?_
    show Steps p.tables e below (s₁.setTop (mkF m 1 #[.val (.long jn), .second, .val (.int is), .val (.int ia), .val (.int if_), .unset, .unset, .unset, .unset, .unset, .unset, .unset, .unset, .unset] [(.int is)])) _
    refine X0.ldcI hx hown (mvT hZ (hw _ (List.mem_of_getElem? (i := 0) rfl))) (g := (mkF m 1 #[.val (.long jn), .second, .val (.int is), .val (.int ia), .val (.int if_), .unset, .unset, .unset, .unset, .unset, .unset, .unset, .unset, .unset] [(.int is)])) rfl (hb hby at_1) ?_
    show Steps p.tables e below (s₁.setTop (mkF m 3 #[.val (.long jn), .second, .val (.int is), .val (.int ia), .val (.int if_), .unset, .unset, .unset, .unset, .unset, .unset, .unset, .unset, .unset] [(.int (2147483647 : Int32)), (.int is)])) _
    refine XS.iand X0.here hx rfl (hb hby at_3) rfl ?_
    show Steps p.tables e below (s₁.setTop (mkF m 4 #[.val (.long jn), .second, .val (.int is), .val (.int ia), .val (.int if_), .unset, .unset, .unset, .unset, .unset, .unset, .unset, .unset, .unset] [(.int (is &&& (2147483647 : Int32)))])) _
    refine XT.bipushV X0.here hx rfl (64 : Int32) (hb hby at_4) rfl ?_
    show Steps p.tables e below (s₁.setTop (mkF m 6 #[.val (.long jn), .second, .val (.int is), .val (.int ia), .val (.int if_), .unset, .unset, .unset, .unset, .unset, .unset, .unset, .unset, .unset] [(.int (64 : Int32)), (.int (is &&& (2147483647 : Int32)))])) _
    refine iremM X0 hx rfl (hb hby at_6) rfl (by decide) ?_
    show Steps p.tables e below (s₁.setTop (mkF m 7 #[.val (.long jn), .second, .val (.int is), .val (.int ia), .val (.int if_), .unset, .unset, .unset, .unset, .unset, .unset, .unset, .unset, .unset] [(.int ((is &&& (2147483647 : Int32)) % (64 : Int32)))])) _
    refine XS.istore X0.here hx rfl (hb hby at_7) rfl (l' := #[.val (.long jn), .second, .val (.int is), .val (.int ia), .val (.int if_), .val (.int ((is &&& (2147483647 : Int32)) % (64 : Int32))), .unset, .unset, .unset, .unset, .unset, .unset, .unset, .unset]) rfl ?_
    exact k)
  obtain ⟨sh, q_sh⟩ : ∃ z : Int32, z = ((is &&& (2147483647 : Int32)) % (64 : Int32)) := ⟨_, rfl⟩
  rw [← q_sh] at pre1
  have pre2 : ∀ t, Steps p.tables e below (s₁.setTop (mkF m 19 #[.val (.long jn), .second, .val (.int is), .val (.int ia), .val (.int if_), .val (.int sh), .val (.long (XT.ushrL (jn &&& (9223372036854775807 : Int64)) sh)), .second, .unset, .unset, .unset, .unset, .unset, .unset] [])) t → Steps p.tables e below (s₁.setTop (entryFrame m #[(.long jn), (.int is), (.int ia), (.int if_)] maxLocals)) t := fun t k => pre1 t (by
    show Steps p.tables e below (s₁.setTop (mkF m 9 #[.val (.long jn), .second, .val (.int is), .val (.int ia), .val (.int if_), .val (.int sh), .unset, .unset, .unset, .unset, .unset, .unset, .unset, .unset] [])) _
    refine XT.lloadN X0.here hx rfl (hb hby at_9) rfl ?_
    show Steps p.tables e below (s₁.setTop (mkF m 10 #[.val (.long jn), .second, .val (.int is), .val (.int ia), .val (.int if_), .val (.int sh), .unset, .unset, .unset, .unset, .unset, .unset, .unset, .unset] [(.long jn)])) _
    refine X0.ldc2J hx hown (mvT hZ (hw _ (List.mem_of_getElem? (i := 1) rfl))) (g := (mkF m 10 #[.val (.long jn), .second, .val (.int is), .val (.int ia), .val (.int if_), .val (.int sh), .unset, .unset, .unset, .unset, .unset, .unset, .unset, .unset] [(.long jn)])) rfl (hb hby at_10) ?_
    show Steps p.tables e below (s₁.setTop (mkF m 13 #[.val (.long jn), .second, .val (.int is), .val (.int ia), .val (.int if_), .val (.int sh), .unset, .unset, .unset, .unset, .unset, .unset, .unset, .unset] [(.long (9223372036854775807 : Int64)), (.long jn)])) _
    refine XT.land X0.here hx rfl (hb hby at_13) rfl ?_
    show Steps p.tables e below (s₁.setTop (mkF m 14 #[.val (.long jn), .second, .val (.int is), .val (.int ia), .val (.int if_), .val (.int sh), .unset, .unset, .unset, .unset, .unset, .unset, .unset, .unset] [(.long (jn &&& (9223372036854775807 : Int64)))])) _
    refine XS.iload X0.here hx rfl (hb hby at_14) rfl ?_
    show Steps p.tables e below (s₁.setTop (mkF m 16 #[.val (.long jn), .second, .val (.int is), .val (.int ia), .val (.int if_), .val (.int sh), .unset, .unset, .unset, .unset, .unset, .unset, .unset, .unset] [(.int sh), (.long (jn &&& (9223372036854775807 : Int64)))])) _
    refine XT.lushr X0.here hx rfl (hb hby at_16) rfl ?_
    show Steps p.tables e below (s₁.setTop (mkF m 17 #[.val (.long jn), .second, .val (.int is), .val (.int ia), .val (.int if_), .val (.int sh), .unset, .unset, .unset, .unset, .unset, .unset, .unset, .unset] [(.long (XT.ushrL (jn &&& (9223372036854775807 : Int64)) sh))])) _
    refine XT.lstore X0.here hx rfl (hb hby at_17) rfl (l' := #[.val (.long jn), .second, .val (.int is), .val (.int ia), .val (.int if_), .val (.int sh), .val (.long (XT.ushrL (jn &&& (9223372036854775807 : Int64)) sh)), .second, .unset, .unset, .unset, .unset, .unset, .unset]) rfl ?_
    exact k)
  obtain ⟨nn, q_nn⟩ : ∃ z : Int64, z = (XT.ushrL (jn &&& (9223372036854775807 : Int64)) sh) := ⟨_, rfl⟩
  rw [← q_nn] at pre2
  have hnn : 0 ≤ nn.toInt := by rw [q_nn]; exact own_num jn is sh q_sh
  have pre3 : ∀ t, Steps p.tables e below (s₁.setTop (mkF m 24 #[.val (.long jn), .second, .val (.int is), .val (.int ia), .val (.int if_), .val (.int sh), .val (.long nn), .second, .val (.int (ia &&& (3 : Int32))), .unset, .unset, .unset, .unset, .unset] [])) t → Steps p.tables e below (s₁.setTop (entryFrame m #[(.long jn), (.int is), (.int ia), (.int if_)] maxLocals)) t := fun t k => pre2 t (by
    show Steps p.tables e below (s₁.setTop (mkF m 19 #[.val (.long jn), .second, .val (.int is), .val (.int ia), .val (.int if_), .val (.int sh), .val (.long nn), .second, .unset, .unset, .unset, .unset, .unset, .unset] [])) _
    refine XS.iloadN X0.here hx rfl (hb hby at_19) rfl ?_
    show Steps p.tables e below (s₁.setTop (mkF m 20 #[.val (.long jn), .second, .val (.int is), .val (.int ia), .val (.int if_), .val (.int sh), .val (.long nn), .second, .unset, .unset, .unset, .unset, .unset, .unset] [(.int ia)])) _
    refine XT.iconstV X0.here hx rfl (3 : Int32) (hb hby at_20) rfl ?_
    show Steps p.tables e below (s₁.setTop (mkF m 21 #[.val (.long jn), .second, .val (.int is), .val (.int ia), .val (.int if_), .val (.int sh), .val (.long nn), .second, .unset, .unset, .unset, .unset, .unset, .unset] [(.int (3 : Int32)), (.int ia)])) _
    refine XS.iand X0.here hx rfl (hb hby at_21) rfl ?_
    show Steps p.tables e below (s₁.setTop (mkF m 22 #[.val (.long jn), .second, .val (.int is), .val (.int ia), .val (.int if_), .val (.int sh), .val (.long nn), .second, .unset, .unset, .unset, .unset, .unset, .unset] [(.int (ia &&& (3 : Int32)))])) _
    refine XS.istore X0.here hx rfl (hb hby at_22) rfl (l' := #[.val (.long jn), .second, .val (.int is), .val (.int ia), .val (.int if_), .val (.int sh), .val (.long nn), .second, .val (.int (ia &&& (3 : Int32))), .unset, .unset, .unset, .unset, .unset]) rfl ?_
    exact k)
  obtain ⟨i1, q_i1⟩ : ∃ z : Int32, z = (ia &&& (3 : Int32)) := ⟨_, rfl⟩
  rw [← q_i1] at pre3
  have hk4 : i1 = 0 ∨ i1 = 1 ∨ i1 = 2 ∨ i1 = 3 := by rw [q_i1]; exact own_fld ia
  have pre4 : ∀ t, Steps p.tables e below (s₁.setTop (mkF m 29 #[.val (.long jn), .second, .val (.int is), .val (.int ia), .val (.int if_), .val (.int sh), .val (.long nn), .second, .val (.int i1), .val (.int (if_.toInt8.toInt32)), .unset, .unset, .unset, .unset] [])) t → Steps p.tables e below (s₁.setTop (entryFrame m #[(.long jn), (.int is), (.int ia), (.int if_)] maxLocals)) t := fun t k => pre3 t (by
    show Steps p.tables e below (s₁.setTop (mkF m 24 #[.val (.long jn), .second, .val (.int is), .val (.int ia), .val (.int if_), .val (.int sh), .val (.long nn), .second, .val (.int i1), .unset, .unset, .unset, .unset, .unset] [])) _
    refine XS.iload X0.here hx rfl (hb hby at_24) rfl ?_
    show Steps p.tables e below (s₁.setTop (mkF m 26 #[.val (.long jn), .second, .val (.int is), .val (.int ia), .val (.int if_), .val (.int sh), .val (.long nn), .second, .val (.int i1), .unset, .unset, .unset, .unset, .unset] [(.int if_)])) _
    refine XT.i2b X0.here hx rfl (hb hby at_26) rfl ?_
    show Steps p.tables e below (s₁.setTop (mkF m 27 #[.val (.long jn), .second, .val (.int is), .val (.int ia), .val (.int if_), .val (.int sh), .val (.long nn), .second, .val (.int i1), .unset, .unset, .unset, .unset, .unset] [(.int (if_.toInt8.toInt32))])) _
    refine XS.istore X0.here hx rfl (hb hby at_27) rfl (l' := #[.val (.long jn), .second, .val (.int is), .val (.int ia), .val (.int if_), .val (.int sh), .val (.long nn), .second, .val (.int i1), .val (.int (if_.toInt8.toInt32)), .unset, .unset, .unset, .unset]) rfl ?_
    exact k)
  obtain ⟨fl, q_fl⟩ : ∃ z : Int32, z = (if_.toInt8.toInt32) := ⟨_, rfl⟩
  rw [← q_fl] at pre4
  have hfl : fl.toInt8.toInt32 = fl := by rw [q_fl]; exact own_b2 if_
  obtain ⟨T5, h5, kc5, X5, e5, E5, A5, st5⟩ := newP X0 hx hZ (hw _ (List.mem_of_getElem? (i := 2) rfl)) e0 (g := (mkF m 31 #[.val (.long jn), .second, .val (.int is), .val (.int ia), .val (.int if_), .val (.int sh), .val (.long nn), .second, .val (.int i1), .val (.int fl), .unset, .unset, .unset, .unset] [(.int (16 : Int32))])) rfl (hb hby at_31) rfl (by decide) (cap := 16) (by decide) (by decide) (by decide) (by decide)
  obtain ⟨ob5, g5⟩ : ∃ z, z = h0.size := ⟨_, rfl⟩
  rw [← g5] at A5 st5
  have sz5 : n0 ≤ h5.size := Nat.le_trans Z0 E5.1
  have gn_ob5 : n0 ≤ ob5 := Nat.le_trans Z0 (Nat.le_of_eq g5.symm)
  have bo_ob5 : h0.size ≤ ob5 := Nat.le_trans (Keep.refl h0 []).1 (Nat.le_of_eq g5.symm)
  have K5 : Keep h0 h5 [] := (Keep.refl h0 []).ext E5
  have V_ob5 : Arv Z h5 ob5 kc5 .byte (16 : Int32) [(.int (0 : Int32)), (.int (0 : Int32)), (.int (0 : Int32)), (.int (0 : Int32)), (.int (0 : Int32)), (.int (0 : Int32)), (.int (0 : Int32)), (.int (0 : Int32)), (.int (0 : Int32)), (.int (0 : Int32)), (.int (0 : Int32)), (.int (0 : Int32)), (.int (0 : Int32)), (.int (0 : Int32)), (.int (0 : Int32)), (.int (0 : Int32))] (.int (0 : Int32)) := (Arv.new A5 (by decide)).pad (pad_rep [] (.int (0 : Int32)) 16)
  obtain ⟨cl6, Ar6, Q6, Sz6, Nn6, Ha6, Gf6⟩ := id V_ob5
  have ghin6 : ¬ ((0 : Int32) < 0 ∨ cl6.slots.size ≤ ((0 : Int32)).toNatClampNeg) := inb_of Sz6 ⟨by decide, by decide⟩
  obtain ⟨T7, h7, X7, e7, W7, st7⟩ := stB X5 hx hZ e5 Ar6 (j := (0 : Int32)) ghin6 (g := (mkF m 37 #[.val (.long jn), .second, .val (.int is), .val (.int ia), .val (.int if_), .val (.int sh), .val (.long nn), .second, .val (.int i1), .val (.int fl), .unset, .unset, .unset, .unset] [(.int fl), (.int (0 : Int32)), (.ref ob5), (.ref ob5)])) rfl rfl (hb hby at_37)
  have V7 : Arv Z h7 ob5 kc5 .byte (16 : Int32) [(.int (fl.toInt8.toInt32)), (.int (0 : Int32)), (.int (0 : Int32)), (.int (0 : Int32)), (.int (0 : Int32)), (.int (0 : Int32)), (.int (0 : Int32)), (.int (0 : Int32)), (.int (0 : Int32)), (.int (0 : Int32)), (.int (0 : Int32)), (.int (0 : Int32)), (.int (0 : Int32)), (.int (0 : Int32)), (.int (0 : Int32)), (.int (0 : Int32))] (.int (0 : Int32)) := Arv.set Ar6 Q6 Sz6 Nn6 Ha6 Gf6 (fits_nar_byte _) W7 0 rfl (Nat.le_of_ble_eq_true rfl)
  have K7 : Keep h0 h7 [] := K5.wr W7 (Or.inr bo_ob5)
  have N7 := Fr.snoc X7 N0 gn_ob5
  obtain ⟨cl8, Ar8, Q8, Sz8, Nn8, Ha8, Gf8⟩ := id V7
  have ghin8 : ¬ ((1 : Int32) < 0 ∨ cl8.slots.size ≤ ((1 : Int32)).toNatClampNeg) := inb_of Sz8 ⟨by decide, by decide⟩
  obtain ⟨T9, h9, X9, e9, W9, st9⟩ := stB X7 hx hZ e7 Ar8 (j := (1 : Int32)) ghin8 (g := (mkF m 42 #[.val (.long jn), .second, .val (.int is), .val (.int ia), .val (.int if_), .val (.int sh), .val (.long nn), .second, .val (.int i1), .val (.int fl), .unset, .unset, .unset, .unset] [(.int fl), (.int (1 : Int32)), (.ref ob5), (.ref ob5)])) rfl rfl (hb hby at_42)
  have V9 : Arv Z h9 ob5 kc5 .byte (16 : Int32) [(.int (fl.toInt8.toInt32)), (.int (fl.toInt8.toInt32)), (.int (0 : Int32)), (.int (0 : Int32)), (.int (0 : Int32)), (.int (0 : Int32)), (.int (0 : Int32)), (.int (0 : Int32)), (.int (0 : Int32)), (.int (0 : Int32)), (.int (0 : Int32)), (.int (0 : Int32)), (.int (0 : Int32)), (.int (0 : Int32)), (.int (0 : Int32)), (.int (0 : Int32))] (.int (0 : Int32)) := Arv.set Ar8 Q8 Sz8 Nn8 Ha8 Gf8 (fits_nar_byte _) W9 1 rfl (Nat.le_of_ble_eq_true rfl)
  have K9 : Keep h0 h9 [] := K7.wr W9 (Or.inr bo_ob5)
  have N9 := Fr.snoc X9 N7 gn_ob5
  obtain ⟨cl10, Ar10, Q10, Sz10, Nn10, Ha10, Gf10⟩ := id V9
  have ghin10 : ¬ ((2 : Int32) < 0 ∨ cl10.slots.size ≤ ((2 : Int32)).toNatClampNeg) := inb_of Sz10 ⟨by decide, by decide⟩
  obtain ⟨T11, h11, X11, e11, W11, st11⟩ := stB X9 hx hZ e9 Ar10 (j := (2 : Int32)) ghin10 (g := (mkF m 47 #[.val (.long jn), .second, .val (.int is), .val (.int ia), .val (.int if_), .val (.int sh), .val (.long nn), .second, .val (.int i1), .val (.int fl), .unset, .unset, .unset, .unset] [(.int fl), (.int (2 : Int32)), (.ref ob5), (.ref ob5)])) rfl rfl (hb hby at_47)
  have V11 : Arv Z h11 ob5 kc5 .byte (16 : Int32) [(.int (fl.toInt8.toInt32)), (.int (fl.toInt8.toInt32)), (.int (fl.toInt8.toInt32)), (.int (0 : Int32)), (.int (0 : Int32)), (.int (0 : Int32)), (.int (0 : Int32)), (.int (0 : Int32)), (.int (0 : Int32)), (.int (0 : Int32)), (.int (0 : Int32)), (.int (0 : Int32)), (.int (0 : Int32)), (.int (0 : Int32)), (.int (0 : Int32)), (.int (0 : Int32))] (.int (0 : Int32)) := Arv.set Ar10 Q10 Sz10 Nn10 Ha10 Gf10 (fits_nar_byte _) W11 2 rfl (Nat.le_of_ble_eq_true rfl)
  have K11 : Keep h0 h11 [] := K9.wr W11 (Or.inr bo_ob5)
  have N11 := Fr.snoc X11 N9 gn_ob5
  obtain ⟨cl12, Ar12, Q12, Sz12, Nn12, Ha12, Gf12⟩ := id V11
  have ghin12 : ¬ ((3 : Int32) < 0 ∨ cl12.slots.size ≤ ((3 : Int32)).toNatClampNeg) := inb_of Sz12 ⟨by decide, by decide⟩
  obtain ⟨T13, h13, X13, e13, W13, st13⟩ := stB X11 hx hZ e11 Ar12 (j := (3 : Int32)) ghin12 (g := (mkF m 52 #[.val (.long jn), .second, .val (.int is), .val (.int ia), .val (.int if_), .val (.int sh), .val (.long nn), .second, .val (.int i1), .val (.int fl), .unset, .unset, .unset, .unset] [(.int fl), (.int (3 : Int32)), (.ref ob5), (.ref ob5)])) rfl rfl (hb hby at_52)
  have V13 : Arv Z h13 ob5 kc5 .byte (16 : Int32) [(.int (fl.toInt8.toInt32)), (.int (fl.toInt8.toInt32)), (.int (fl.toInt8.toInt32)), (.int (fl.toInt8.toInt32)), (.int (0 : Int32)), (.int (0 : Int32)), (.int (0 : Int32)), (.int (0 : Int32)), (.int (0 : Int32)), (.int (0 : Int32)), (.int (0 : Int32)), (.int (0 : Int32)), (.int (0 : Int32)), (.int (0 : Int32)), (.int (0 : Int32)), (.int (0 : Int32))] (.int (0 : Int32)) := Arv.set Ar12 Q12 Sz12 Nn12 Ha12 Gf12 (fits_nar_byte _) W13 3 rfl (Nat.le_of_ble_eq_true rfl)
  have K13 : Keep h0 h13 [] := K11.wr W13 (Or.inr bo_ob5)
  have N13 := Fr.snoc X13 N11 gn_ob5
  obtain ⟨cl14, Ar14, Q14, Sz14, Nn14, Ha14, Gf14⟩ := id V13
  have ghin14 : ¬ ((4 : Int32) < 0 ∨ cl14.slots.size ≤ ((4 : Int32)).toNatClampNeg) := inb_of Sz14 ⟨by decide, by decide⟩
  obtain ⟨T15, h15, X15, e15, W15, st15⟩ := stB X13 hx hZ e13 Ar14 (j := (4 : Int32)) ghin14 (g := (mkF m 57 #[.val (.long jn), .second, .val (.int is), .val (.int ia), .val (.int if_), .val (.int sh), .val (.long nn), .second, .val (.int i1), .val (.int fl), .unset, .unset, .unset, .unset] [(.int fl), (.int (4 : Int32)), (.ref ob5), (.ref ob5)])) rfl rfl (hb hby at_57)
  have V15 : Arv Z h15 ob5 kc5 .byte (16 : Int32) [(.int (fl.toInt8.toInt32)), (.int (fl.toInt8.toInt32)), (.int (fl.toInt8.toInt32)), (.int (fl.toInt8.toInt32)), (.int (fl.toInt8.toInt32)), (.int (0 : Int32)), (.int (0 : Int32)), (.int (0 : Int32)), (.int (0 : Int32)), (.int (0 : Int32)), (.int (0 : Int32)), (.int (0 : Int32)), (.int (0 : Int32)), (.int (0 : Int32)), (.int (0 : Int32)), (.int (0 : Int32))] (.int (0 : Int32)) := Arv.set Ar14 Q14 Sz14 Nn14 Ha14 Gf14 (fits_nar_byte _) W15 4 rfl (Nat.le_of_ble_eq_true rfl)
  have K15 : Keep h0 h15 [] := K13.wr W15 (Or.inr bo_ob5)
  have N15 := Fr.snoc X15 N13 gn_ob5
  obtain ⟨cl16, Ar16, Q16, Sz16, Nn16, Ha16, Gf16⟩ := id V15
  have ghin16 : ¬ ((5 : Int32) < 0 ∨ cl16.slots.size ≤ ((5 : Int32)).toNatClampNeg) := inb_of Sz16 ⟨by decide, by decide⟩
  obtain ⟨T17, h17, X17, e17, W17, st17⟩ := stB X15 hx hZ e15 Ar16 (j := (5 : Int32)) ghin16 (g := (mkF m 62 #[.val (.long jn), .second, .val (.int is), .val (.int ia), .val (.int if_), .val (.int sh), .val (.long nn), .second, .val (.int i1), .val (.int fl), .unset, .unset, .unset, .unset] [(.int fl), (.int (5 : Int32)), (.ref ob5), (.ref ob5)])) rfl rfl (hb hby at_62)
  have V17 : Arv Z h17 ob5 kc5 .byte (16 : Int32) [(.int (fl.toInt8.toInt32)), (.int (fl.toInt8.toInt32)), (.int (fl.toInt8.toInt32)), (.int (fl.toInt8.toInt32)), (.int (fl.toInt8.toInt32)), (.int (fl.toInt8.toInt32)), (.int (0 : Int32)), (.int (0 : Int32)), (.int (0 : Int32)), (.int (0 : Int32)), (.int (0 : Int32)), (.int (0 : Int32)), (.int (0 : Int32)), (.int (0 : Int32)), (.int (0 : Int32)), (.int (0 : Int32))] (.int (0 : Int32)) := Arv.set Ar16 Q16 Sz16 Nn16 Ha16 Gf16 (fits_nar_byte _) W17 5 rfl (Nat.le_of_ble_eq_true rfl)
  have K17 : Keep h0 h17 [] := K15.wr W17 (Or.inr bo_ob5)
  have N17 := Fr.snoc X17 N15 gn_ob5
  obtain ⟨cl18, Ar18, Q18, Sz18, Nn18, Ha18, Gf18⟩ := id V17
  have ghin18 : ¬ ((6 : Int32) < 0 ∨ cl18.slots.size ≤ ((6 : Int32)).toNatClampNeg) := inb_of Sz18 ⟨by decide, by decide⟩
  obtain ⟨T19, h19, X19, e19, W19, st19⟩ := stB X17 hx hZ e17 Ar18 (j := (6 : Int32)) ghin18 (g := (mkF m 68 #[.val (.long jn), .second, .val (.int is), .val (.int ia), .val (.int if_), .val (.int sh), .val (.long nn), .second, .val (.int i1), .val (.int fl), .unset, .unset, .unset, .unset] [(.int fl), (.int (6 : Int32)), (.ref ob5), (.ref ob5)])) rfl rfl (hb hby at_68)
  have V19 : Arv Z h19 ob5 kc5 .byte (16 : Int32) [(.int (fl.toInt8.toInt32)), (.int (fl.toInt8.toInt32)), (.int (fl.toInt8.toInt32)), (.int (fl.toInt8.toInt32)), (.int (fl.toInt8.toInt32)), (.int (fl.toInt8.toInt32)), (.int (fl.toInt8.toInt32)), (.int (0 : Int32)), (.int (0 : Int32)), (.int (0 : Int32)), (.int (0 : Int32)), (.int (0 : Int32)), (.int (0 : Int32)), (.int (0 : Int32)), (.int (0 : Int32)), (.int (0 : Int32))] (.int (0 : Int32)) := Arv.set Ar18 Q18 Sz18 Nn18 Ha18 Gf18 (fits_nar_byte _) W19 6 rfl (Nat.le_of_ble_eq_true rfl)
  have K19 : Keep h0 h19 [] := K17.wr W19 (Or.inr bo_ob5)
  have N19 := Fr.snoc X19 N17 gn_ob5
  obtain ⟨cl20, Ar20, Q20, Sz20, Nn20, Ha20, Gf20⟩ := id V19
  have ghin20 : ¬ ((7 : Int32) < 0 ∨ cl20.slots.size ≤ ((7 : Int32)).toNatClampNeg) := inb_of Sz20 ⟨by decide, by decide⟩
  obtain ⟨T21, h21, X21, e21, W21, st21⟩ := stB X19 hx hZ e19 Ar20 (j := (7 : Int32)) ghin20 (g := (mkF m 74 #[.val (.long jn), .second, .val (.int is), .val (.int ia), .val (.int if_), .val (.int sh), .val (.long nn), .second, .val (.int i1), .val (.int fl), .unset, .unset, .unset, .unset] [(.int fl), (.int (7 : Int32)), (.ref ob5), (.ref ob5)])) rfl rfl (hb hby at_74)
  have V21 : Arv Z h21 ob5 kc5 .byte (16 : Int32) [(.int (fl.toInt8.toInt32)), (.int (fl.toInt8.toInt32)), (.int (fl.toInt8.toInt32)), (.int (fl.toInt8.toInt32)), (.int (fl.toInt8.toInt32)), (.int (fl.toInt8.toInt32)), (.int (fl.toInt8.toInt32)), (.int (fl.toInt8.toInt32)), (.int (0 : Int32)), (.int (0 : Int32)), (.int (0 : Int32)), (.int (0 : Int32)), (.int (0 : Int32)), (.int (0 : Int32)), (.int (0 : Int32)), (.int (0 : Int32))] (.int (0 : Int32)) := Arv.set Ar20 Q20 Sz20 Nn20 Ha20 Gf20 (fits_nar_byte _) W21 7 rfl (Nat.le_of_ble_eq_true rfl)
  have K21 : Keep h0 h21 [] := K19.wr W21 (Or.inr bo_ob5)
  have N21 := Fr.snoc X21 N19 gn_ob5
  obtain ⟨cl22, Ar22, Q22, Sz22, Nn22, Ha22, Gf22⟩ := id V21
  have ghin22 : ¬ ((8 : Int32) < 0 ∨ cl22.slots.size ≤ ((8 : Int32)).toNatClampNeg) := inb_of Sz22 ⟨by decide, by decide⟩
  obtain ⟨T23, h23, X23, e23, W23, st23⟩ := stB X21 hx hZ e21 Ar22 (j := (8 : Int32)) ghin22 (g := (mkF m 80 #[.val (.long jn), .second, .val (.int is), .val (.int ia), .val (.int if_), .val (.int sh), .val (.long nn), .second, .val (.int i1), .val (.int fl), .unset, .unset, .unset, .unset] [(.int fl), (.int (8 : Int32)), (.ref ob5), (.ref ob5)])) rfl rfl (hb hby at_80)
  have V23 : Arv Z h23 ob5 kc5 .byte (16 : Int32) [(.int (fl.toInt8.toInt32)), (.int (fl.toInt8.toInt32)), (.int (fl.toInt8.toInt32)), (.int (fl.toInt8.toInt32)), (.int (fl.toInt8.toInt32)), (.int (fl.toInt8.toInt32)), (.int (fl.toInt8.toInt32)), (.int (fl.toInt8.toInt32)), (.int (fl.toInt8.toInt32)), (.int (0 : Int32)), (.int (0 : Int32)), (.int (0 : Int32)), (.int (0 : Int32)), (.int (0 : Int32)), (.int (0 : Int32)), (.int (0 : Int32))] (.int (0 : Int32)) := Arv.set Ar22 Q22 Sz22 Nn22 Ha22 Gf22 (fits_nar_byte _) W23 8 rfl (Nat.le_of_ble_eq_true rfl)
  have K23 : Keep h0 h23 [] := K21.wr W23 (Or.inr bo_ob5)
  have N23 := Fr.snoc X23 N21 gn_ob5
  obtain ⟨cl24, Ar24, Q24, Sz24, Nn24, Ha24, Gf24⟩ := id V23
  have ghin24 : ¬ ((9 : Int32) < 0 ∨ cl24.slots.size ≤ ((9 : Int32)).toNatClampNeg) := inb_of Sz24 ⟨by decide, by decide⟩
  obtain ⟨T25, h25, X25, e25, W25, st25⟩ := stB X23 hx hZ e23 Ar24 (j := (9 : Int32)) ghin24 (g := (mkF m 86 #[.val (.long jn), .second, .val (.int is), .val (.int ia), .val (.int if_), .val (.int sh), .val (.long nn), .second, .val (.int i1), .val (.int fl), .unset, .unset, .unset, .unset] [(.int fl), (.int (9 : Int32)), (.ref ob5), (.ref ob5)])) rfl rfl (hb hby at_86)
  have V25 : Arv Z h25 ob5 kc5 .byte (16 : Int32) [(.int (fl.toInt8.toInt32)), (.int (fl.toInt8.toInt32)), (.int (fl.toInt8.toInt32)), (.int (fl.toInt8.toInt32)), (.int (fl.toInt8.toInt32)), (.int (fl.toInt8.toInt32)), (.int (fl.toInt8.toInt32)), (.int (fl.toInt8.toInt32)), (.int (fl.toInt8.toInt32)), (.int (fl.toInt8.toInt32)), (.int (0 : Int32)), (.int (0 : Int32)), (.int (0 : Int32)), (.int (0 : Int32)), (.int (0 : Int32)), (.int (0 : Int32))] (.int (0 : Int32)) := Arv.set Ar24 Q24 Sz24 Nn24 Ha24 Gf24 (fits_nar_byte _) W25 9 rfl (Nat.le_of_ble_eq_true rfl)
  have K25 : Keep h0 h25 [] := K23.wr W25 (Or.inr bo_ob5)
  have N25 := Fr.snoc X25 N23 gn_ob5
  obtain ⟨cl26, Ar26, Q26, Sz26, Nn26, Ha26, Gf26⟩ := id V25
  have ghin26 : ¬ ((10 : Int32) < 0 ∨ cl26.slots.size ≤ ((10 : Int32)).toNatClampNeg) := inb_of Sz26 ⟨by decide, by decide⟩
  obtain ⟨T27, h27, X27, e27, W27, st27⟩ := stB X25 hx hZ e25 Ar26 (j := (10 : Int32)) ghin26 (g := (mkF m 92 #[.val (.long jn), .second, .val (.int is), .val (.int ia), .val (.int if_), .val (.int sh), .val (.long nn), .second, .val (.int i1), .val (.int fl), .unset, .unset, .unset, .unset] [(.int fl), (.int (10 : Int32)), (.ref ob5), (.ref ob5)])) rfl rfl (hb hby at_92)
  have V27 : Arv Z h27 ob5 kc5 .byte (16 : Int32) [(.int (fl.toInt8.toInt32)), (.int (fl.toInt8.toInt32)), (.int (fl.toInt8.toInt32)), (.int (fl.toInt8.toInt32)), (.int (fl.toInt8.toInt32)), (.int (fl.toInt8.toInt32)), (.int (fl.toInt8.toInt32)), (.int (fl.toInt8.toInt32)), (.int (fl.toInt8.toInt32)), (.int (fl.toInt8.toInt32)), (.int (fl.toInt8.toInt32)), (.int (0 : Int32)), (.int (0 : Int32)), (.int (0 : Int32)), (.int (0 : Int32)), (.int (0 : Int32))] (.int (0 : Int32)) := Arv.set Ar26 Q26 Sz26 Nn26 Ha26 Gf26 (fits_nar_byte _) W27 10 rfl (Nat.le_of_ble_eq_true rfl)
  have K27 : Keep h0 h27 [] := K25.wr W27 (Or.inr bo_ob5)
  have N27 := Fr.snoc X27 N25 gn_ob5
  obtain ⟨cl28, Ar28, Q28, Sz28, Nn28, Ha28, Gf28⟩ := id V27
  have ghin28 : ¬ ((11 : Int32) < 0 ∨ cl28.slots.size ≤ ((11 : Int32)).toNatClampNeg) := inb_of Sz28 ⟨by decide, by decide⟩
  obtain ⟨T29, h29, X29, e29, W29, st29⟩ := stB X27 hx hZ e27 Ar28 (j := (11 : Int32)) ghin28 (g := (mkF m 98 #[.val (.long jn), .second, .val (.int is), .val (.int ia), .val (.int if_), .val (.int sh), .val (.long nn), .second, .val (.int i1), .val (.int fl), .unset, .unset, .unset, .unset] [(.int fl), (.int (11 : Int32)), (.ref ob5), (.ref ob5)])) rfl rfl (hb hby at_98)
  have V29 : Arv Z h29 ob5 kc5 .byte (16 : Int32) [(.int (fl.toInt8.toInt32)), (.int (fl.toInt8.toInt32)), (.int (fl.toInt8.toInt32)), (.int (fl.toInt8.toInt32)), (.int (fl.toInt8.toInt32)), (.int (fl.toInt8.toInt32)), (.int (fl.toInt8.toInt32)), (.int (fl.toInt8.toInt32)), (.int (fl.toInt8.toInt32)), (.int (fl.toInt8.toInt32)), (.int (fl.toInt8.toInt32)), (.int (fl.toInt8.toInt32)), (.int (0 : Int32)), (.int (0 : Int32)), (.int (0 : Int32)), (.int (0 : Int32))] (.int (0 : Int32)) := Arv.set Ar28 Q28 Sz28 Nn28 Ha28 Gf28 (fits_nar_byte _) W29 11 rfl (Nat.le_of_ble_eq_true rfl)
  have K29 : Keep h0 h29 [] := K27.wr W29 (Or.inr bo_ob5)
  have N29 := Fr.snoc X29 N27 gn_ob5
  obtain ⟨cl30, Ar30, Q30, Sz30, Nn30, Ha30, Gf30⟩ := id V29
  have ghin30 : ¬ ((12 : Int32) < 0 ∨ cl30.slots.size ≤ ((12 : Int32)).toNatClampNeg) := inb_of Sz30 ⟨by decide, by decide⟩
  obtain ⟨T31, h31, X31, e31, W31, st31⟩ := stB X29 hx hZ e29 Ar30 (j := (12 : Int32)) ghin30 (g := (mkF m 104 #[.val (.long jn), .second, .val (.int is), .val (.int ia), .val (.int if_), .val (.int sh), .val (.long nn), .second, .val (.int i1), .val (.int fl), .unset, .unset, .unset, .unset] [(.int fl), (.int (12 : Int32)), (.ref ob5), (.ref ob5)])) rfl rfl (hb hby at_104)
  have V31 : Arv Z h31 ob5 kc5 .byte (16 : Int32) [(.int (fl.toInt8.toInt32)), (.int (fl.toInt8.toInt32)), (.int (fl.toInt8.toInt32)), (.int (fl.toInt8.toInt32)), (.int (fl.toInt8.toInt32)), (.int (fl.toInt8.toInt32)), (.int (fl.toInt8.toInt32)), (.int (fl.toInt8.toInt32)), (.int (fl.toInt8.toInt32)), (.int (fl.toInt8.toInt32)), (.int (fl.toInt8.toInt32)), (.int (fl.toInt8.toInt32)), (.int (fl.toInt8.toInt32)), (.int (0 : Int32)), (.int (0 : Int32)), (.int (0 : Int32))] (.int (0 : Int32)) := Arv.set Ar30 Q30 Sz30 Nn30 Ha30 Gf30 (fits_nar_byte _) W31 12 rfl (Nat.le_of_ble_eq_true rfl)
  have K31 : Keep h0 h31 [] := K29.wr W31 (Or.inr bo_ob5)
  have N31 := Fr.snoc X31 N29 gn_ob5
  obtain ⟨cl32, Ar32, Q32, Sz32, Nn32, Ha32, Gf32⟩ := id V31
  have ghin32 : ¬ ((13 : Int32) < 0 ∨ cl32.slots.size ≤ ((13 : Int32)).toNatClampNeg) := inb_of Sz32 ⟨by decide, by decide⟩
  obtain ⟨T33, h33, X33, e33, W33, st33⟩ := stB X31 hx hZ e31 Ar32 (j := (13 : Int32)) ghin32 (g := (mkF m 110 #[.val (.long jn), .second, .val (.int is), .val (.int ia), .val (.int if_), .val (.int sh), .val (.long nn), .second, .val (.int i1), .val (.int fl), .unset, .unset, .unset, .unset] [(.int fl), (.int (13 : Int32)), (.ref ob5), (.ref ob5)])) rfl rfl (hb hby at_110)
  have V33 : Arv Z h33 ob5 kc5 .byte (16 : Int32) [(.int (fl.toInt8.toInt32)), (.int (fl.toInt8.toInt32)), (.int (fl.toInt8.toInt32)), (.int (fl.toInt8.toInt32)), (.int (fl.toInt8.toInt32)), (.int (fl.toInt8.toInt32)), (.int (fl.toInt8.toInt32)), (.int (fl.toInt8.toInt32)), (.int (fl.toInt8.toInt32)), (.int (fl.toInt8.toInt32)), (.int (fl.toInt8.toInt32)), (.int (fl.toInt8.toInt32)), (.int (fl.toInt8.toInt32)), (.int (fl.toInt8.toInt32)), (.int (0 : Int32)), (.int (0 : Int32))] (.int (0 : Int32)) := Arv.set Ar32 Q32 Sz32 Nn32 Ha32 Gf32 (fits_nar_byte _) W33 13 rfl (Nat.le_of_ble_eq_true rfl)
  have K33 : Keep h0 h33 [] := K31.wr W33 (Or.inr bo_ob5)
  have N33 := Fr.snoc X33 N31 gn_ob5
  obtain ⟨cl34, Ar34, Q34, Sz34, Nn34, Ha34, Gf34⟩ := id V33
  have ghin34 : ¬ ((14 : Int32) < 0 ∨ cl34.slots.size ≤ ((14 : Int32)).toNatClampNeg) := inb_of Sz34 ⟨by decide, by decide⟩
  obtain ⟨T35, h35, X35, e35, W35, st35⟩ := stB X33 hx hZ e33 Ar34 (j := (14 : Int32)) ghin34 (g := (mkF m 116 #[.val (.long jn), .second, .val (.int is), .val (.int ia), .val (.int if_), .val (.int sh), .val (.long nn), .second, .val (.int i1), .val (.int fl), .unset, .unset, .unset, .unset] [(.int fl), (.int (14 : Int32)), (.ref ob5), (.ref ob5)])) rfl rfl (hb hby at_116)
  have V35 : Arv Z h35 ob5 kc5 .byte (16 : Int32) [(.int (fl.toInt8.toInt32)), (.int (fl.toInt8.toInt32)), (.int (fl.toInt8.toInt32)), (.int (fl.toInt8.toInt32)), (.int (fl.toInt8.toInt32)), (.int (fl.toInt8.toInt32)), (.int (fl.toInt8.toInt32)), (.int (fl.toInt8.toInt32)), (.int (fl.toInt8.toInt32)), (.int (fl.toInt8.toInt32)), (.int (fl.toInt8.toInt32)), (.int (fl.toInt8.toInt32)), (.int (fl.toInt8.toInt32)), (.int (fl.toInt8.toInt32)), (.int (fl.toInt8.toInt32)), (.int (0 : Int32))] (.int (0 : Int32)) := Arv.set Ar34 Q34 Sz34 Nn34 Ha34 Gf34 (fits_nar_byte _) W35 14 rfl (Nat.le_of_ble_eq_true rfl)
  have K35 : Keep h0 h35 [] := K33.wr W35 (Or.inr bo_ob5)
  have N35 := Fr.snoc X35 N33 gn_ob5
  obtain ⟨cl36, Ar36, Q36, Sz36, Nn36, Ha36, Gf36⟩ := id V35
  have ghin36 : ¬ ((15 : Int32) < 0 ∨ cl36.slots.size ≤ ((15 : Int32)).toNatClampNeg) := inb_of Sz36 ⟨by decide, by decide⟩
  obtain ⟨T37, h37, X37, e37, W37, st37⟩ := stB X35 hx hZ e35 Ar36 (j := (15 : Int32)) ghin36 (g := (mkF m 122 #[.val (.long jn), .second, .val (.int is), .val (.int ia), .val (.int if_), .val (.int sh), .val (.long nn), .second, .val (.int i1), .val (.int fl), .unset, .unset, .unset, .unset] [(.int fl), (.int (15 : Int32)), (.ref ob5), (.ref ob5)])) rfl rfl (hb hby at_122)
  have V37 : Arv Z h37 ob5 kc5 .byte (16 : Int32) [(.int (fl.toInt8.toInt32)), (.int (fl.toInt8.toInt32)), (.int (fl.toInt8.toInt32)), (.int (fl.toInt8.toInt32)), (.int (fl.toInt8.toInt32)), (.int (fl.toInt8.toInt32)), (.int (fl.toInt8.toInt32)), (.int (fl.toInt8.toInt32)), (.int (fl.toInt8.toInt32)), (.int (fl.toInt8.toInt32)), (.int (fl.toInt8.toInt32)), (.int (fl.toInt8.toInt32)), (.int (fl.toInt8.toInt32)), (.int (fl.toInt8.toInt32)), (.int (fl.toInt8.toInt32)), (.int (fl.toInt8.toInt32))] (.int (0 : Int32)) := Arv.set Ar36 Q36 Sz36 Nn36 Ha36 Gf36 (fits_nar_byte _) W37 15 rfl (Nat.le_of_ble_eq_true rfl)
  have K37 : Keep h0 h37 [] := K35.wr W37 (Or.inr bo_ob5)
  have N37 := Fr.snoc X37 N35 gn_ob5
  have Vn38 : Arv Z h37 ob5 kc5 .byte (16 : Int32) ([(.int fl), (.int fl), (.int fl), (.int fl), (.int fl), (.int fl), (.int fl), (.int fl), (.int fl), (.int fl), (.int fl), (.int fl), (.int fl), (.int fl), (.int fl), (.int fl)] : List Value) (.int (0 : Int32)) := by
    have hq := V37
    rw [hfl] at hq; exact hq
  have szn39 : n0 ≤ h37.size := (Nat.le_trans (Nat.le_trans (Nat.le_trans (Nat.le_trans (Nat.le_trans (Nat.le_trans (Nat.le_trans (Nat.le_trans (Nat.le_trans (Nat.le_trans (Nat.le_trans (Nat.le_trans (Nat.le_trans (Nat.le_trans (Nat.le_trans (Nat.le_trans sz5 (Keep.of_wr W7).1) (Keep.of_wr W9).1) (Keep.of_wr W11).1) (Keep.of_wr W13).1) (Keep.of_wr W15).1) (Keep.of_wr W17).1) (Keep.of_wr W19).1) (Keep.of_wr W21).1) (Keep.of_wr W23).1) (Keep.of_wr W25).1) (Keep.of_wr W27).1) (Keep.of_wr W29).1) (Keep.of_wr W31).1) (Keep.of_wr W33).1) (Keep.of_wr W35).1) (Keep.of_wr W37).1)
  obtain ⟨_, _, ⟨T40, tL40, tk40, tn40⟩, -, X40, ⟨Lc40, hQ40, tl40, ty40, tz40⟩, st40⟩ := Jvm.LawKit.callS X37 hx (y := (⟨"com/example/plainsong/plainsong/PackedTextsWriteNumberPinLaw", "expectedSize", "(J)I"⟩ : MethodName)) hown (mvT hZ (hw _ (List.mem_of_getElem? (i := 3) rfl))) (mvT hZ (hw _ (List.mem_of_getElem? (i := 4) rfl))) (mvT hZ (hw _ (List.mem_of_getElem? (i := 5) rfl))) (mvT hZ (hw _ (List.mem_of_getElem? (i := 6) rfl))) (by decide) (backOf (W := 0) (own_rm1 l Z a0 hw [] nn h37 n0 szn39 ) hZ (hw _ (List.mem_of_getElem? (i := 6) rfl)) (hw _ (List.mem_of_getElem? (i := 5) rfl)) (by decide) (by decide)) (g := (mkF m 127 #[.val (.long jn), .second, .val (.int is), .val (.int ia), .val (.int if_), .val (.int sh), .val (.long nn), .second, .val (.int i1), .val (.int fl), .val (.ref ob5), .unset, .unset, .unset] [(.long nn)])) rfl (by rw [hml]; rfl) (argsL := [(.long nn)]) (rest := []) (lenOf own_pd0 rfl) rfl (by show 2 * 0 + _ ≤ _; exact Nat.le_of_eq rfl) (hb hby at_127) (fun _ _ => ⟨rfl, e37, (by decide : 1 + 0 ≤ _), (by decide : 16 + 0 ≤ _)⟩)
  dsimp only [Pt.U, Pt.locs, Pt.cells, Pt.slots] at X40 tl40 ty40 tz40 st40 hQ40
  rw [tl40, ty40, tz40] at X40
  obtain ⟨rfl, Nq40, K40⟩ := hQ40
  have N40 := Fr.app N37 Nq40
  obtain ⟨hend, hf0, hf1, hf2, hf3, hf4, hf5, hf6, hf7, hf8, hf9, hf10, hf11, hf12, hf13, hf14, hf15⟩ := own_final nn hnn i1 fl hk4
  obtain ⟨_, _, ⟨T41, tL41, tk41, tn41⟩, -, X41, ⟨Lc41, hQ41, tl41, ty41, tz41⟩, st41⟩ := Jvm.LawKit.callS X40 hx (y := (⟨"com/example/plainsong/plainsong/PackedTexts", "writeNumber", "(J[BI)I"⟩ : MethodName)) hown (mvT hZ (hw _ (List.mem_of_getElem? (i := 8) rfl))) (mvT hZ (hw _ (List.mem_of_getElem? (i := 9) rfl))) (mvT hZ (hw _ (List.mem_of_getElem? (i := 10) rfl))) (mvT hZ (hw _ (List.mem_of_getElem? (i := 11) rfl))) (by decide) (backOf (W := 0) (own_rm2 l Z a0 hw [] nn ob5 i1 kc5 ([(.int fl), (.int fl), (.int fl), (.int fl), (.int fl), (.int fl), (.int fl), (.int fl), (.int fl), (.int fl), (.int fl), (.int fl), (.int fl), (.int fl), (.int fl), (.int fl)] : List Value) h37 n0 szn39 Vn38 (rfl) gn_ob5 (own_cz9 nn hnn) (by rcases hk4 with e | e | e | e <;> rw [e] <;> decide) (by rcases hk4 with e | e | e | e <;> rw [e] <;> decide) (by rcases hk4 with e | e | e | e <;> rw [e] <;> decide) (by rcases hk4 with e | e | e | e <;> rw [e] <;> decide) (by rcases hk4 with e | e | e | e <;> rw [e] <;> decide) (by rcases hk4 with e | e | e | e <;> rw [e] <;> decide) (by rcases hk4 with e | e | e | e <;> rw [e] <;> decide) (by rcases hk4 with e | e | e | e <;> rw [e] <;> decide) (by rcases hk4 with e | e | e | e <;> rw [e] <;> decide) (by rcases hk4 with e | e | e | e <;> rw [e] <;> decide) (by rcases hk4 with e | e | e | e <;> rw [e] <;> decide) (by rcases hk4 with e | e | e | e <;> rw [e] <;> decide) (by rcases hk4 with e | e | e | e <;> rw [e] <;> decide) (by rcases hk4 with e | e | e | e <;> rw [e] <;> decide) (by rcases hk4 with e | e | e | e <;> rw [e] <;> decide) (by rcases hk4 with e | e | e | e <;> rw [e] <;> decide) (by rcases hk4 with e | e | e | e <;> rw [e] <;> decide) (by rcases hk4 with e | e | e | e <;> rw [e] <;> decide)) hZ (hw _ (List.mem_of_getElem? (i := 11) rfl)) (hw _ (List.mem_of_getElem? (i := 10) rfl)) (by decide) (by decide)) (g := (mkF m 138 #[.val (.long jn), .second, .val (.int is), .val (.int ia), .val (.int if_), .val (.int sh), .val (.long nn), .second, .val (.int i1), .val (.int fl), .val (.ref ob5), .val (.int (own_size nn)), .unset, .unset] [(.int i1), (.ref ob5), (.long nn)])) rfl (by rw [hml]; rfl) (argsL := [(.long nn), (.ref ob5), (.int i1)]) (rest := []) (lenOf own_pd1 rfl) rfl (by show 2 * 0 + _ ≤ _; exact Nat.le_of_eq rfl) (hb hby at_138) (fun _ _ => ⟨rfl, K40, (by decide : 1 + 0 ≤ _), (by decide : 16 + 0 ≤ _)⟩)
  dsimp only [Pt.U, Pt.locs, Pt.cells, Pt.slots] at X41 tl41 ty41 tz41 st41 hQ41
  rw [tl41, ty41, tz41] at X41
  obtain ⟨rfl, Nq41, K41, Fa41_V_a1⟩ := hQ41
  have N41 := Fr.app N40 Nq41
  have sz41 : n0 ≤ T41.heap.size := Nat.le_trans szn39 K41.1
  have KK41 : Keep h0 T41.heap [] := K37.trans K41 (allS (Or.inr bo_ob5) all0)
  obtain ⟨_, _, ⟨T42, tL42, tk42, tn42⟩, -, X42, ⟨Lc42, hQ42, tl42, ty42, tz42⟩, st42⟩ := Jvm.LawKit.callS X41 hx (y := (⟨"com/example/plainsong/plainsong/PackedTextsWriteNumberPinLaw", "check", "([BIJIIB)Z"⟩ : MethodName)) hown (mvT hZ (hw _ (List.mem_of_getElem? (i := 12) rfl))) (mvT hZ (hw _ (List.mem_of_getElem? (i := 13) rfl))) (mvT hZ (hw _ (List.mem_of_getElem? (i := 5) rfl))) (mvT hZ (hw _ (List.mem_of_getElem? (i := 14) rfl))) (by decide) (backOf (W := 0) (own_rm3 l Z a0 hw [] ob5 (0 : Int32) nn (own_size nn) i1 fl kc5 (own_wr nn i1 ([(.int fl), (.int fl), (.int fl), (.int fl), (.int fl), (.int fl), (.int fl), (.int fl), (.int fl), (.int fl), (.int fl), (.int fl), (.int fl), (.int fl), (.int fl), (.int fl)] : List Value)) (own_want nn (0 : Int32) (own_size nn) i1 fl) T41.heap n0 sz41 Fa41_V_a1 (by decide) (hf0) (rfl)) hZ (hw _ (List.mem_of_getElem? (i := 14) rfl)) (hw _ (List.mem_of_getElem? (i := 5) rfl)) (by decide) (by decide)) (g := (mkF m 176 #[.val (.long jn), .second, .val (.int is), .val (.int ia), .val (.int if_), .val (.int sh), .val (.long nn), .second, .val (.int i1), .val (.int fl), .val (.ref ob5), .val (.int (own_size nn)), .val (.int (own_end nn i1)), .val (.int (1 : Int32))] [(.int fl), (.int i1), (.int (own_size nn)), (.long nn), (.int (0 : Int32)), (.ref ob5)])) rfl (by rw [hml]; rfl) (argsL := [(.ref ob5), (.int (0 : Int32)), (.long nn), (.int (own_size nn)), (.int i1), (.int fl)]) (rest := []) (lenOf own_pd2 rfl) rfl (by show 2 * 0 + _ ≤ _; exact Nat.le_of_eq rfl) (hb hby at_176) (fun _ _ => ⟨rfl, rfl, (by decide : 1 + 0 ≤ _), (by decide : 16 + 0 ≤ _)⟩)
  dsimp only [Pt.U, Pt.locs, Pt.cells, Pt.slots] at X42 tl42 ty42 tz42 st42 hQ42
  rw [tl42, ty42, tz42] at X42
  obtain ⟨rfl, Nq42, K42⟩ := hQ42
  have N42 := Fr.app N41 Nq42
  obtain ⟨_, _, ⟨T43, tL43, tk43, tn43⟩, -, X43, ⟨Lc43, hQ43, tl43, ty43, tz43⟩, st43⟩ := Jvm.LawKit.callS X42 hx (y := (⟨"com/example/plainsong/plainsong/PackedTextsWriteNumberPinLaw", "check", "([BIJIIB)Z"⟩ : MethodName)) hown (mvT hZ (hw _ (List.mem_of_getElem? (i := 12) rfl))) (mvT hZ (hw _ (List.mem_of_getElem? (i := 13) rfl))) (mvT hZ (hw _ (List.mem_of_getElem? (i := 5) rfl))) (mvT hZ (hw _ (List.mem_of_getElem? (i := 14) rfl))) (by decide) (backOf (W := 0) (own_rm3 l Z a0 hw [] ob5 (1 : Int32) nn (own_size nn) i1 fl kc5 (own_wr nn i1 ([(.int fl), (.int fl), (.int fl), (.int fl), (.int fl), (.int fl), (.int fl), (.int fl), (.int fl), (.int fl), (.int fl), (.int fl), (.int fl), (.int fl), (.int fl), (.int fl)] : List Value)) (own_want nn (1 : Int32) (own_size nn) i1 fl) T41.heap n0 sz41 Fa41_V_a1 (by decide) (hf1) (rfl)) hZ (hw _ (List.mem_of_getElem? (i := 14) rfl)) (hw _ (List.mem_of_getElem? (i := 5) rfl)) (by decide) (by decide)) (g := (mkF m 205 #[.val (.long jn), .second, .val (.int is), .val (.int ia), .val (.int if_), .val (.int sh), .val (.long nn), .second, .val (.int i1), .val (.int fl), .val (.ref ob5), .val (.int (own_size nn)), .val (.int (own_end nn i1)), .val (.int (1 : Int32))] [(.int fl), (.int i1), (.int (own_size nn)), (.long nn), (.int (1 : Int32)), (.ref ob5)])) rfl (by rw [hml]; rfl) (argsL := [(.ref ob5), (.int (1 : Int32)), (.long nn), (.int (own_size nn)), (.int i1), (.int fl)]) (rest := []) (lenOf own_pd2 rfl) rfl (by show 2 * 0 + _ ≤ _; exact Nat.le_of_eq rfl) (hb hby at_205) (fun _ _ => ⟨rfl, K42, (by decide : 1 + 0 ≤ _), (by decide : 16 + 0 ≤ _)⟩)
  dsimp only [Pt.U, Pt.locs, Pt.cells, Pt.slots] at X43 tl43 ty43 tz43 st43 hQ43
  rw [tl43, ty43, tz43] at X43
  obtain ⟨rfl, Nq43, K43⟩ := hQ43
  have N43 := Fr.app N42 Nq43
  obtain ⟨_, _, ⟨T44, tL44, tk44, tn44⟩, -, X44, ⟨Lc44, hQ44, tl44, ty44, tz44⟩, st44⟩ := Jvm.LawKit.callS X43 hx (y := (⟨"com/example/plainsong/plainsong/PackedTextsWriteNumberPinLaw", "check", "([BIJIIB)Z"⟩ : MethodName)) hown (mvT hZ (hw _ (List.mem_of_getElem? (i := 12) rfl))) (mvT hZ (hw _ (List.mem_of_getElem? (i := 13) rfl))) (mvT hZ (hw _ (List.mem_of_getElem? (i := 5) rfl))) (mvT hZ (hw _ (List.mem_of_getElem? (i := 14) rfl))) (by decide) (backOf (W := 0) (own_rm3 l Z a0 hw [] ob5 (2 : Int32) nn (own_size nn) i1 fl kc5 (own_wr nn i1 ([(.int fl), (.int fl), (.int fl), (.int fl), (.int fl), (.int fl), (.int fl), (.int fl), (.int fl), (.int fl), (.int fl), (.int fl), (.int fl), (.int fl), (.int fl), (.int fl)] : List Value)) (own_want nn (2 : Int32) (own_size nn) i1 fl) T41.heap n0 sz41 Fa41_V_a1 (by decide) (hf2) (rfl)) hZ (hw _ (List.mem_of_getElem? (i := 14) rfl)) (hw _ (List.mem_of_getElem? (i := 5) rfl)) (by decide) (by decide)) (g := (mkF m 234 #[.val (.long jn), .second, .val (.int is), .val (.int ia), .val (.int if_), .val (.int sh), .val (.long nn), .second, .val (.int i1), .val (.int fl), .val (.ref ob5), .val (.int (own_size nn)), .val (.int (own_end nn i1)), .val (.int (1 : Int32))] [(.int fl), (.int i1), (.int (own_size nn)), (.long nn), (.int (2 : Int32)), (.ref ob5)])) rfl (by rw [hml]; rfl) (argsL := [(.ref ob5), (.int (2 : Int32)), (.long nn), (.int (own_size nn)), (.int i1), (.int fl)]) (rest := []) (lenOf own_pd2 rfl) rfl (by show 2 * 0 + _ ≤ _; exact Nat.le_of_eq rfl) (hb hby at_234) (fun _ _ => ⟨rfl, K43, (by decide : 1 + 0 ≤ _), (by decide : 16 + 0 ≤ _)⟩)
  dsimp only [Pt.U, Pt.locs, Pt.cells, Pt.slots] at X44 tl44 ty44 tz44 st44 hQ44
  rw [tl44, ty44, tz44] at X44
  obtain ⟨rfl, Nq44, K44⟩ := hQ44
  have N44 := Fr.app N43 Nq44
  obtain ⟨_, _, ⟨T45, tL45, tk45, tn45⟩, -, X45, ⟨Lc45, hQ45, tl45, ty45, tz45⟩, st45⟩ := Jvm.LawKit.callS X44 hx (y := (⟨"com/example/plainsong/plainsong/PackedTextsWriteNumberPinLaw", "check", "([BIJIIB)Z"⟩ : MethodName)) hown (mvT hZ (hw _ (List.mem_of_getElem? (i := 12) rfl))) (mvT hZ (hw _ (List.mem_of_getElem? (i := 13) rfl))) (mvT hZ (hw _ (List.mem_of_getElem? (i := 5) rfl))) (mvT hZ (hw _ (List.mem_of_getElem? (i := 14) rfl))) (by decide) (backOf (W := 0) (own_rm3 l Z a0 hw [] ob5 (3 : Int32) nn (own_size nn) i1 fl kc5 (own_wr nn i1 ([(.int fl), (.int fl), (.int fl), (.int fl), (.int fl), (.int fl), (.int fl), (.int fl), (.int fl), (.int fl), (.int fl), (.int fl), (.int fl), (.int fl), (.int fl), (.int fl)] : List Value)) (own_want nn (3 : Int32) (own_size nn) i1 fl) T41.heap n0 sz41 Fa41_V_a1 (by decide) (hf3) (rfl)) hZ (hw _ (List.mem_of_getElem? (i := 14) rfl)) (hw _ (List.mem_of_getElem? (i := 5) rfl)) (by decide) (by decide)) (g := (mkF m 263 #[.val (.long jn), .second, .val (.int is), .val (.int ia), .val (.int if_), .val (.int sh), .val (.long nn), .second, .val (.int i1), .val (.int fl), .val (.ref ob5), .val (.int (own_size nn)), .val (.int (own_end nn i1)), .val (.int (1 : Int32))] [(.int fl), (.int i1), (.int (own_size nn)), (.long nn), (.int (3 : Int32)), (.ref ob5)])) rfl (by rw [hml]; rfl) (argsL := [(.ref ob5), (.int (3 : Int32)), (.long nn), (.int (own_size nn)), (.int i1), (.int fl)]) (rest := []) (lenOf own_pd2 rfl) rfl (by show 2 * 0 + _ ≤ _; exact Nat.le_of_eq rfl) (hb hby at_263) (fun _ _ => ⟨rfl, K44, (by decide : 1 + 0 ≤ _), (by decide : 16 + 0 ≤ _)⟩)
  dsimp only [Pt.U, Pt.locs, Pt.cells, Pt.slots] at X45 tl45 ty45 tz45 st45 hQ45
  rw [tl45, ty45, tz45] at X45
  obtain ⟨rfl, Nq45, K45⟩ := hQ45
  have N45 := Fr.app N44 Nq45
  obtain ⟨_, _, ⟨T46, tL46, tk46, tn46⟩, -, X46, ⟨Lc46, hQ46, tl46, ty46, tz46⟩, st46⟩ := Jvm.LawKit.callS X45 hx (y := (⟨"com/example/plainsong/plainsong/PackedTextsWriteNumberPinLaw", "check", "([BIJIIB)Z"⟩ : MethodName)) hown (mvT hZ (hw _ (List.mem_of_getElem? (i := 12) rfl))) (mvT hZ (hw _ (List.mem_of_getElem? (i := 13) rfl))) (mvT hZ (hw _ (List.mem_of_getElem? (i := 5) rfl))) (mvT hZ (hw _ (List.mem_of_getElem? (i := 14) rfl))) (by decide) (backOf (W := 0) (own_rm3 l Z a0 hw [] ob5 (4 : Int32) nn (own_size nn) i1 fl kc5 (own_wr nn i1 ([(.int fl), (.int fl), (.int fl), (.int fl), (.int fl), (.int fl), (.int fl), (.int fl), (.int fl), (.int fl), (.int fl), (.int fl), (.int fl), (.int fl), (.int fl), (.int fl)] : List Value)) (own_want nn (4 : Int32) (own_size nn) i1 fl) T41.heap n0 sz41 Fa41_V_a1 (by decide) (hf4) (rfl)) hZ (hw _ (List.mem_of_getElem? (i := 14) rfl)) (hw _ (List.mem_of_getElem? (i := 5) rfl)) (by decide) (by decide)) (g := (mkF m 292 #[.val (.long jn), .second, .val (.int is), .val (.int ia), .val (.int if_), .val (.int sh), .val (.long nn), .second, .val (.int i1), .val (.int fl), .val (.ref ob5), .val (.int (own_size nn)), .val (.int (own_end nn i1)), .val (.int (1 : Int32))] [(.int fl), (.int i1), (.int (own_size nn)), (.long nn), (.int (4 : Int32)), (.ref ob5)])) rfl (by rw [hml]; rfl) (argsL := [(.ref ob5), (.int (4 : Int32)), (.long nn), (.int (own_size nn)), (.int i1), (.int fl)]) (rest := []) (lenOf own_pd2 rfl) rfl (by show 2 * 0 + _ ≤ _; exact Nat.le_of_eq rfl) (hb hby at_292) (fun _ _ => ⟨rfl, K45, (by decide : 1 + 0 ≤ _), (by decide : 16 + 0 ≤ _)⟩)
  dsimp only [Pt.U, Pt.locs, Pt.cells, Pt.slots] at X46 tl46 ty46 tz46 st46 hQ46
  rw [tl46, ty46, tz46] at X46
  obtain ⟨rfl, Nq46, K46⟩ := hQ46
  have N46 := Fr.app N45 Nq46
  obtain ⟨_, _, ⟨T47, tL47, tk47, tn47⟩, -, X47, ⟨Lc47, hQ47, tl47, ty47, tz47⟩, st47⟩ := Jvm.LawKit.callS X46 hx (y := (⟨"com/example/plainsong/plainsong/PackedTextsWriteNumberPinLaw", "check", "([BIJIIB)Z"⟩ : MethodName)) hown (mvT hZ (hw _ (List.mem_of_getElem? (i := 12) rfl))) (mvT hZ (hw _ (List.mem_of_getElem? (i := 13) rfl))) (mvT hZ (hw _ (List.mem_of_getElem? (i := 5) rfl))) (mvT hZ (hw _ (List.mem_of_getElem? (i := 14) rfl))) (by decide) (backOf (W := 0) (own_rm3 l Z a0 hw [] ob5 (5 : Int32) nn (own_size nn) i1 fl kc5 (own_wr nn i1 ([(.int fl), (.int fl), (.int fl), (.int fl), (.int fl), (.int fl), (.int fl), (.int fl), (.int fl), (.int fl), (.int fl), (.int fl), (.int fl), (.int fl), (.int fl), (.int fl)] : List Value)) (own_want nn (5 : Int32) (own_size nn) i1 fl) T41.heap n0 sz41 Fa41_V_a1 (by decide) (hf5) (rfl)) hZ (hw _ (List.mem_of_getElem? (i := 14) rfl)) (hw _ (List.mem_of_getElem? (i := 5) rfl)) (by decide) (by decide)) (g := (mkF m 321 #[.val (.long jn), .second, .val (.int is), .val (.int ia), .val (.int if_), .val (.int sh), .val (.long nn), .second, .val (.int i1), .val (.int fl), .val (.ref ob5), .val (.int (own_size nn)), .val (.int (own_end nn i1)), .val (.int (1 : Int32))] [(.int fl), (.int i1), (.int (own_size nn)), (.long nn), (.int (5 : Int32)), (.ref ob5)])) rfl (by rw [hml]; rfl) (argsL := [(.ref ob5), (.int (5 : Int32)), (.long nn), (.int (own_size nn)), (.int i1), (.int fl)]) (rest := []) (lenOf own_pd2 rfl) rfl (by show 2 * 0 + _ ≤ _; exact Nat.le_of_eq rfl) (hb hby at_321) (fun _ _ => ⟨rfl, K46, (by decide : 1 + 0 ≤ _), (by decide : 16 + 0 ≤ _)⟩)
  dsimp only [Pt.U, Pt.locs, Pt.cells, Pt.slots] at X47 tl47 ty47 tz47 st47 hQ47
  rw [tl47, ty47, tz47] at X47
  obtain ⟨rfl, Nq47, K47⟩ := hQ47
  have N47 := Fr.app N46 Nq47
  obtain ⟨_, _, ⟨T48, tL48, tk48, tn48⟩, -, X48, ⟨Lc48, hQ48, tl48, ty48, tz48⟩, st48⟩ := Jvm.LawKit.callS X47 hx (y := (⟨"com/example/plainsong/plainsong/PackedTextsWriteNumberPinLaw", "check", "([BIJIIB)Z"⟩ : MethodName)) hown (mvT hZ (hw _ (List.mem_of_getElem? (i := 12) rfl))) (mvT hZ (hw _ (List.mem_of_getElem? (i := 13) rfl))) (mvT hZ (hw _ (List.mem_of_getElem? (i := 5) rfl))) (mvT hZ (hw _ (List.mem_of_getElem? (i := 14) rfl))) (by decide) (backOf (W := 0) (own_rm3 l Z a0 hw [] ob5 (6 : Int32) nn (own_size nn) i1 fl kc5 (own_wr nn i1 ([(.int fl), (.int fl), (.int fl), (.int fl), (.int fl), (.int fl), (.int fl), (.int fl), (.int fl), (.int fl), (.int fl), (.int fl), (.int fl), (.int fl), (.int fl), (.int fl)] : List Value)) (own_want nn (6 : Int32) (own_size nn) i1 fl) T41.heap n0 sz41 Fa41_V_a1 (by decide) (hf6) (rfl)) hZ (hw _ (List.mem_of_getElem? (i := 14) rfl)) (hw _ (List.mem_of_getElem? (i := 5) rfl)) (by decide) (by decide)) (g := (mkF m 351 #[.val (.long jn), .second, .val (.int is), .val (.int ia), .val (.int if_), .val (.int sh), .val (.long nn), .second, .val (.int i1), .val (.int fl), .val (.ref ob5), .val (.int (own_size nn)), .val (.int (own_end nn i1)), .val (.int (1 : Int32))] [(.int fl), (.int i1), (.int (own_size nn)), (.long nn), (.int (6 : Int32)), (.ref ob5)])) rfl (by rw [hml]; rfl) (argsL := [(.ref ob5), (.int (6 : Int32)), (.long nn), (.int (own_size nn)), (.int i1), (.int fl)]) (rest := []) (lenOf own_pd2 rfl) rfl (by show 2 * 0 + _ ≤ _; exact Nat.le_of_eq rfl) (hb hby at_351) (fun _ _ => ⟨rfl, K47, (by decide : 1 + 0 ≤ _), (by decide : 16 + 0 ≤ _)⟩)
  dsimp only [Pt.U, Pt.locs, Pt.cells, Pt.slots] at X48 tl48 ty48 tz48 st48 hQ48
  rw [tl48, ty48, tz48] at X48
  obtain ⟨rfl, Nq48, K48⟩ := hQ48
  have N48 := Fr.app N47 Nq48
  obtain ⟨_, _, ⟨T49, tL49, tk49, tn49⟩, -, X49, ⟨Lc49, hQ49, tl49, ty49, tz49⟩, st49⟩ := Jvm.LawKit.callS X48 hx (y := (⟨"com/example/plainsong/plainsong/PackedTextsWriteNumberPinLaw", "check", "([BIJIIB)Z"⟩ : MethodName)) hown (mvT hZ (hw _ (List.mem_of_getElem? (i := 12) rfl))) (mvT hZ (hw _ (List.mem_of_getElem? (i := 13) rfl))) (mvT hZ (hw _ (List.mem_of_getElem? (i := 5) rfl))) (mvT hZ (hw _ (List.mem_of_getElem? (i := 14) rfl))) (by decide) (backOf (W := 0) (own_rm3 l Z a0 hw [] ob5 (7 : Int32) nn (own_size nn) i1 fl kc5 (own_wr nn i1 ([(.int fl), (.int fl), (.int fl), (.int fl), (.int fl), (.int fl), (.int fl), (.int fl), (.int fl), (.int fl), (.int fl), (.int fl), (.int fl), (.int fl), (.int fl), (.int fl)] : List Value)) (own_want nn (7 : Int32) (own_size nn) i1 fl) T41.heap n0 sz41 Fa41_V_a1 (by decide) (hf7) (rfl)) hZ (hw _ (List.mem_of_getElem? (i := 14) rfl)) (hw _ (List.mem_of_getElem? (i := 5) rfl)) (by decide) (by decide)) (g := (mkF m 381 #[.val (.long jn), .second, .val (.int is), .val (.int ia), .val (.int if_), .val (.int sh), .val (.long nn), .second, .val (.int i1), .val (.int fl), .val (.ref ob5), .val (.int (own_size nn)), .val (.int (own_end nn i1)), .val (.int (1 : Int32))] [(.int fl), (.int i1), (.int (own_size nn)), (.long nn), (.int (7 : Int32)), (.ref ob5)])) rfl (by rw [hml]; rfl) (argsL := [(.ref ob5), (.int (7 : Int32)), (.long nn), (.int (own_size nn)), (.int i1), (.int fl)]) (rest := []) (lenOf own_pd2 rfl) rfl (by show 2 * 0 + _ ≤ _; exact Nat.le_of_eq rfl) (hb hby at_381) (fun _ _ => ⟨rfl, K48, (by decide : 1 + 0 ≤ _), (by decide : 16 + 0 ≤ _)⟩)
  dsimp only [Pt.U, Pt.locs, Pt.cells, Pt.slots] at X49 tl49 ty49 tz49 st49 hQ49
  rw [tl49, ty49, tz49] at X49
  obtain ⟨rfl, Nq49, K49⟩ := hQ49
  have N49 := Fr.app N48 Nq49
  obtain ⟨_, _, ⟨T50, tL50, tk50, tn50⟩, -, X50, ⟨Lc50, hQ50, tl50, ty50, tz50⟩, st50⟩ := Jvm.LawKit.callS X49 hx (y := (⟨"com/example/plainsong/plainsong/PackedTextsWriteNumberPinLaw", "check", "([BIJIIB)Z"⟩ : MethodName)) hown (mvT hZ (hw _ (List.mem_of_getElem? (i := 12) rfl))) (mvT hZ (hw _ (List.mem_of_getElem? (i := 13) rfl))) (mvT hZ (hw _ (List.mem_of_getElem? (i := 5) rfl))) (mvT hZ (hw _ (List.mem_of_getElem? (i := 14) rfl))) (by decide) (backOf (W := 0) (own_rm3 l Z a0 hw [] ob5 (8 : Int32) nn (own_size nn) i1 fl kc5 (own_wr nn i1 ([(.int fl), (.int fl), (.int fl), (.int fl), (.int fl), (.int fl), (.int fl), (.int fl), (.int fl), (.int fl), (.int fl), (.int fl), (.int fl), (.int fl), (.int fl), (.int fl)] : List Value)) (own_want nn (8 : Int32) (own_size nn) i1 fl) T41.heap n0 sz41 Fa41_V_a1 (by decide) (hf8) (rfl)) hZ (hw _ (List.mem_of_getElem? (i := 14) rfl)) (hw _ (List.mem_of_getElem? (i := 5) rfl)) (by decide) (by decide)) (g := (mkF m 411 #[.val (.long jn), .second, .val (.int is), .val (.int ia), .val (.int if_), .val (.int sh), .val (.long nn), .second, .val (.int i1), .val (.int fl), .val (.ref ob5), .val (.int (own_size nn)), .val (.int (own_end nn i1)), .val (.int (1 : Int32))] [(.int fl), (.int i1), (.int (own_size nn)), (.long nn), (.int (8 : Int32)), (.ref ob5)])) rfl (by rw [hml]; rfl) (argsL := [(.ref ob5), (.int (8 : Int32)), (.long nn), (.int (own_size nn)), (.int i1), (.int fl)]) (rest := []) (lenOf own_pd2 rfl) rfl (by show 2 * 0 + _ ≤ _; exact Nat.le_of_eq rfl) (hb hby at_411) (fun _ _ => ⟨rfl, K49, (by decide : 1 + 0 ≤ _), (by decide : 16 + 0 ≤ _)⟩)
  dsimp only [Pt.U, Pt.locs, Pt.cells, Pt.slots] at X50 tl50 ty50 tz50 st50 hQ50
  rw [tl50, ty50, tz50] at X50
  obtain ⟨rfl, Nq50, K50⟩ := hQ50
  have N50 := Fr.app N49 Nq50
  obtain ⟨_, _, ⟨T51, tL51, tk51, tn51⟩, -, X51, ⟨Lc51, hQ51, tl51, ty51, tz51⟩, st51⟩ := Jvm.LawKit.callS X50 hx (y := (⟨"com/example/plainsong/plainsong/PackedTextsWriteNumberPinLaw", "check", "([BIJIIB)Z"⟩ : MethodName)) hown (mvT hZ (hw _ (List.mem_of_getElem? (i := 12) rfl))) (mvT hZ (hw _ (List.mem_of_getElem? (i := 13) rfl))) (mvT hZ (hw _ (List.mem_of_getElem? (i := 5) rfl))) (mvT hZ (hw _ (List.mem_of_getElem? (i := 14) rfl))) (by decide) (backOf (W := 0) (own_rm3 l Z a0 hw [] ob5 (9 : Int32) nn (own_size nn) i1 fl kc5 (own_wr nn i1 ([(.int fl), (.int fl), (.int fl), (.int fl), (.int fl), (.int fl), (.int fl), (.int fl), (.int fl), (.int fl), (.int fl), (.int fl), (.int fl), (.int fl), (.int fl), (.int fl)] : List Value)) (own_want nn (9 : Int32) (own_size nn) i1 fl) T41.heap n0 sz41 Fa41_V_a1 (by decide) (hf9) (rfl)) hZ (hw _ (List.mem_of_getElem? (i := 14) rfl)) (hw _ (List.mem_of_getElem? (i := 5) rfl)) (by decide) (by decide)) (g := (mkF m 441 #[.val (.long jn), .second, .val (.int is), .val (.int ia), .val (.int if_), .val (.int sh), .val (.long nn), .second, .val (.int i1), .val (.int fl), .val (.ref ob5), .val (.int (own_size nn)), .val (.int (own_end nn i1)), .val (.int (1 : Int32))] [(.int fl), (.int i1), (.int (own_size nn)), (.long nn), (.int (9 : Int32)), (.ref ob5)])) rfl (by rw [hml]; rfl) (argsL := [(.ref ob5), (.int (9 : Int32)), (.long nn), (.int (own_size nn)), (.int i1), (.int fl)]) (rest := []) (lenOf own_pd2 rfl) rfl (by show 2 * 0 + _ ≤ _; exact Nat.le_of_eq rfl) (hb hby at_441) (fun _ _ => ⟨rfl, K50, (by decide : 1 + 0 ≤ _), (by decide : 16 + 0 ≤ _)⟩)
  dsimp only [Pt.U, Pt.locs, Pt.cells, Pt.slots] at X51 tl51 ty51 tz51 st51 hQ51
  rw [tl51, ty51, tz51] at X51
  obtain ⟨rfl, Nq51, K51⟩ := hQ51
  have N51 := Fr.app N50 Nq51
  obtain ⟨_, _, ⟨T52, tL52, tk52, tn52⟩, -, X52, ⟨Lc52, hQ52, tl52, ty52, tz52⟩, st52⟩ := Jvm.LawKit.callS X51 hx (y := (⟨"com/example/plainsong/plainsong/PackedTextsWriteNumberPinLaw", "check", "([BIJIIB)Z"⟩ : MethodName)) hown (mvT hZ (hw _ (List.mem_of_getElem? (i := 12) rfl))) (mvT hZ (hw _ (List.mem_of_getElem? (i := 13) rfl))) (mvT hZ (hw _ (List.mem_of_getElem? (i := 5) rfl))) (mvT hZ (hw _ (List.mem_of_getElem? (i := 14) rfl))) (by decide) (backOf (W := 0) (own_rm3 l Z a0 hw [] ob5 (10 : Int32) nn (own_size nn) i1 fl kc5 (own_wr nn i1 ([(.int fl), (.int fl), (.int fl), (.int fl), (.int fl), (.int fl), (.int fl), (.int fl), (.int fl), (.int fl), (.int fl), (.int fl), (.int fl), (.int fl), (.int fl), (.int fl)] : List Value)) (own_want nn (10 : Int32) (own_size nn) i1 fl) T41.heap n0 sz41 Fa41_V_a1 (by decide) (hf10) (rfl)) hZ (hw _ (List.mem_of_getElem? (i := 14) rfl)) (hw _ (List.mem_of_getElem? (i := 5) rfl)) (by decide) (by decide)) (g := (mkF m 471 #[.val (.long jn), .second, .val (.int is), .val (.int ia), .val (.int if_), .val (.int sh), .val (.long nn), .second, .val (.int i1), .val (.int fl), .val (.ref ob5), .val (.int (own_size nn)), .val (.int (own_end nn i1)), .val (.int (1 : Int32))] [(.int fl), (.int i1), (.int (own_size nn)), (.long nn), (.int (10 : Int32)), (.ref ob5)])) rfl (by rw [hml]; rfl) (argsL := [(.ref ob5), (.int (10 : Int32)), (.long nn), (.int (own_size nn)), (.int i1), (.int fl)]) (rest := []) (lenOf own_pd2 rfl) rfl (by show 2 * 0 + _ ≤ _; exact Nat.le_of_eq rfl) (hb hby at_471) (fun _ _ => ⟨rfl, K51, (by decide : 1 + 0 ≤ _), (by decide : 16 + 0 ≤ _)⟩)
  dsimp only [Pt.U, Pt.locs, Pt.cells, Pt.slots] at X52 tl52 ty52 tz52 st52 hQ52
  rw [tl52, ty52, tz52] at X52
  obtain ⟨rfl, Nq52, K52⟩ := hQ52
  have N52 := Fr.app N51 Nq52
  obtain ⟨_, _, ⟨T53, tL53, tk53, tn53⟩, -, X53, ⟨Lc53, hQ53, tl53, ty53, tz53⟩, st53⟩ := Jvm.LawKit.callS X52 hx (y := (⟨"com/example/plainsong/plainsong/PackedTextsWriteNumberPinLaw", "check", "([BIJIIB)Z"⟩ : MethodName)) hown (mvT hZ (hw _ (List.mem_of_getElem? (i := 12) rfl))) (mvT hZ (hw _ (List.mem_of_getElem? (i := 13) rfl))) (mvT hZ (hw _ (List.mem_of_getElem? (i := 5) rfl))) (mvT hZ (hw _ (List.mem_of_getElem? (i := 14) rfl))) (by decide) (backOf (W := 0) (own_rm3 l Z a0 hw [] ob5 (11 : Int32) nn (own_size nn) i1 fl kc5 (own_wr nn i1 ([(.int fl), (.int fl), (.int fl), (.int fl), (.int fl), (.int fl), (.int fl), (.int fl), (.int fl), (.int fl), (.int fl), (.int fl), (.int fl), (.int fl), (.int fl), (.int fl)] : List Value)) (own_want nn (11 : Int32) (own_size nn) i1 fl) T41.heap n0 sz41 Fa41_V_a1 (by decide) (hf11) (rfl)) hZ (hw _ (List.mem_of_getElem? (i := 14) rfl)) (hw _ (List.mem_of_getElem? (i := 5) rfl)) (by decide) (by decide)) (g := (mkF m 501 #[.val (.long jn), .second, .val (.int is), .val (.int ia), .val (.int if_), .val (.int sh), .val (.long nn), .second, .val (.int i1), .val (.int fl), .val (.ref ob5), .val (.int (own_size nn)), .val (.int (own_end nn i1)), .val (.int (1 : Int32))] [(.int fl), (.int i1), (.int (own_size nn)), (.long nn), (.int (11 : Int32)), (.ref ob5)])) rfl (by rw [hml]; rfl) (argsL := [(.ref ob5), (.int (11 : Int32)), (.long nn), (.int (own_size nn)), (.int i1), (.int fl)]) (rest := []) (lenOf own_pd2 rfl) rfl (by show 2 * 0 + _ ≤ _; exact Nat.le_of_eq rfl) (hb hby at_501) (fun _ _ => ⟨rfl, K52, (by decide : 1 + 0 ≤ _), (by decide : 16 + 0 ≤ _)⟩)
  dsimp only [Pt.U, Pt.locs, Pt.cells, Pt.slots] at X53 tl53 ty53 tz53 st53 hQ53
  rw [tl53, ty53, tz53] at X53
  obtain ⟨rfl, Nq53, K53⟩ := hQ53
  have N53 := Fr.app N52 Nq53
  obtain ⟨_, _, ⟨T54, tL54, tk54, tn54⟩, -, X54, ⟨Lc54, hQ54, tl54, ty54, tz54⟩, st54⟩ := Jvm.LawKit.callS X53 hx (y := (⟨"com/example/plainsong/plainsong/PackedTextsWriteNumberPinLaw", "check", "([BIJIIB)Z"⟩ : MethodName)) hown (mvT hZ (hw _ (List.mem_of_getElem? (i := 12) rfl))) (mvT hZ (hw _ (List.mem_of_getElem? (i := 13) rfl))) (mvT hZ (hw _ (List.mem_of_getElem? (i := 5) rfl))) (mvT hZ (hw _ (List.mem_of_getElem? (i := 14) rfl))) (by decide) (backOf (W := 0) (own_rm3 l Z a0 hw [] ob5 (12 : Int32) nn (own_size nn) i1 fl kc5 (own_wr nn i1 ([(.int fl), (.int fl), (.int fl), (.int fl), (.int fl), (.int fl), (.int fl), (.int fl), (.int fl), (.int fl), (.int fl), (.int fl), (.int fl), (.int fl), (.int fl), (.int fl)] : List Value)) (own_want nn (12 : Int32) (own_size nn) i1 fl) T41.heap n0 sz41 Fa41_V_a1 (by decide) (hf12) (rfl)) hZ (hw _ (List.mem_of_getElem? (i := 14) rfl)) (hw _ (List.mem_of_getElem? (i := 5) rfl)) (by decide) (by decide)) (g := (mkF m 531 #[.val (.long jn), .second, .val (.int is), .val (.int ia), .val (.int if_), .val (.int sh), .val (.long nn), .second, .val (.int i1), .val (.int fl), .val (.ref ob5), .val (.int (own_size nn)), .val (.int (own_end nn i1)), .val (.int (1 : Int32))] [(.int fl), (.int i1), (.int (own_size nn)), (.long nn), (.int (12 : Int32)), (.ref ob5)])) rfl (by rw [hml]; rfl) (argsL := [(.ref ob5), (.int (12 : Int32)), (.long nn), (.int (own_size nn)), (.int i1), (.int fl)]) (rest := []) (lenOf own_pd2 rfl) rfl (by show 2 * 0 + _ ≤ _; exact Nat.le_of_eq rfl) (hb hby at_531) (fun _ _ => ⟨rfl, K53, (by decide : 1 + 0 ≤ _), (by decide : 16 + 0 ≤ _)⟩)
  dsimp only [Pt.U, Pt.locs, Pt.cells, Pt.slots] at X54 tl54 ty54 tz54 st54 hQ54
  rw [tl54, ty54, tz54] at X54
  obtain ⟨rfl, Nq54, K54⟩ := hQ54
  have N54 := Fr.app N53 Nq54
  obtain ⟨_, _, ⟨T55, tL55, tk55, tn55⟩, -, X55, ⟨Lc55, hQ55, tl55, ty55, tz55⟩, st55⟩ := Jvm.LawKit.callS X54 hx (y := (⟨"com/example/plainsong/plainsong/PackedTextsWriteNumberPinLaw", "check", "([BIJIIB)Z"⟩ : MethodName)) hown (mvT hZ (hw _ (List.mem_of_getElem? (i := 12) rfl))) (mvT hZ (hw _ (List.mem_of_getElem? (i := 13) rfl))) (mvT hZ (hw _ (List.mem_of_getElem? (i := 5) rfl))) (mvT hZ (hw _ (List.mem_of_getElem? (i := 14) rfl))) (by decide) (backOf (W := 0) (own_rm3 l Z a0 hw [] ob5 (13 : Int32) nn (own_size nn) i1 fl kc5 (own_wr nn i1 ([(.int fl), (.int fl), (.int fl), (.int fl), (.int fl), (.int fl), (.int fl), (.int fl), (.int fl), (.int fl), (.int fl), (.int fl), (.int fl), (.int fl), (.int fl), (.int fl)] : List Value)) (own_want nn (13 : Int32) (own_size nn) i1 fl) T41.heap n0 sz41 Fa41_V_a1 (by decide) (hf13) (rfl)) hZ (hw _ (List.mem_of_getElem? (i := 14) rfl)) (hw _ (List.mem_of_getElem? (i := 5) rfl)) (by decide) (by decide)) (g := (mkF m 561 #[.val (.long jn), .second, .val (.int is), .val (.int ia), .val (.int if_), .val (.int sh), .val (.long nn), .second, .val (.int i1), .val (.int fl), .val (.ref ob5), .val (.int (own_size nn)), .val (.int (own_end nn i1)), .val (.int (1 : Int32))] [(.int fl), (.int i1), (.int (own_size nn)), (.long nn), (.int (13 : Int32)), (.ref ob5)])) rfl (by rw [hml]; rfl) (argsL := [(.ref ob5), (.int (13 : Int32)), (.long nn), (.int (own_size nn)), (.int i1), (.int fl)]) (rest := []) (lenOf own_pd2 rfl) rfl (by show 2 * 0 + _ ≤ _; exact Nat.le_of_eq rfl) (hb hby at_561) (fun _ _ => ⟨rfl, K54, (by decide : 1 + 0 ≤ _), (by decide : 16 + 0 ≤ _)⟩)
  dsimp only [Pt.U, Pt.locs, Pt.cells, Pt.slots] at X55 tl55 ty55 tz55 st55 hQ55
  rw [tl55, ty55, tz55] at X55
  obtain ⟨rfl, Nq55, K55⟩ := hQ55
  have N55 := Fr.app N54 Nq55
  obtain ⟨_, _, ⟨T56, tL56, tk56, tn56⟩, -, X56, ⟨Lc56, hQ56, tl56, ty56, tz56⟩, st56⟩ := Jvm.LawKit.callS X55 hx (y := (⟨"com/example/plainsong/plainsong/PackedTextsWriteNumberPinLaw", "check", "([BIJIIB)Z"⟩ : MethodName)) hown (mvT hZ (hw _ (List.mem_of_getElem? (i := 12) rfl))) (mvT hZ (hw _ (List.mem_of_getElem? (i := 13) rfl))) (mvT hZ (hw _ (List.mem_of_getElem? (i := 5) rfl))) (mvT hZ (hw _ (List.mem_of_getElem? (i := 14) rfl))) (by decide) (backOf (W := 0) (own_rm3 l Z a0 hw [] ob5 (14 : Int32) nn (own_size nn) i1 fl kc5 (own_wr nn i1 ([(.int fl), (.int fl), (.int fl), (.int fl), (.int fl), (.int fl), (.int fl), (.int fl), (.int fl), (.int fl), (.int fl), (.int fl), (.int fl), (.int fl), (.int fl), (.int fl)] : List Value)) (own_want nn (14 : Int32) (own_size nn) i1 fl) T41.heap n0 sz41 Fa41_V_a1 (by decide) (hf14) (rfl)) hZ (hw _ (List.mem_of_getElem? (i := 14) rfl)) (hw _ (List.mem_of_getElem? (i := 5) rfl)) (by decide) (by decide)) (g := (mkF m 591 #[.val (.long jn), .second, .val (.int is), .val (.int ia), .val (.int if_), .val (.int sh), .val (.long nn), .second, .val (.int i1), .val (.int fl), .val (.ref ob5), .val (.int (own_size nn)), .val (.int (own_end nn i1)), .val (.int (1 : Int32))] [(.int fl), (.int i1), (.int (own_size nn)), (.long nn), (.int (14 : Int32)), (.ref ob5)])) rfl (by rw [hml]; rfl) (argsL := [(.ref ob5), (.int (14 : Int32)), (.long nn), (.int (own_size nn)), (.int i1), (.int fl)]) (rest := []) (lenOf own_pd2 rfl) rfl (by show 2 * 0 + _ ≤ _; exact Nat.le_of_eq rfl) (hb hby at_591) (fun _ _ => ⟨rfl, K55, (by decide : 1 + 0 ≤ _), (by decide : 16 + 0 ≤ _)⟩)
  dsimp only [Pt.U, Pt.locs, Pt.cells, Pt.slots] at X56 tl56 ty56 tz56 st56 hQ56
  rw [tl56, ty56, tz56] at X56
  obtain ⟨rfl, Nq56, K56⟩ := hQ56
  have N56 := Fr.app N55 Nq56
  obtain ⟨_, _, ⟨T57, tL57, tk57, tn57⟩, -, X57, ⟨Lc57, hQ57, tl57, ty57, tz57⟩, st57⟩ := Jvm.LawKit.callS X56 hx (y := (⟨"com/example/plainsong/plainsong/PackedTextsWriteNumberPinLaw", "check", "([BIJIIB)Z"⟩ : MethodName)) hown (mvT hZ (hw _ (List.mem_of_getElem? (i := 12) rfl))) (mvT hZ (hw _ (List.mem_of_getElem? (i := 13) rfl))) (mvT hZ (hw _ (List.mem_of_getElem? (i := 5) rfl))) (mvT hZ (hw _ (List.mem_of_getElem? (i := 14) rfl))) (by decide) (backOf (W := 0) (own_rm3 l Z a0 hw [] ob5 (15 : Int32) nn (own_size nn) i1 fl kc5 (own_wr nn i1 ([(.int fl), (.int fl), (.int fl), (.int fl), (.int fl), (.int fl), (.int fl), (.int fl), (.int fl), (.int fl), (.int fl), (.int fl), (.int fl), (.int fl), (.int fl), (.int fl)] : List Value)) (own_want nn (15 : Int32) (own_size nn) i1 fl) T41.heap n0 sz41 Fa41_V_a1 (by decide) (hf15) (rfl)) hZ (hw _ (List.mem_of_getElem? (i := 14) rfl)) (hw _ (List.mem_of_getElem? (i := 5) rfl)) (by decide) (by decide)) (g := (mkF m 621 #[.val (.long jn), .second, .val (.int is), .val (.int ia), .val (.int if_), .val (.int sh), .val (.long nn), .second, .val (.int i1), .val (.int fl), .val (.ref ob5), .val (.int (own_size nn)), .val (.int (own_end nn i1)), .val (.int (1 : Int32))] [(.int fl), (.int i1), (.int (own_size nn)), (.long nn), (.int (15 : Int32)), (.ref ob5)])) rfl (by rw [hml]; rfl) (argsL := [(.ref ob5), (.int (15 : Int32)), (.long nn), (.int (own_size nn)), (.int i1), (.int fl)]) (rest := []) (lenOf own_pd2 rfl) rfl (by show 2 * 0 + _ ≤ _; exact Nat.le_of_eq rfl) (hb hby at_621) (fun _ _ => ⟨rfl, K56, (by decide : 1 + 0 ≤ _), (by decide : 16 + 0 ≤ _)⟩)
  dsimp only [Pt.U, Pt.locs, Pt.cells, Pt.slots] at X57 tl57 ty57 tz57 st57 hQ57
  rw [tl57, ty57, tz57] at X57
  obtain ⟨rfl, Nq57, K57⟩ := hQ57
  have N57 := Fr.app N56 Nq57
  obtain ⟨fs, hr, hrun, hended, hW, hsame⟩ := X57.leave (v := some (.int (1 : Int32))) (fun h => by rw [Bd.returns] at h; cases h)
  refine ⟨_, _, pre4 _ ?_, hrun, hended, _, _, rfl, ?_, ⟨_, rfl⟩, hW, hsame.mono (by decide) (by decide)⟩
  · show Steps p.tables e below (s₁.setTop (mkF m 29 #[.val (.long jn), .second, .val (.int is), .val (.int ia), .val (.int if_), .val (.int sh), .val (.long nn), .second, .val (.int i1), .val (.int fl), .unset, .unset, .unset, .unset] [])) _
    refine XT.bipushV X0.here hx rfl (16 : Int32) (hb hby at_29) rfl ?_
    show Steps p.tables e below (s₁.setTop (mkF m 31 #[.val (.long jn), .second, .val (.int is), .val (.int ia), .val (.int if_), .val (.int sh), .val (.long nn), .second, .val (.int i1), .val (.int fl), .unset, .unset, .unset, .unset] [(.int (16 : Int32))])) _
    refine st5 _ ?_
    show Steps p.tables e below (T5.setTop (mkF m 33 #[.val (.long jn), .second, .val (.int is), .val (.int ia), .val (.int if_), .val (.int sh), .val (.long nn), .second, .val (.int i1), .val (.int fl), .unset, .unset, .unset, .unset] [(.ref ob5)])) _
    refine XS.dup X5.here hx rfl (hb hby at_33) rfl rfl ?_
    show Steps p.tables e below (T5.setTop (mkF m 34 #[.val (.long jn), .second, .val (.int is), .val (.int ia), .val (.int if_), .val (.int sh), .val (.long nn), .second, .val (.int i1), .val (.int fl), .unset, .unset, .unset, .unset] [(.ref ob5), (.ref ob5)])) _
    refine XT.iconstV X5.here hx rfl (0 : Int32) (hb hby at_34) rfl ?_
    show Steps p.tables e below (T5.setTop (mkF m 35 #[.val (.long jn), .second, .val (.int is), .val (.int ia), .val (.int if_), .val (.int sh), .val (.long nn), .second, .val (.int i1), .val (.int fl), .unset, .unset, .unset, .unset] [(.int (0 : Int32)), (.ref ob5), (.ref ob5)])) _
    refine XS.iload X5.here hx rfl (hb hby at_35) rfl ?_
    show Steps p.tables e below (T5.setTop (mkF m 37 #[.val (.long jn), .second, .val (.int is), .val (.int ia), .val (.int if_), .val (.int sh), .val (.long nn), .second, .val (.int i1), .val (.int fl), .unset, .unset, .unset, .unset] [(.int fl), (.int (0 : Int32)), (.ref ob5), (.ref ob5)])) _
    refine st7 _ ?_
    show Steps p.tables e below (T7.setTop (mkF m 38 #[.val (.long jn), .second, .val (.int is), .val (.int ia), .val (.int if_), .val (.int sh), .val (.long nn), .second, .val (.int i1), .val (.int fl), .unset, .unset, .unset, .unset] [(.ref ob5)])) _
    refine XS.dup X7.here hx rfl (hb hby at_38) rfl rfl ?_
    show Steps p.tables e below (T7.setTop (mkF m 39 #[.val (.long jn), .second, .val (.int is), .val (.int ia), .val (.int if_), .val (.int sh), .val (.long nn), .second, .val (.int i1), .val (.int fl), .unset, .unset, .unset, .unset] [(.ref ob5), (.ref ob5)])) _
    refine XT.iconstV X7.here hx rfl (1 : Int32) (hb hby at_39) rfl ?_
    show Steps p.tables e below (T7.setTop (mkF m 40 #[.val (.long jn), .second, .val (.int is), .val (.int ia), .val (.int if_), .val (.int sh), .val (.long nn), .second, .val (.int i1), .val (.int fl), .unset, .unset, .unset, .unset] [(.int (1 : Int32)), (.ref ob5), (.ref ob5)])) _
    refine XS.iload X7.here hx rfl (hb hby at_40) rfl ?_
    show Steps p.tables e below (T7.setTop (mkF m 42 #[.val (.long jn), .second, .val (.int is), .val (.int ia), .val (.int if_), .val (.int sh), .val (.long nn), .second, .val (.int i1), .val (.int fl), .unset, .unset, .unset, .unset] [(.int fl), (.int (1 : Int32)), (.ref ob5), (.ref ob5)])) _
    refine st9 _ ?_
    show Steps p.tables e below (T9.setTop (mkF m 43 #[.val (.long jn), .second, .val (.int is), .val (.int ia), .val (.int if_), .val (.int sh), .val (.long nn), .second, .val (.int i1), .val (.int fl), .unset, .unset, .unset, .unset] [(.ref ob5)])) _
    refine XS.dup X9.here hx rfl (hb hby at_43) rfl rfl ?_
    show Steps p.tables e below (T9.setTop (mkF m 44 #[.val (.long jn), .second, .val (.int is), .val (.int ia), .val (.int if_), .val (.int sh), .val (.long nn), .second, .val (.int i1), .val (.int fl), .unset, .unset, .unset, .unset] [(.ref ob5), (.ref ob5)])) _
    refine XT.iconstV X9.here hx rfl (2 : Int32) (hb hby at_44) rfl ?_
    show Steps p.tables e below (T9.setTop (mkF m 45 #[.val (.long jn), .second, .val (.int is), .val (.int ia), .val (.int if_), .val (.int sh), .val (.long nn), .second, .val (.int i1), .val (.int fl), .unset, .unset, .unset, .unset] [(.int (2 : Int32)), (.ref ob5), (.ref ob5)])) _
    refine XS.iload X9.here hx rfl (hb hby at_45) rfl ?_
    show Steps p.tables e below (T9.setTop (mkF m 47 #[.val (.long jn), .second, .val (.int is), .val (.int ia), .val (.int if_), .val (.int sh), .val (.long nn), .second, .val (.int i1), .val (.int fl), .unset, .unset, .unset, .unset] [(.int fl), (.int (2 : Int32)), (.ref ob5), (.ref ob5)])) _
    refine st11 _ ?_
    show Steps p.tables e below (T11.setTop (mkF m 48 #[.val (.long jn), .second, .val (.int is), .val (.int ia), .val (.int if_), .val (.int sh), .val (.long nn), .second, .val (.int i1), .val (.int fl), .unset, .unset, .unset, .unset] [(.ref ob5)])) _
    refine XS.dup X11.here hx rfl (hb hby at_48) rfl rfl ?_
    show Steps p.tables e below (T11.setTop (mkF m 49 #[.val (.long jn), .second, .val (.int is), .val (.int ia), .val (.int if_), .val (.int sh), .val (.long nn), .second, .val (.int i1), .val (.int fl), .unset, .unset, .unset, .unset] [(.ref ob5), (.ref ob5)])) _
    refine XT.iconstV X11.here hx rfl (3 : Int32) (hb hby at_49) rfl ?_
    show Steps p.tables e below (T11.setTop (mkF m 50 #[.val (.long jn), .second, .val (.int is), .val (.int ia), .val (.int if_), .val (.int sh), .val (.long nn), .second, .val (.int i1), .val (.int fl), .unset, .unset, .unset, .unset] [(.int (3 : Int32)), (.ref ob5), (.ref ob5)])) _
    refine XS.iload X11.here hx rfl (hb hby at_50) rfl ?_
    show Steps p.tables e below (T11.setTop (mkF m 52 #[.val (.long jn), .second, .val (.int is), .val (.int ia), .val (.int if_), .val (.int sh), .val (.long nn), .second, .val (.int i1), .val (.int fl), .unset, .unset, .unset, .unset] [(.int fl), (.int (3 : Int32)), (.ref ob5), (.ref ob5)])) _
    refine st13 _ ?_
    show Steps p.tables e below (T13.setTop (mkF m 53 #[.val (.long jn), .second, .val (.int is), .val (.int ia), .val (.int if_), .val (.int sh), .val (.long nn), .second, .val (.int i1), .val (.int fl), .unset, .unset, .unset, .unset] [(.ref ob5)])) _
    refine XS.dup X13.here hx rfl (hb hby at_53) rfl rfl ?_
    show Steps p.tables e below (T13.setTop (mkF m 54 #[.val (.long jn), .second, .val (.int is), .val (.int ia), .val (.int if_), .val (.int sh), .val (.long nn), .second, .val (.int i1), .val (.int fl), .unset, .unset, .unset, .unset] [(.ref ob5), (.ref ob5)])) _
    refine XT.iconstV X13.here hx rfl (4 : Int32) (hb hby at_54) rfl ?_
    show Steps p.tables e below (T13.setTop (mkF m 55 #[.val (.long jn), .second, .val (.int is), .val (.int ia), .val (.int if_), .val (.int sh), .val (.long nn), .second, .val (.int i1), .val (.int fl), .unset, .unset, .unset, .unset] [(.int (4 : Int32)), (.ref ob5), (.ref ob5)])) _
    refine XS.iload X13.here hx rfl (hb hby at_55) rfl ?_
    show Steps p.tables e below (T13.setTop (mkF m 57 #[.val (.long jn), .second, .val (.int is), .val (.int ia), .val (.int if_), .val (.int sh), .val (.long nn), .second, .val (.int i1), .val (.int fl), .unset, .unset, .unset, .unset] [(.int fl), (.int (4 : Int32)), (.ref ob5), (.ref ob5)])) _
    refine st15 _ ?_
    show Steps p.tables e below (T15.setTop (mkF m 58 #[.val (.long jn), .second, .val (.int is), .val (.int ia), .val (.int if_), .val (.int sh), .val (.long nn), .second, .val (.int i1), .val (.int fl), .unset, .unset, .unset, .unset] [(.ref ob5)])) _
    refine XS.dup X15.here hx rfl (hb hby at_58) rfl rfl ?_
    show Steps p.tables e below (T15.setTop (mkF m 59 #[.val (.long jn), .second, .val (.int is), .val (.int ia), .val (.int if_), .val (.int sh), .val (.long nn), .second, .val (.int i1), .val (.int fl), .unset, .unset, .unset, .unset] [(.ref ob5), (.ref ob5)])) _
    refine XT.iconstV X15.here hx rfl (5 : Int32) (hb hby at_59) rfl ?_
    show Steps p.tables e below (T15.setTop (mkF m 60 #[.val (.long jn), .second, .val (.int is), .val (.int ia), .val (.int if_), .val (.int sh), .val (.long nn), .second, .val (.int i1), .val (.int fl), .unset, .unset, .unset, .unset] [(.int (5 : Int32)), (.ref ob5), (.ref ob5)])) _
    refine XS.iload X15.here hx rfl (hb hby at_60) rfl ?_
    show Steps p.tables e below (T15.setTop (mkF m 62 #[.val (.long jn), .second, .val (.int is), .val (.int ia), .val (.int if_), .val (.int sh), .val (.long nn), .second, .val (.int i1), .val (.int fl), .unset, .unset, .unset, .unset] [(.int fl), (.int (5 : Int32)), (.ref ob5), (.ref ob5)])) _
    refine st17 _ ?_
    show Steps p.tables e below (T17.setTop (mkF m 63 #[.val (.long jn), .second, .val (.int is), .val (.int ia), .val (.int if_), .val (.int sh), .val (.long nn), .second, .val (.int i1), .val (.int fl), .unset, .unset, .unset, .unset] [(.ref ob5)])) _
    refine XS.dup X17.here hx rfl (hb hby at_63) rfl rfl ?_
    show Steps p.tables e below (T17.setTop (mkF m 64 #[.val (.long jn), .second, .val (.int is), .val (.int ia), .val (.int if_), .val (.int sh), .val (.long nn), .second, .val (.int i1), .val (.int fl), .unset, .unset, .unset, .unset] [(.ref ob5), (.ref ob5)])) _
    refine XT.bipushV X17.here hx rfl (6 : Int32) (hb hby at_64) rfl ?_
    show Steps p.tables e below (T17.setTop (mkF m 66 #[.val (.long jn), .second, .val (.int is), .val (.int ia), .val (.int if_), .val (.int sh), .val (.long nn), .second, .val (.int i1), .val (.int fl), .unset, .unset, .unset, .unset] [(.int (6 : Int32)), (.ref ob5), (.ref ob5)])) _
    refine XS.iload X17.here hx rfl (hb hby at_66) rfl ?_
    show Steps p.tables e below (T17.setTop (mkF m 68 #[.val (.long jn), .second, .val (.int is), .val (.int ia), .val (.int if_), .val (.int sh), .val (.long nn), .second, .val (.int i1), .val (.int fl), .unset, .unset, .unset, .unset] [(.int fl), (.int (6 : Int32)), (.ref ob5), (.ref ob5)])) _
    refine st19 _ ?_
    show Steps p.tables e below (T19.setTop (mkF m 69 #[.val (.long jn), .second, .val (.int is), .val (.int ia), .val (.int if_), .val (.int sh), .val (.long nn), .second, .val (.int i1), .val (.int fl), .unset, .unset, .unset, .unset] [(.ref ob5)])) _
    refine XS.dup X19.here hx rfl (hb hby at_69) rfl rfl ?_
    show Steps p.tables e below (T19.setTop (mkF m 70 #[.val (.long jn), .second, .val (.int is), .val (.int ia), .val (.int if_), .val (.int sh), .val (.long nn), .second, .val (.int i1), .val (.int fl), .unset, .unset, .unset, .unset] [(.ref ob5), (.ref ob5)])) _
    refine XT.bipushV X19.here hx rfl (7 : Int32) (hb hby at_70) rfl ?_
    show Steps p.tables e below (T19.setTop (mkF m 72 #[.val (.long jn), .second, .val (.int is), .val (.int ia), .val (.int if_), .val (.int sh), .val (.long nn), .second, .val (.int i1), .val (.int fl), .unset, .unset, .unset, .unset] [(.int (7 : Int32)), (.ref ob5), (.ref ob5)])) _
    refine XS.iload X19.here hx rfl (hb hby at_72) rfl ?_
    show Steps p.tables e below (T19.setTop (mkF m 74 #[.val (.long jn), .second, .val (.int is), .val (.int ia), .val (.int if_), .val (.int sh), .val (.long nn), .second, .val (.int i1), .val (.int fl), .unset, .unset, .unset, .unset] [(.int fl), (.int (7 : Int32)), (.ref ob5), (.ref ob5)])) _
    refine st21 _ ?_
    show Steps p.tables e below (T21.setTop (mkF m 75 #[.val (.long jn), .second, .val (.int is), .val (.int ia), .val (.int if_), .val (.int sh), .val (.long nn), .second, .val (.int i1), .val (.int fl), .unset, .unset, .unset, .unset] [(.ref ob5)])) _
    refine XS.dup X21.here hx rfl (hb hby at_75) rfl rfl ?_
    show Steps p.tables e below (T21.setTop (mkF m 76 #[.val (.long jn), .second, .val (.int is), .val (.int ia), .val (.int if_), .val (.int sh), .val (.long nn), .second, .val (.int i1), .val (.int fl), .unset, .unset, .unset, .unset] [(.ref ob5), (.ref ob5)])) _
    refine XT.bipushV X21.here hx rfl (8 : Int32) (hb hby at_76) rfl ?_
    show Steps p.tables e below (T21.setTop (mkF m 78 #[.val (.long jn), .second, .val (.int is), .val (.int ia), .val (.int if_), .val (.int sh), .val (.long nn), .second, .val (.int i1), .val (.int fl), .unset, .unset, .unset, .unset] [(.int (8 : Int32)), (.ref ob5), (.ref ob5)])) _
    refine XS.iload X21.here hx rfl (hb hby at_78) rfl ?_
    show Steps p.tables e below (T21.setTop (mkF m 80 #[.val (.long jn), .second, .val (.int is), .val (.int ia), .val (.int if_), .val (.int sh), .val (.long nn), .second, .val (.int i1), .val (.int fl), .unset, .unset, .unset, .unset] [(.int fl), (.int (8 : Int32)), (.ref ob5), (.ref ob5)])) _
    refine st23 _ ?_
    show Steps p.tables e below (T23.setTop (mkF m 81 #[.val (.long jn), .second, .val (.int is), .val (.int ia), .val (.int if_), .val (.int sh), .val (.long nn), .second, .val (.int i1), .val (.int fl), .unset, .unset, .unset, .unset] [(.ref ob5)])) _
    refine XS.dup X23.here hx rfl (hb hby at_81) rfl rfl ?_
    show Steps p.tables e below (T23.setTop (mkF m 82 #[.val (.long jn), .second, .val (.int is), .val (.int ia), .val (.int if_), .val (.int sh), .val (.long nn), .second, .val (.int i1), .val (.int fl), .unset, .unset, .unset, .unset] [(.ref ob5), (.ref ob5)])) _
    refine XT.bipushV X23.here hx rfl (9 : Int32) (hb hby at_82) rfl ?_
    show Steps p.tables e below (T23.setTop (mkF m 84 #[.val (.long jn), .second, .val (.int is), .val (.int ia), .val (.int if_), .val (.int sh), .val (.long nn), .second, .val (.int i1), .val (.int fl), .unset, .unset, .unset, .unset] [(.int (9 : Int32)), (.ref ob5), (.ref ob5)])) _
    refine XS.iload X23.here hx rfl (hb hby at_84) rfl ?_
    show Steps p.tables e below (T23.setTop (mkF m 86 #[.val (.long jn), .second, .val (.int is), .val (.int ia), .val (.int if_), .val (.int sh), .val (.long nn), .second, .val (.int i1), .val (.int fl), .unset, .unset, .unset, .unset] [(.int fl), (.int (9 : Int32)), (.ref ob5), (.ref ob5)])) _
    refine st25 _ ?_
    show Steps p.tables e below (T25.setTop (mkF m 87 #[.val (.long jn), .second, .val (.int is), .val (.int ia), .val (.int if_), .val (.int sh), .val (.long nn), .second, .val (.int i1), .val (.int fl), .unset, .unset, .unset, .unset] [(.ref ob5)])) _
    refine XS.dup X25.here hx rfl (hb hby at_87) rfl rfl ?_
    show Steps p.tables e below (T25.setTop (mkF m 88 #[.val (.long jn), .second, .val (.int is), .val (.int ia), .val (.int if_), .val (.int sh), .val (.long nn), .second, .val (.int i1), .val (.int fl), .unset, .unset, .unset, .unset] [(.ref ob5), (.ref ob5)])) _
    refine XT.bipushV X25.here hx rfl (10 : Int32) (hb hby at_88) rfl ?_
    show Steps p.tables e below (T25.setTop (mkF m 90 #[.val (.long jn), .second, .val (.int is), .val (.int ia), .val (.int if_), .val (.int sh), .val (.long nn), .second, .val (.int i1), .val (.int fl), .unset, .unset, .unset, .unset] [(.int (10 : Int32)), (.ref ob5), (.ref ob5)])) _
    refine XS.iload X25.here hx rfl (hb hby at_90) rfl ?_
    show Steps p.tables e below (T25.setTop (mkF m 92 #[.val (.long jn), .second, .val (.int is), .val (.int ia), .val (.int if_), .val (.int sh), .val (.long nn), .second, .val (.int i1), .val (.int fl), .unset, .unset, .unset, .unset] [(.int fl), (.int (10 : Int32)), (.ref ob5), (.ref ob5)])) _
    refine st27 _ ?_
    show Steps p.tables e below (T27.setTop (mkF m 93 #[.val (.long jn), .second, .val (.int is), .val (.int ia), .val (.int if_), .val (.int sh), .val (.long nn), .second, .val (.int i1), .val (.int fl), .unset, .unset, .unset, .unset] [(.ref ob5)])) _
    refine XS.dup X27.here hx rfl (hb hby at_93) rfl rfl ?_
    show Steps p.tables e below (T27.setTop (mkF m 94 #[.val (.long jn), .second, .val (.int is), .val (.int ia), .val (.int if_), .val (.int sh), .val (.long nn), .second, .val (.int i1), .val (.int fl), .unset, .unset, .unset, .unset] [(.ref ob5), (.ref ob5)])) _
    refine XT.bipushV X27.here hx rfl (11 : Int32) (hb hby at_94) rfl ?_
    show Steps p.tables e below (T27.setTop (mkF m 96 #[.val (.long jn), .second, .val (.int is), .val (.int ia), .val (.int if_), .val (.int sh), .val (.long nn), .second, .val (.int i1), .val (.int fl), .unset, .unset, .unset, .unset] [(.int (11 : Int32)), (.ref ob5), (.ref ob5)])) _
    refine XS.iload X27.here hx rfl (hb hby at_96) rfl ?_
    show Steps p.tables e below (T27.setTop (mkF m 98 #[.val (.long jn), .second, .val (.int is), .val (.int ia), .val (.int if_), .val (.int sh), .val (.long nn), .second, .val (.int i1), .val (.int fl), .unset, .unset, .unset, .unset] [(.int fl), (.int (11 : Int32)), (.ref ob5), (.ref ob5)])) _
    refine st29 _ ?_
    show Steps p.tables e below (T29.setTop (mkF m 99 #[.val (.long jn), .second, .val (.int is), .val (.int ia), .val (.int if_), .val (.int sh), .val (.long nn), .second, .val (.int i1), .val (.int fl), .unset, .unset, .unset, .unset] [(.ref ob5)])) _
    refine XS.dup X29.here hx rfl (hb hby at_99) rfl rfl ?_
    show Steps p.tables e below (T29.setTop (mkF m 100 #[.val (.long jn), .second, .val (.int is), .val (.int ia), .val (.int if_), .val (.int sh), .val (.long nn), .second, .val (.int i1), .val (.int fl), .unset, .unset, .unset, .unset] [(.ref ob5), (.ref ob5)])) _
    refine XT.bipushV X29.here hx rfl (12 : Int32) (hb hby at_100) rfl ?_
    show Steps p.tables e below (T29.setTop (mkF m 102 #[.val (.long jn), .second, .val (.int is), .val (.int ia), .val (.int if_), .val (.int sh), .val (.long nn), .second, .val (.int i1), .val (.int fl), .unset, .unset, .unset, .unset] [(.int (12 : Int32)), (.ref ob5), (.ref ob5)])) _
    refine XS.iload X29.here hx rfl (hb hby at_102) rfl ?_
    show Steps p.tables e below (T29.setTop (mkF m 104 #[.val (.long jn), .second, .val (.int is), .val (.int ia), .val (.int if_), .val (.int sh), .val (.long nn), .second, .val (.int i1), .val (.int fl), .unset, .unset, .unset, .unset] [(.int fl), (.int (12 : Int32)), (.ref ob5), (.ref ob5)])) _
    refine st31 _ ?_
    show Steps p.tables e below (T31.setTop (mkF m 105 #[.val (.long jn), .second, .val (.int is), .val (.int ia), .val (.int if_), .val (.int sh), .val (.long nn), .second, .val (.int i1), .val (.int fl), .unset, .unset, .unset, .unset] [(.ref ob5)])) _
    refine XS.dup X31.here hx rfl (hb hby at_105) rfl rfl ?_
    show Steps p.tables e below (T31.setTop (mkF m 106 #[.val (.long jn), .second, .val (.int is), .val (.int ia), .val (.int if_), .val (.int sh), .val (.long nn), .second, .val (.int i1), .val (.int fl), .unset, .unset, .unset, .unset] [(.ref ob5), (.ref ob5)])) _
    refine XT.bipushV X31.here hx rfl (13 : Int32) (hb hby at_106) rfl ?_
    show Steps p.tables e below (T31.setTop (mkF m 108 #[.val (.long jn), .second, .val (.int is), .val (.int ia), .val (.int if_), .val (.int sh), .val (.long nn), .second, .val (.int i1), .val (.int fl), .unset, .unset, .unset, .unset] [(.int (13 : Int32)), (.ref ob5), (.ref ob5)])) _
    refine XS.iload X31.here hx rfl (hb hby at_108) rfl ?_
    show Steps p.tables e below (T31.setTop (mkF m 110 #[.val (.long jn), .second, .val (.int is), .val (.int ia), .val (.int if_), .val (.int sh), .val (.long nn), .second, .val (.int i1), .val (.int fl), .unset, .unset, .unset, .unset] [(.int fl), (.int (13 : Int32)), (.ref ob5), (.ref ob5)])) _
    refine st33 _ ?_
    show Steps p.tables e below (T33.setTop (mkF m 111 #[.val (.long jn), .second, .val (.int is), .val (.int ia), .val (.int if_), .val (.int sh), .val (.long nn), .second, .val (.int i1), .val (.int fl), .unset, .unset, .unset, .unset] [(.ref ob5)])) _
    refine XS.dup X33.here hx rfl (hb hby at_111) rfl rfl ?_
    show Steps p.tables e below (T33.setTop (mkF m 112 #[.val (.long jn), .second, .val (.int is), .val (.int ia), .val (.int if_), .val (.int sh), .val (.long nn), .second, .val (.int i1), .val (.int fl), .unset, .unset, .unset, .unset] [(.ref ob5), (.ref ob5)])) _
    refine XT.bipushV X33.here hx rfl (14 : Int32) (hb hby at_112) rfl ?_
    show Steps p.tables e below (T33.setTop (mkF m 114 #[.val (.long jn), .second, .val (.int is), .val (.int ia), .val (.int if_), .val (.int sh), .val (.long nn), .second, .val (.int i1), .val (.int fl), .unset, .unset, .unset, .unset] [(.int (14 : Int32)), (.ref ob5), (.ref ob5)])) _
    refine XS.iload X33.here hx rfl (hb hby at_114) rfl ?_
    show Steps p.tables e below (T33.setTop (mkF m 116 #[.val (.long jn), .second, .val (.int is), .val (.int ia), .val (.int if_), .val (.int sh), .val (.long nn), .second, .val (.int i1), .val (.int fl), .unset, .unset, .unset, .unset] [(.int fl), (.int (14 : Int32)), (.ref ob5), (.ref ob5)])) _
    refine st35 _ ?_
    show Steps p.tables e below (T35.setTop (mkF m 117 #[.val (.long jn), .second, .val (.int is), .val (.int ia), .val (.int if_), .val (.int sh), .val (.long nn), .second, .val (.int i1), .val (.int fl), .unset, .unset, .unset, .unset] [(.ref ob5)])) _
    refine XS.dup X35.here hx rfl (hb hby at_117) rfl rfl ?_
    show Steps p.tables e below (T35.setTop (mkF m 118 #[.val (.long jn), .second, .val (.int is), .val (.int ia), .val (.int if_), .val (.int sh), .val (.long nn), .second, .val (.int i1), .val (.int fl), .unset, .unset, .unset, .unset] [(.ref ob5), (.ref ob5)])) _
    refine XT.bipushV X35.here hx rfl (15 : Int32) (hb hby at_118) rfl ?_
    show Steps p.tables e below (T35.setTop (mkF m 120 #[.val (.long jn), .second, .val (.int is), .val (.int ia), .val (.int if_), .val (.int sh), .val (.long nn), .second, .val (.int i1), .val (.int fl), .unset, .unset, .unset, .unset] [(.int (15 : Int32)), (.ref ob5), (.ref ob5)])) _
    refine XS.iload X35.here hx rfl (hb hby at_120) rfl ?_
    show Steps p.tables e below (T35.setTop (mkF m 122 #[.val (.long jn), .second, .val (.int is), .val (.int ia), .val (.int if_), .val (.int sh), .val (.long nn), .second, .val (.int i1), .val (.int fl), .unset, .unset, .unset, .unset] [(.int fl), (.int (15 : Int32)), (.ref ob5), (.ref ob5)])) _
    refine st37 _ ?_
    show Steps p.tables e below (T37.setTop (mkF m 123 #[.val (.long jn), .second, .val (.int is), .val (.int ia), .val (.int if_), .val (.int sh), .val (.long nn), .second, .val (.int i1), .val (.int fl), .unset, .unset, .unset, .unset] [(.ref ob5)])) _
    refine XS.astore X37.here hx rfl (hb hby at_123) rfl rfl (l' := #[.val (.long jn), .second, .val (.int is), .val (.int ia), .val (.int if_), .val (.int sh), .val (.long nn), .second, .val (.int i1), .val (.int fl), .val (.ref ob5), .unset, .unset, .unset]) rfl ?_
    show Steps p.tables e below (T37.setTop (mkF m 125 #[.val (.long jn), .second, .val (.int is), .val (.int ia), .val (.int if_), .val (.int sh), .val (.long nn), .second, .val (.int i1), .val (.int fl), .val (.ref ob5), .unset, .unset, .unset] [])) _
    refine XT.lload X37.here hx rfl (hb hby at_125) rfl ?_
    show Steps p.tables e below (T37.setTop (mkF m 127 #[.val (.long jn), .second, .val (.int is), .val (.int ia), .val (.int if_), .val (.int sh), .val (.long nn), .second, .val (.int i1), .val (.int fl), .val (.ref ob5), .unset, .unset, .unset] [(.long nn)])) _
    refine st40 _ ?_
    show Steps p.tables e below (T40.setTop (mkF m 130 #[.val (.long jn), .second, .val (.int is), .val (.int ia), .val (.int if_), .val (.int sh), .val (.long nn), .second, .val (.int i1), .val (.int fl), .val (.ref ob5), .unset, .unset, .unset] [(.int (own_size nn))])) _
    refine XS.istore X40.here hx rfl (hb hby at_130) rfl (l' := #[.val (.long jn), .second, .val (.int is), .val (.int ia), .val (.int if_), .val (.int sh), .val (.long nn), .second, .val (.int i1), .val (.int fl), .val (.ref ob5), .val (.int (own_size nn)), .unset, .unset]) rfl ?_
    show Steps p.tables e below (T40.setTop (mkF m 132 #[.val (.long jn), .second, .val (.int is), .val (.int ia), .val (.int if_), .val (.int sh), .val (.long nn), .second, .val (.int i1), .val (.int fl), .val (.ref ob5), .val (.int (own_size nn)), .unset, .unset] [])) _
    refine XT.lload X40.here hx rfl (hb hby at_132) rfl ?_
    show Steps p.tables e below (T40.setTop (mkF m 134 #[.val (.long jn), .second, .val (.int is), .val (.int ia), .val (.int if_), .val (.int sh), .val (.long nn), .second, .val (.int i1), .val (.int fl), .val (.ref ob5), .val (.int (own_size nn)), .unset, .unset] [(.long nn)])) _
    refine XS.aload X40.here hx rfl (hb hby at_134) rfl rfl ?_
    show Steps p.tables e below (T40.setTop (mkF m 136 #[.val (.long jn), .second, .val (.int is), .val (.int ia), .val (.int if_), .val (.int sh), .val (.long nn), .second, .val (.int i1), .val (.int fl), .val (.ref ob5), .val (.int (own_size nn)), .unset, .unset] [(.ref ob5), (.long nn)])) _
    refine XS.iload X40.here hx rfl (hb hby at_136) rfl ?_
    show Steps p.tables e below (T40.setTop (mkF m 138 #[.val (.long jn), .second, .val (.int is), .val (.int ia), .val (.int if_), .val (.int sh), .val (.long nn), .second, .val (.int i1), .val (.int fl), .val (.ref ob5), .val (.int (own_size nn)), .unset, .unset] [(.int i1), (.ref ob5), (.long nn)])) _
    refine st41 _ ?_
    show Steps p.tables e below (T41.setTop (mkF m 141 #[.val (.long jn), .second, .val (.int is), .val (.int ia), .val (.int if_), .val (.int sh), .val (.long nn), .second, .val (.int i1), .val (.int fl), .val (.ref ob5), .val (.int (own_size nn)), .unset, .unset] [(.int (own_end nn i1))])) _
    refine XS.istore X41.here hx rfl (hb hby at_141) rfl (l' := #[.val (.long jn), .second, .val (.int is), .val (.int ia), .val (.int if_), .val (.int sh), .val (.long nn), .second, .val (.int i1), .val (.int fl), .val (.ref ob5), .val (.int (own_size nn)), .val (.int (own_end nn i1)), .unset]) rfl ?_
    show Steps p.tables e below (T41.setTop (mkF m 143 #[.val (.long jn), .second, .val (.int is), .val (.int ia), .val (.int if_), .val (.int sh), .val (.long nn), .second, .val (.int i1), .val (.int fl), .val (.ref ob5), .val (.int (own_size nn)), .val (.int (own_end nn i1)), .unset] [])) _
    refine XS.iload X41.here hx rfl (hb hby at_143) rfl ?_
    show Steps p.tables e below (T41.setTop (mkF m 145 #[.val (.long jn), .second, .val (.int is), .val (.int ia), .val (.int if_), .val (.int sh), .val (.long nn), .second, .val (.int i1), .val (.int fl), .val (.ref ob5), .val (.int (own_size nn)), .val (.int (own_end nn i1)), .unset] [(.int (own_end nn i1))])) _
    refine XS.iload X41.here hx rfl (hb hby at_145) rfl ?_
    show Steps p.tables e below (T41.setTop (mkF m 147 #[.val (.long jn), .second, .val (.int is), .val (.int ia), .val (.int if_), .val (.int sh), .val (.long nn), .second, .val (.int i1), .val (.int fl), .val (.ref ob5), .val (.int (own_size nn)), .val (.int (own_end nn i1)), .unset] [(.int i1), (.int (own_end nn i1))])) _
    refine XS.iload X41.here hx rfl (hb hby at_147) rfl ?_
    show Steps p.tables e below (T41.setTop (mkF m 149 #[.val (.long jn), .second, .val (.int is), .val (.int ia), .val (.int if_), .val (.int sh), .val (.long nn), .second, .val (.int i1), .val (.int fl), .val (.ref ob5), .val (.int (own_size nn)), .val (.int (own_end nn i1)), .unset] [(.int (own_size nn)), (.int i1), (.int (own_end nn i1))])) _
    refine XS.iadd X41.here hx rfl (hb hby at_149) rfl ?_
    show Steps p.tables e below (T41.setTop (mkF m 150 #[.val (.long jn), .second, .val (.int is), .val (.int ia), .val (.int if_), .val (.int sh), .val (.long nn), .second, .val (.int i1), .val (.int fl), .val (.ref ob5), .val (.int (own_size nn)), .val (.int (own_end nn i1)), .unset] [(.int (i1 + (own_size nn))), (.int (own_end nn i1))])) _
    refine XS.icmpNo X41.here hx rfl (hb hby at_150) rfl (XT.ii_ne_f hend) ?_
    show Steps p.tables e below (T41.setTop (mkF m 153 #[.val (.long jn), .second, .val (.int is), .val (.int ia), .val (.int if_), .val (.int sh), .val (.long nn), .second, .val (.int i1), .val (.int fl), .val (.ref ob5), .val (.int (own_size nn)), .val (.int (own_end nn i1)), .unset] [])) _
    refine XT.iconstV X41.here hx rfl (1 : Int32) (hb hby at_153) rfl ?_
    show Steps p.tables e below (T41.setTop (mkF m 154 #[.val (.long jn), .second, .val (.int is), .val (.int ia), .val (.int if_), .val (.int sh), .val (.long nn), .second, .val (.int i1), .val (.int fl), .val (.ref ob5), .val (.int (own_size nn)), .val (.int (own_end nn i1)), .unset] [(.int (1 : Int32))])) _
    refine XS.goto X41.here hx rfl (pc0 := 154) (pc' := 158) rfl (hb hby at_154) (by decide) (by decide) ?_
    show Steps p.tables e below (T41.setTop (mkF m 158 #[.val (.long jn), .second, .val (.int is), .val (.int ia), .val (.int if_), .val (.int sh), .val (.long nn), .second, .val (.int i1), .val (.int fl), .val (.ref ob5), .val (.int (own_size nn)), .val (.int (own_end nn i1)), .unset] [(.int (1 : Int32))])) _
    refine XS.istore X41.here hx rfl (hb hby at_158) rfl (l' := #[.val (.long jn), .second, .val (.int is), .val (.int ia), .val (.int if_), .val (.int sh), .val (.long nn), .second, .val (.int i1), .val (.int fl), .val (.ref ob5), .val (.int (own_size nn)), .val (.int (own_end nn i1)), .val (.int (1 : Int32))]) rfl ?_
    show Steps p.tables e below (T41.setTop (mkF m 160 #[.val (.long jn), .second, .val (.int is), .val (.int ia), .val (.int if_), .val (.int sh), .val (.long nn), .second, .val (.int i1), .val (.int fl), .val (.ref ob5), .val (.int (own_size nn)), .val (.int (own_end nn i1)), .val (.int (1 : Int32))] [])) _
    refine XS.iload X41.here hx rfl (hb hby at_160) rfl ?_
    show Steps p.tables e below (T41.setTop (mkF m 162 #[.val (.long jn), .second, .val (.int is), .val (.int ia), .val (.int if_), .val (.int sh), .val (.long nn), .second, .val (.int i1), .val (.int fl), .val (.ref ob5), .val (.int (own_size nn)), .val (.int (own_end nn i1)), .val (.int (1 : Int32))] [(.int (1 : Int32))])) _
    refine XS.ifNo X41.here hx rfl (hb hby at_162) rfl (XT.i0_eq_f (by decide)) ?_
    show Steps p.tables e below (T41.setTop (mkF m 165 #[.val (.long jn), .second, .val (.int is), .val (.int ia), .val (.int if_), .val (.int sh), .val (.long nn), .second, .val (.int i1), .val (.int fl), .val (.ref ob5), .val (.int (own_size nn)), .val (.int (own_end nn i1)), .val (.int (1 : Int32))] [])) _
    refine XS.aload X41.here hx rfl (hb hby at_165) rfl rfl ?_
    show Steps p.tables e below (T41.setTop (mkF m 167 #[.val (.long jn), .second, .val (.int is), .val (.int ia), .val (.int if_), .val (.int sh), .val (.long nn), .second, .val (.int i1), .val (.int fl), .val (.ref ob5), .val (.int (own_size nn)), .val (.int (own_end nn i1)), .val (.int (1 : Int32))] [(.ref ob5)])) _
    refine XT.iconstV X41.here hx rfl (0 : Int32) (hb hby at_167) rfl ?_
    show Steps p.tables e below (T41.setTop (mkF m 168 #[.val (.long jn), .second, .val (.int is), .val (.int ia), .val (.int if_), .val (.int sh), .val (.long nn), .second, .val (.int i1), .val (.int fl), .val (.ref ob5), .val (.int (own_size nn)), .val (.int (own_end nn i1)), .val (.int (1 : Int32))] [(.int (0 : Int32)), (.ref ob5)])) _
    refine XT.lload X41.here hx rfl (hb hby at_168) rfl ?_
    show Steps p.tables e below (T41.setTop (mkF m 170 #[.val (.long jn), .second, .val (.int is), .val (.int ia), .val (.int if_), .val (.int sh), .val (.long nn), .second, .val (.int i1), .val (.int fl), .val (.ref ob5), .val (.int (own_size nn)), .val (.int (own_end nn i1)), .val (.int (1 : Int32))] [(.long nn), (.int (0 : Int32)), (.ref ob5)])) _
    refine XS.iload X41.here hx rfl (hb hby at_170) rfl ?_
    show Steps p.tables e below (T41.setTop (mkF m 172 #[.val (.long jn), .second, .val (.int is), .val (.int ia), .val (.int if_), .val (.int sh), .val (.long nn), .second, .val (.int i1), .val (.int fl), .val (.ref ob5), .val (.int (own_size nn)), .val (.int (own_end nn i1)), .val (.int (1 : Int32))] [(.int (own_size nn)), (.long nn), (.int (0 : Int32)), (.ref ob5)])) _
    refine XS.iload X41.here hx rfl (hb hby at_172) rfl ?_
    show Steps p.tables e below (T41.setTop (mkF m 174 #[.val (.long jn), .second, .val (.int is), .val (.int ia), .val (.int if_), .val (.int sh), .val (.long nn), .second, .val (.int i1), .val (.int fl), .val (.ref ob5), .val (.int (own_size nn)), .val (.int (own_end nn i1)), .val (.int (1 : Int32))] [(.int i1), (.int (own_size nn)), (.long nn), (.int (0 : Int32)), (.ref ob5)])) _
    refine XS.iload X41.here hx rfl (hb hby at_174) rfl ?_
    show Steps p.tables e below (T41.setTop (mkF m 176 #[.val (.long jn), .second, .val (.int is), .val (.int ia), .val (.int if_), .val (.int sh), .val (.long nn), .second, .val (.int i1), .val (.int fl), .val (.ref ob5), .val (.int (own_size nn)), .val (.int (own_end nn i1)), .val (.int (1 : Int32))] [(.int fl), (.int i1), (.int (own_size nn)), (.long nn), (.int (0 : Int32)), (.ref ob5)])) _
    refine st42 _ ?_
    show Steps p.tables e below (T42.setTop (mkF m 179 #[.val (.long jn), .second, .val (.int is), .val (.int ia), .val (.int if_), .val (.int sh), .val (.long nn), .second, .val (.int i1), .val (.int fl), .val (.ref ob5), .val (.int (own_size nn)), .val (.int (own_end nn i1)), .val (.int (1 : Int32))] [(.int (1 : Int32))])) _
    refine XS.ifNo X42.here hx rfl (hb hby at_179) rfl (XT.i0_eq_f (by decide)) ?_
    show Steps p.tables e below (T42.setTop (mkF m 182 #[.val (.long jn), .second, .val (.int is), .val (.int ia), .val (.int if_), .val (.int sh), .val (.long nn), .second, .val (.int i1), .val (.int fl), .val (.ref ob5), .val (.int (own_size nn)), .val (.int (own_end nn i1)), .val (.int (1 : Int32))] [])) _
    refine XT.iconstV X42.here hx rfl (1 : Int32) (hb hby at_182) rfl ?_
    show Steps p.tables e below (T42.setTop (mkF m 183 #[.val (.long jn), .second, .val (.int is), .val (.int ia), .val (.int if_), .val (.int sh), .val (.long nn), .second, .val (.int i1), .val (.int fl), .val (.ref ob5), .val (.int (own_size nn)), .val (.int (own_end nn i1)), .val (.int (1 : Int32))] [(.int (1 : Int32))])) _
    refine XS.goto X42.here hx rfl (pc0 := 183) (pc' := 187) rfl (hb hby at_183) (by decide) (by decide) ?_
    show Steps p.tables e below (T42.setTop (mkF m 187 #[.val (.long jn), .second, .val (.int is), .val (.int ia), .val (.int if_), .val (.int sh), .val (.long nn), .second, .val (.int i1), .val (.int fl), .val (.ref ob5), .val (.int (own_size nn)), .val (.int (own_end nn i1)), .val (.int (1 : Int32))] [(.int (1 : Int32))])) _
    refine XS.istore X42.here hx rfl (hb hby at_187) rfl (l' := #[.val (.long jn), .second, .val (.int is), .val (.int ia), .val (.int if_), .val (.int sh), .val (.long nn), .second, .val (.int i1), .val (.int fl), .val (.ref ob5), .val (.int (own_size nn)), .val (.int (own_end nn i1)), .val (.int (1 : Int32))]) rfl ?_
    show Steps p.tables e below (T42.setTop (mkF m 189 #[.val (.long jn), .second, .val (.int is), .val (.int ia), .val (.int if_), .val (.int sh), .val (.long nn), .second, .val (.int i1), .val (.int fl), .val (.ref ob5), .val (.int (own_size nn)), .val (.int (own_end nn i1)), .val (.int (1 : Int32))] [])) _
    refine XS.iload X42.here hx rfl (hb hby at_189) rfl ?_
    show Steps p.tables e below (T42.setTop (mkF m 191 #[.val (.long jn), .second, .val (.int is), .val (.int ia), .val (.int if_), .val (.int sh), .val (.long nn), .second, .val (.int i1), .val (.int fl), .val (.ref ob5), .val (.int (own_size nn)), .val (.int (own_end nn i1)), .val (.int (1 : Int32))] [(.int (1 : Int32))])) _
    refine XS.ifNo X42.here hx rfl (hb hby at_191) rfl (XT.i0_eq_f (by decide)) ?_
    show Steps p.tables e below (T42.setTop (mkF m 194 #[.val (.long jn), .second, .val (.int is), .val (.int ia), .val (.int if_), .val (.int sh), .val (.long nn), .second, .val (.int i1), .val (.int fl), .val (.ref ob5), .val (.int (own_size nn)), .val (.int (own_end nn i1)), .val (.int (1 : Int32))] [])) _
    refine XS.aload X42.here hx rfl (hb hby at_194) rfl rfl ?_
    show Steps p.tables e below (T42.setTop (mkF m 196 #[.val (.long jn), .second, .val (.int is), .val (.int ia), .val (.int if_), .val (.int sh), .val (.long nn), .second, .val (.int i1), .val (.int fl), .val (.ref ob5), .val (.int (own_size nn)), .val (.int (own_end nn i1)), .val (.int (1 : Int32))] [(.ref ob5)])) _
    refine XT.iconstV X42.here hx rfl (1 : Int32) (hb hby at_196) rfl ?_
    show Steps p.tables e below (T42.setTop (mkF m 197 #[.val (.long jn), .second, .val (.int is), .val (.int ia), .val (.int if_), .val (.int sh), .val (.long nn), .second, .val (.int i1), .val (.int fl), .val (.ref ob5), .val (.int (own_size nn)), .val (.int (own_end nn i1)), .val (.int (1 : Int32))] [(.int (1 : Int32)), (.ref ob5)])) _
    refine XT.lload X42.here hx rfl (hb hby at_197) rfl ?_
    show Steps p.tables e below (T42.setTop (mkF m 199 #[.val (.long jn), .second, .val (.int is), .val (.int ia), .val (.int if_), .val (.int sh), .val (.long nn), .second, .val (.int i1), .val (.int fl), .val (.ref ob5), .val (.int (own_size nn)), .val (.int (own_end nn i1)), .val (.int (1 : Int32))] [(.long nn), (.int (1 : Int32)), (.ref ob5)])) _
    refine XS.iload X42.here hx rfl (hb hby at_199) rfl ?_
    show Steps p.tables e below (T42.setTop (mkF m 201 #[.val (.long jn), .second, .val (.int is), .val (.int ia), .val (.int if_), .val (.int sh), .val (.long nn), .second, .val (.int i1), .val (.int fl), .val (.ref ob5), .val (.int (own_size nn)), .val (.int (own_end nn i1)), .val (.int (1 : Int32))] [(.int (own_size nn)), (.long nn), (.int (1 : Int32)), (.ref ob5)])) _
    refine XS.iload X42.here hx rfl (hb hby at_201) rfl ?_
    show Steps p.tables e below (T42.setTop (mkF m 203 #[.val (.long jn), .second, .val (.int is), .val (.int ia), .val (.int if_), .val (.int sh), .val (.long nn), .second, .val (.int i1), .val (.int fl), .val (.ref ob5), .val (.int (own_size nn)), .val (.int (own_end nn i1)), .val (.int (1 : Int32))] [(.int i1), (.int (own_size nn)), (.long nn), (.int (1 : Int32)), (.ref ob5)])) _
    refine XS.iload X42.here hx rfl (hb hby at_203) rfl ?_
    show Steps p.tables e below (T42.setTop (mkF m 205 #[.val (.long jn), .second, .val (.int is), .val (.int ia), .val (.int if_), .val (.int sh), .val (.long nn), .second, .val (.int i1), .val (.int fl), .val (.ref ob5), .val (.int (own_size nn)), .val (.int (own_end nn i1)), .val (.int (1 : Int32))] [(.int fl), (.int i1), (.int (own_size nn)), (.long nn), (.int (1 : Int32)), (.ref ob5)])) _
    refine st43 _ ?_
    show Steps p.tables e below (T43.setTop (mkF m 208 #[.val (.long jn), .second, .val (.int is), .val (.int ia), .val (.int if_), .val (.int sh), .val (.long nn), .second, .val (.int i1), .val (.int fl), .val (.ref ob5), .val (.int (own_size nn)), .val (.int (own_end nn i1)), .val (.int (1 : Int32))] [(.int (1 : Int32))])) _
    refine XS.ifNo X43.here hx rfl (hb hby at_208) rfl (XT.i0_eq_f (by decide)) ?_
    show Steps p.tables e below (T43.setTop (mkF m 211 #[.val (.long jn), .second, .val (.int is), .val (.int ia), .val (.int if_), .val (.int sh), .val (.long nn), .second, .val (.int i1), .val (.int fl), .val (.ref ob5), .val (.int (own_size nn)), .val (.int (own_end nn i1)), .val (.int (1 : Int32))] [])) _
    refine XT.iconstV X43.here hx rfl (1 : Int32) (hb hby at_211) rfl ?_
    show Steps p.tables e below (T43.setTop (mkF m 212 #[.val (.long jn), .second, .val (.int is), .val (.int ia), .val (.int if_), .val (.int sh), .val (.long nn), .second, .val (.int i1), .val (.int fl), .val (.ref ob5), .val (.int (own_size nn)), .val (.int (own_end nn i1)), .val (.int (1 : Int32))] [(.int (1 : Int32))])) _
    refine XS.goto X43.here hx rfl (pc0 := 212) (pc' := 216) rfl (hb hby at_212) (by decide) (by decide) ?_
    show Steps p.tables e below (T43.setTop (mkF m 216 #[.val (.long jn), .second, .val (.int is), .val (.int ia), .val (.int if_), .val (.int sh), .val (.long nn), .second, .val (.int i1), .val (.int fl), .val (.ref ob5), .val (.int (own_size nn)), .val (.int (own_end nn i1)), .val (.int (1 : Int32))] [(.int (1 : Int32))])) _
    refine XS.istore X43.here hx rfl (hb hby at_216) rfl (l' := #[.val (.long jn), .second, .val (.int is), .val (.int ia), .val (.int if_), .val (.int sh), .val (.long nn), .second, .val (.int i1), .val (.int fl), .val (.ref ob5), .val (.int (own_size nn)), .val (.int (own_end nn i1)), .val (.int (1 : Int32))]) rfl ?_
    show Steps p.tables e below (T43.setTop (mkF m 218 #[.val (.long jn), .second, .val (.int is), .val (.int ia), .val (.int if_), .val (.int sh), .val (.long nn), .second, .val (.int i1), .val (.int fl), .val (.ref ob5), .val (.int (own_size nn)), .val (.int (own_end nn i1)), .val (.int (1 : Int32))] [])) _
    refine XS.iload X43.here hx rfl (hb hby at_218) rfl ?_
    show Steps p.tables e below (T43.setTop (mkF m 220 #[.val (.long jn), .second, .val (.int is), .val (.int ia), .val (.int if_), .val (.int sh), .val (.long nn), .second, .val (.int i1), .val (.int fl), .val (.ref ob5), .val (.int (own_size nn)), .val (.int (own_end nn i1)), .val (.int (1 : Int32))] [(.int (1 : Int32))])) _
    refine XS.ifNo X43.here hx rfl (hb hby at_220) rfl (XT.i0_eq_f (by decide)) ?_
    show Steps p.tables e below (T43.setTop (mkF m 223 #[.val (.long jn), .second, .val (.int is), .val (.int ia), .val (.int if_), .val (.int sh), .val (.long nn), .second, .val (.int i1), .val (.int fl), .val (.ref ob5), .val (.int (own_size nn)), .val (.int (own_end nn i1)), .val (.int (1 : Int32))] [])) _
    refine XS.aload X43.here hx rfl (hb hby at_223) rfl rfl ?_
    show Steps p.tables e below (T43.setTop (mkF m 225 #[.val (.long jn), .second, .val (.int is), .val (.int ia), .val (.int if_), .val (.int sh), .val (.long nn), .second, .val (.int i1), .val (.int fl), .val (.ref ob5), .val (.int (own_size nn)), .val (.int (own_end nn i1)), .val (.int (1 : Int32))] [(.ref ob5)])) _
    refine XT.iconstV X43.here hx rfl (2 : Int32) (hb hby at_225) rfl ?_
    show Steps p.tables e below (T43.setTop (mkF m 226 #[.val (.long jn), .second, .val (.int is), .val (.int ia), .val (.int if_), .val (.int sh), .val (.long nn), .second, .val (.int i1), .val (.int fl), .val (.ref ob5), .val (.int (own_size nn)), .val (.int (own_end nn i1)), .val (.int (1 : Int32))] [(.int (2 : Int32)), (.ref ob5)])) _
    refine XT.lload X43.here hx rfl (hb hby at_226) rfl ?_
    show Steps p.tables e below (T43.setTop (mkF m 228 #[.val (.long jn), .second, .val (.int is), .val (.int ia), .val (.int if_), .val (.int sh), .val (.long nn), .second, .val (.int i1), .val (.int fl), .val (.ref ob5), .val (.int (own_size nn)), .val (.int (own_end nn i1)), .val (.int (1 : Int32))] [(.long nn), (.int (2 : Int32)), (.ref ob5)])) _
    refine XS.iload X43.here hx rfl (hb hby at_228) rfl ?_
    show Steps p.tables e below (T43.setTop (mkF m 230 #[.val (.long jn), .second, .val (.int is), .val (.int ia), .val (.int if_), .val (.int sh), .val (.long nn), .second, .val (.int i1), .val (.int fl), .val (.ref ob5), .val (.int (own_size nn)), .val (.int (own_end nn i1)), .val (.int (1 : Int32))] [(.int (own_size nn)), (.long nn), (.int (2 : Int32)), (.ref ob5)])) _
    refine XS.iload X43.here hx rfl (hb hby at_230) rfl ?_
    show Steps p.tables e below (T43.setTop (mkF m 232 #[.val (.long jn), .second, .val (.int is), .val (.int ia), .val (.int if_), .val (.int sh), .val (.long nn), .second, .val (.int i1), .val (.int fl), .val (.ref ob5), .val (.int (own_size nn)), .val (.int (own_end nn i1)), .val (.int (1 : Int32))] [(.int i1), (.int (own_size nn)), (.long nn), (.int (2 : Int32)), (.ref ob5)])) _
    refine XS.iload X43.here hx rfl (hb hby at_232) rfl ?_
    show Steps p.tables e below (T43.setTop (mkF m 234 #[.val (.long jn), .second, .val (.int is), .val (.int ia), .val (.int if_), .val (.int sh), .val (.long nn), .second, .val (.int i1), .val (.int fl), .val (.ref ob5), .val (.int (own_size nn)), .val (.int (own_end nn i1)), .val (.int (1 : Int32))] [(.int fl), (.int i1), (.int (own_size nn)), (.long nn), (.int (2 : Int32)), (.ref ob5)])) _
    refine st44 _ ?_
    show Steps p.tables e below (T44.setTop (mkF m 237 #[.val (.long jn), .second, .val (.int is), .val (.int ia), .val (.int if_), .val (.int sh), .val (.long nn), .second, .val (.int i1), .val (.int fl), .val (.ref ob5), .val (.int (own_size nn)), .val (.int (own_end nn i1)), .val (.int (1 : Int32))] [(.int (1 : Int32))])) _
    refine XS.ifNo X44.here hx rfl (hb hby at_237) rfl (XT.i0_eq_f (by decide)) ?_
    show Steps p.tables e below (T44.setTop (mkF m 240 #[.val (.long jn), .second, .val (.int is), .val (.int ia), .val (.int if_), .val (.int sh), .val (.long nn), .second, .val (.int i1), .val (.int fl), .val (.ref ob5), .val (.int (own_size nn)), .val (.int (own_end nn i1)), .val (.int (1 : Int32))] [])) _
    refine XT.iconstV X44.here hx rfl (1 : Int32) (hb hby at_240) rfl ?_
    show Steps p.tables e below (T44.setTop (mkF m 241 #[.val (.long jn), .second, .val (.int is), .val (.int ia), .val (.int if_), .val (.int sh), .val (.long nn), .second, .val (.int i1), .val (.int fl), .val (.ref ob5), .val (.int (own_size nn)), .val (.int (own_end nn i1)), .val (.int (1 : Int32))] [(.int (1 : Int32))])) _
    refine XS.goto X44.here hx rfl (pc0 := 241) (pc' := 245) rfl (hb hby at_241) (by decide) (by decide) ?_
    show Steps p.tables e below (T44.setTop (mkF m 245 #[.val (.long jn), .second, .val (.int is), .val (.int ia), .val (.int if_), .val (.int sh), .val (.long nn), .second, .val (.int i1), .val (.int fl), .val (.ref ob5), .val (.int (own_size nn)), .val (.int (own_end nn i1)), .val (.int (1 : Int32))] [(.int (1 : Int32))])) _
    refine XS.istore X44.here hx rfl (hb hby at_245) rfl (l' := #[.val (.long jn), .second, .val (.int is), .val (.int ia), .val (.int if_), .val (.int sh), .val (.long nn), .second, .val (.int i1), .val (.int fl), .val (.ref ob5), .val (.int (own_size nn)), .val (.int (own_end nn i1)), .val (.int (1 : Int32))]) rfl ?_
    show Steps p.tables e below (T44.setTop (mkF m 247 #[.val (.long jn), .second, .val (.int is), .val (.int ia), .val (.int if_), .val (.int sh), .val (.long nn), .second, .val (.int i1), .val (.int fl), .val (.ref ob5), .val (.int (own_size nn)), .val (.int (own_end nn i1)), .val (.int (1 : Int32))] [])) _
    refine XS.iload X44.here hx rfl (hb hby at_247) rfl ?_
    show Steps p.tables e below (T44.setTop (mkF m 249 #[.val (.long jn), .second, .val (.int is), .val (.int ia), .val (.int if_), .val (.int sh), .val (.long nn), .second, .val (.int i1), .val (.int fl), .val (.ref ob5), .val (.int (own_size nn)), .val (.int (own_end nn i1)), .val (.int (1 : Int32))] [(.int (1 : Int32))])) _
    refine XS.ifNo X44.here hx rfl (hb hby at_249) rfl (XT.i0_eq_f (by decide)) ?_
    show Steps p.tables e below (T44.setTop (mkF m 252 #[.val (.long jn), .second, .val (.int is), .val (.int ia), .val (.int if_), .val (.int sh), .val (.long nn), .second, .val (.int i1), .val (.int fl), .val (.ref ob5), .val (.int (own_size nn)), .val (.int (own_end nn i1)), .val (.int (1 : Int32))] [])) _
    refine XS.aload X44.here hx rfl (hb hby at_252) rfl rfl ?_
    show Steps p.tables e below (T44.setTop (mkF m 254 #[.val (.long jn), .second, .val (.int is), .val (.int ia), .val (.int if_), .val (.int sh), .val (.long nn), .second, .val (.int i1), .val (.int fl), .val (.ref ob5), .val (.int (own_size nn)), .val (.int (own_end nn i1)), .val (.int (1 : Int32))] [(.ref ob5)])) _
    refine XT.iconstV X44.here hx rfl (3 : Int32) (hb hby at_254) rfl ?_
    show Steps p.tables e below (T44.setTop (mkF m 255 #[.val (.long jn), .second, .val (.int is), .val (.int ia), .val (.int if_), .val (.int sh), .val (.long nn), .second, .val (.int i1), .val (.int fl), .val (.ref ob5), .val (.int (own_size nn)), .val (.int (own_end nn i1)), .val (.int (1 : Int32))] [(.int (3 : Int32)), (.ref ob5)])) _
    refine XT.lload X44.here hx rfl (hb hby at_255) rfl ?_
    show Steps p.tables e below (T44.setTop (mkF m 257 #[.val (.long jn), .second, .val (.int is), .val (.int ia), .val (.int if_), .val (.int sh), .val (.long nn), .second, .val (.int i1), .val (.int fl), .val (.ref ob5), .val (.int (own_size nn)), .val (.int (own_end nn i1)), .val (.int (1 : Int32))] [(.long nn), (.int (3 : Int32)), (.ref ob5)])) _
    refine XS.iload X44.here hx rfl (hb hby at_257) rfl ?_
    show Steps p.tables e below (T44.setTop (mkF m 259 #[.val (.long jn), .second, .val (.int is), .val (.int ia), .val (.int if_), .val (.int sh), .val (.long nn), .second, .val (.int i1), .val (.int fl), .val (.ref ob5), .val (.int (own_size nn)), .val (.int (own_end nn i1)), .val (.int (1 : Int32))] [(.int (own_size nn)), (.long nn), (.int (3 : Int32)), (.ref ob5)])) _
    refine XS.iload X44.here hx rfl (hb hby at_259) rfl ?_
    show Steps p.tables e below (T44.setTop (mkF m 261 #[.val (.long jn), .second, .val (.int is), .val (.int ia), .val (.int if_), .val (.int sh), .val (.long nn), .second, .val (.int i1), .val (.int fl), .val (.ref ob5), .val (.int (own_size nn)), .val (.int (own_end nn i1)), .val (.int (1 : Int32))] [(.int i1), (.int (own_size nn)), (.long nn), (.int (3 : Int32)), (.ref ob5)])) _
    refine XS.iload X44.here hx rfl (hb hby at_261) rfl ?_
    show Steps p.tables e below (T44.setTop (mkF m 263 #[.val (.long jn), .second, .val (.int is), .val (.int ia), .val (.int if_), .val (.int sh), .val (.long nn), .second, .val (.int i1), .val (.int fl), .val (.ref ob5), .val (.int (own_size nn)), .val (.int (own_end nn i1)), .val (.int (1 : Int32))] [(.int fl), (.int i1), (.int (own_size nn)), (.long nn), (.int (3 : Int32)), (.ref ob5)])) _
    refine st45 _ ?_
    show Steps p.tables e below (T45.setTop (mkF m 266 #[.val (.long jn), .second, .val (.int is), .val (.int ia), .val (.int if_), .val (.int sh), .val (.long nn), .second, .val (.int i1), .val (.int fl), .val (.ref ob5), .val (.int (own_size nn)), .val (.int (own_end nn i1)), .val (.int (1 : Int32))] [(.int (1 : Int32))])) _
    refine XS.ifNo X45.here hx rfl (hb hby at_266) rfl (XT.i0_eq_f (by decide)) ?_
    show Steps p.tables e below (T45.setTop (mkF m 269 #[.val (.long jn), .second, .val (.int is), .val (.int ia), .val (.int if_), .val (.int sh), .val (.long nn), .second, .val (.int i1), .val (.int fl), .val (.ref ob5), .val (.int (own_size nn)), .val (.int (own_end nn i1)), .val (.int (1 : Int32))] [])) _
    refine XT.iconstV X45.here hx rfl (1 : Int32) (hb hby at_269) rfl ?_
    show Steps p.tables e below (T45.setTop (mkF m 270 #[.val (.long jn), .second, .val (.int is), .val (.int ia), .val (.int if_), .val (.int sh), .val (.long nn), .second, .val (.int i1), .val (.int fl), .val (.ref ob5), .val (.int (own_size nn)), .val (.int (own_end nn i1)), .val (.int (1 : Int32))] [(.int (1 : Int32))])) _
    refine XS.goto X45.here hx rfl (pc0 := 270) (pc' := 274) rfl (hb hby at_270) (by decide) (by decide) ?_
    show Steps p.tables e below (T45.setTop (mkF m 274 #[.val (.long jn), .second, .val (.int is), .val (.int ia), .val (.int if_), .val (.int sh), .val (.long nn), .second, .val (.int i1), .val (.int fl), .val (.ref ob5), .val (.int (own_size nn)), .val (.int (own_end nn i1)), .val (.int (1 : Int32))] [(.int (1 : Int32))])) _
    refine XS.istore X45.here hx rfl (hb hby at_274) rfl (l' := #[.val (.long jn), .second, .val (.int is), .val (.int ia), .val (.int if_), .val (.int sh), .val (.long nn), .second, .val (.int i1), .val (.int fl), .val (.ref ob5), .val (.int (own_size nn)), .val (.int (own_end nn i1)), .val (.int (1 : Int32))]) rfl ?_
    show Steps p.tables e below (T45.setTop (mkF m 276 #[.val (.long jn), .second, .val (.int is), .val (.int ia), .val (.int if_), .val (.int sh), .val (.long nn), .second, .val (.int i1), .val (.int fl), .val (.ref ob5), .val (.int (own_size nn)), .val (.int (own_end nn i1)), .val (.int (1 : Int32))] [])) _
    refine XS.iload X45.here hx rfl (hb hby at_276) rfl ?_
    show Steps p.tables e below (T45.setTop (mkF m 278 #[.val (.long jn), .second, .val (.int is), .val (.int ia), .val (.int if_), .val (.int sh), .val (.long nn), .second, .val (.int i1), .val (.int fl), .val (.ref ob5), .val (.int (own_size nn)), .val (.int (own_end nn i1)), .val (.int (1 : Int32))] [(.int (1 : Int32))])) _
    refine XS.ifNo X45.here hx rfl (hb hby at_278) rfl (XT.i0_eq_f (by decide)) ?_
    show Steps p.tables e below (T45.setTop (mkF m 281 #[.val (.long jn), .second, .val (.int is), .val (.int ia), .val (.int if_), .val (.int sh), .val (.long nn), .second, .val (.int i1), .val (.int fl), .val (.ref ob5), .val (.int (own_size nn)), .val (.int (own_end nn i1)), .val (.int (1 : Int32))] [])) _
    refine XS.aload X45.here hx rfl (hb hby at_281) rfl rfl ?_
    show Steps p.tables e below (T45.setTop (mkF m 283 #[.val (.long jn), .second, .val (.int is), .val (.int ia), .val (.int if_), .val (.int sh), .val (.long nn), .second, .val (.int i1), .val (.int fl), .val (.ref ob5), .val (.int (own_size nn)), .val (.int (own_end nn i1)), .val (.int (1 : Int32))] [(.ref ob5)])) _
    refine XT.iconstV X45.here hx rfl (4 : Int32) (hb hby at_283) rfl ?_
    show Steps p.tables e below (T45.setTop (mkF m 284 #[.val (.long jn), .second, .val (.int is), .val (.int ia), .val (.int if_), .val (.int sh), .val (.long nn), .second, .val (.int i1), .val (.int fl), .val (.ref ob5), .val (.int (own_size nn)), .val (.int (own_end nn i1)), .val (.int (1 : Int32))] [(.int (4 : Int32)), (.ref ob5)])) _
    refine XT.lload X45.here hx rfl (hb hby at_284) rfl ?_
    show Steps p.tables e below (T45.setTop (mkF m 286 #[.val (.long jn), .second, .val (.int is), .val (.int ia), .val (.int if_), .val (.int sh), .val (.long nn), .second, .val (.int i1), .val (.int fl), .val (.ref ob5), .val (.int (own_size nn)), .val (.int (own_end nn i1)), .val (.int (1 : Int32))] [(.long nn), (.int (4 : Int32)), (.ref ob5)])) _
    refine XS.iload X45.here hx rfl (hb hby at_286) rfl ?_
    show Steps p.tables e below (T45.setTop (mkF m 288 #[.val (.long jn), .second, .val (.int is), .val (.int ia), .val (.int if_), .val (.int sh), .val (.long nn), .second, .val (.int i1), .val (.int fl), .val (.ref ob5), .val (.int (own_size nn)), .val (.int (own_end nn i1)), .val (.int (1 : Int32))] [(.int (own_size nn)), (.long nn), (.int (4 : Int32)), (.ref ob5)])) _
    refine XS.iload X45.here hx rfl (hb hby at_288) rfl ?_
    show Steps p.tables e below (T45.setTop (mkF m 290 #[.val (.long jn), .second, .val (.int is), .val (.int ia), .val (.int if_), .val (.int sh), .val (.long nn), .second, .val (.int i1), .val (.int fl), .val (.ref ob5), .val (.int (own_size nn)), .val (.int (own_end nn i1)), .val (.int (1 : Int32))] [(.int i1), (.int (own_size nn)), (.long nn), (.int (4 : Int32)), (.ref ob5)])) _
    refine XS.iload X45.here hx rfl (hb hby at_290) rfl ?_
    show Steps p.tables e below (T45.setTop (mkF m 292 #[.val (.long jn), .second, .val (.int is), .val (.int ia), .val (.int if_), .val (.int sh), .val (.long nn), .second, .val (.int i1), .val (.int fl), .val (.ref ob5), .val (.int (own_size nn)), .val (.int (own_end nn i1)), .val (.int (1 : Int32))] [(.int fl), (.int i1), (.int (own_size nn)), (.long nn), (.int (4 : Int32)), (.ref ob5)])) _
    refine st46 _ ?_
    show Steps p.tables e below (T46.setTop (mkF m 295 #[.val (.long jn), .second, .val (.int is), .val (.int ia), .val (.int if_), .val (.int sh), .val (.long nn), .second, .val (.int i1), .val (.int fl), .val (.ref ob5), .val (.int (own_size nn)), .val (.int (own_end nn i1)), .val (.int (1 : Int32))] [(.int (1 : Int32))])) _
    refine XS.ifNo X46.here hx rfl (hb hby at_295) rfl (XT.i0_eq_f (by decide)) ?_
    show Steps p.tables e below (T46.setTop (mkF m 298 #[.val (.long jn), .second, .val (.int is), .val (.int ia), .val (.int if_), .val (.int sh), .val (.long nn), .second, .val (.int i1), .val (.int fl), .val (.ref ob5), .val (.int (own_size nn)), .val (.int (own_end nn i1)), .val (.int (1 : Int32))] [])) _
    refine XT.iconstV X46.here hx rfl (1 : Int32) (hb hby at_298) rfl ?_
    show Steps p.tables e below (T46.setTop (mkF m 299 #[.val (.long jn), .second, .val (.int is), .val (.int ia), .val (.int if_), .val (.int sh), .val (.long nn), .second, .val (.int i1), .val (.int fl), .val (.ref ob5), .val (.int (own_size nn)), .val (.int (own_end nn i1)), .val (.int (1 : Int32))] [(.int (1 : Int32))])) _
    refine XS.goto X46.here hx rfl (pc0 := 299) (pc' := 303) rfl (hb hby at_299) (by decide) (by decide) ?_
    show Steps p.tables e below (T46.setTop (mkF m 303 #[.val (.long jn), .second, .val (.int is), .val (.int ia), .val (.int if_), .val (.int sh), .val (.long nn), .second, .val (.int i1), .val (.int fl), .val (.ref ob5), .val (.int (own_size nn)), .val (.int (own_end nn i1)), .val (.int (1 : Int32))] [(.int (1 : Int32))])) _
    refine XS.istore X46.here hx rfl (hb hby at_303) rfl (l' := #[.val (.long jn), .second, .val (.int is), .val (.int ia), .val (.int if_), .val (.int sh), .val (.long nn), .second, .val (.int i1), .val (.int fl), .val (.ref ob5), .val (.int (own_size nn)), .val (.int (own_end nn i1)), .val (.int (1 : Int32))]) rfl ?_
    show Steps p.tables e below (T46.setTop (mkF m 305 #[.val (.long jn), .second, .val (.int is), .val (.int ia), .val (.int if_), .val (.int sh), .val (.long nn), .second, .val (.int i1), .val (.int fl), .val (.ref ob5), .val (.int (own_size nn)), .val (.int (own_end nn i1)), .val (.int (1 : Int32))] [])) _
    refine XS.iload X46.here hx rfl (hb hby at_305) rfl ?_
    show Steps p.tables e below (T46.setTop (mkF m 307 #[.val (.long jn), .second, .val (.int is), .val (.int ia), .val (.int if_), .val (.int sh), .val (.long nn), .second, .val (.int i1), .val (.int fl), .val (.ref ob5), .val (.int (own_size nn)), .val (.int (own_end nn i1)), .val (.int (1 : Int32))] [(.int (1 : Int32))])) _
    refine XS.ifNo X46.here hx rfl (hb hby at_307) rfl (XT.i0_eq_f (by decide)) ?_
    show Steps p.tables e below (T46.setTop (mkF m 310 #[.val (.long jn), .second, .val (.int is), .val (.int ia), .val (.int if_), .val (.int sh), .val (.long nn), .second, .val (.int i1), .val (.int fl), .val (.ref ob5), .val (.int (own_size nn)), .val (.int (own_end nn i1)), .val (.int (1 : Int32))] [])) _
    refine XS.aload X46.here hx rfl (hb hby at_310) rfl rfl ?_
    show Steps p.tables e below (T46.setTop (mkF m 312 #[.val (.long jn), .second, .val (.int is), .val (.int ia), .val (.int if_), .val (.int sh), .val (.long nn), .second, .val (.int i1), .val (.int fl), .val (.ref ob5), .val (.int (own_size nn)), .val (.int (own_end nn i1)), .val (.int (1 : Int32))] [(.ref ob5)])) _
    refine XT.iconstV X46.here hx rfl (5 : Int32) (hb hby at_312) rfl ?_
    show Steps p.tables e below (T46.setTop (mkF m 313 #[.val (.long jn), .second, .val (.int is), .val (.int ia), .val (.int if_), .val (.int sh), .val (.long nn), .second, .val (.int i1), .val (.int fl), .val (.ref ob5), .val (.int (own_size nn)), .val (.int (own_end nn i1)), .val (.int (1 : Int32))] [(.int (5 : Int32)), (.ref ob5)])) _
    refine XT.lload X46.here hx rfl (hb hby at_313) rfl ?_
    show Steps p.tables e below (T46.setTop (mkF m 315 #[.val (.long jn), .second, .val (.int is), .val (.int ia), .val (.int if_), .val (.int sh), .val (.long nn), .second, .val (.int i1), .val (.int fl), .val (.ref ob5), .val (.int (own_size nn)), .val (.int (own_end nn i1)), .val (.int (1 : Int32))] [(.long nn), (.int (5 : Int32)), (.ref ob5)])) _
    refine XS.iload X46.here hx rfl (hb hby at_315) rfl ?_
    show Steps p.tables e below (T46.setTop (mkF m 317 #[.val (.long jn), .second, .val (.int is), .val (.int ia), .val (.int if_), .val (.int sh), .val (.long nn), .second, .val (.int i1), .val (.int fl), .val (.ref ob5), .val (.int (own_size nn)), .val (.int (own_end nn i1)), .val (.int (1 : Int32))] [(.int (own_size nn)), (.long nn), (.int (5 : Int32)), (.ref ob5)])) _
    refine XS.iload X46.here hx rfl (hb hby at_317) rfl ?_
    show Steps p.tables e below (T46.setTop (mkF m 319 #[.val (.long jn), .second, .val (.int is), .val (.int ia), .val (.int if_), .val (.int sh), .val (.long nn), .second, .val (.int i1), .val (.int fl), .val (.ref ob5), .val (.int (own_size nn)), .val (.int (own_end nn i1)), .val (.int (1 : Int32))] [(.int i1), (.int (own_size nn)), (.long nn), (.int (5 : Int32)), (.ref ob5)])) _
    refine XS.iload X46.here hx rfl (hb hby at_319) rfl ?_
    show Steps p.tables e below (T46.setTop (mkF m 321 #[.val (.long jn), .second, .val (.int is), .val (.int ia), .val (.int if_), .val (.int sh), .val (.long nn), .second, .val (.int i1), .val (.int fl), .val (.ref ob5), .val (.int (own_size nn)), .val (.int (own_end nn i1)), .val (.int (1 : Int32))] [(.int fl), (.int i1), (.int (own_size nn)), (.long nn), (.int (5 : Int32)), (.ref ob5)])) _
    refine st47 _ ?_
    show Steps p.tables e below (T47.setTop (mkF m 324 #[.val (.long jn), .second, .val (.int is), .val (.int ia), .val (.int if_), .val (.int sh), .val (.long nn), .second, .val (.int i1), .val (.int fl), .val (.ref ob5), .val (.int (own_size nn)), .val (.int (own_end nn i1)), .val (.int (1 : Int32))] [(.int (1 : Int32))])) _
    refine XS.ifNo X47.here hx rfl (hb hby at_324) rfl (XT.i0_eq_f (by decide)) ?_
    show Steps p.tables e below (T47.setTop (mkF m 327 #[.val (.long jn), .second, .val (.int is), .val (.int ia), .val (.int if_), .val (.int sh), .val (.long nn), .second, .val (.int i1), .val (.int fl), .val (.ref ob5), .val (.int (own_size nn)), .val (.int (own_end nn i1)), .val (.int (1 : Int32))] [])) _
    refine XT.iconstV X47.here hx rfl (1 : Int32) (hb hby at_327) rfl ?_
    show Steps p.tables e below (T47.setTop (mkF m 328 #[.val (.long jn), .second, .val (.int is), .val (.int ia), .val (.int if_), .val (.int sh), .val (.long nn), .second, .val (.int i1), .val (.int fl), .val (.ref ob5), .val (.int (own_size nn)), .val (.int (own_end nn i1)), .val (.int (1 : Int32))] [(.int (1 : Int32))])) _
    refine XS.goto X47.here hx rfl (pc0 := 328) (pc' := 332) rfl (hb hby at_328) (by decide) (by decide) ?_
    show Steps p.tables e below (T47.setTop (mkF m 332 #[.val (.long jn), .second, .val (.int is), .val (.int ia), .val (.int if_), .val (.int sh), .val (.long nn), .second, .val (.int i1), .val (.int fl), .val (.ref ob5), .val (.int (own_size nn)), .val (.int (own_end nn i1)), .val (.int (1 : Int32))] [(.int (1 : Int32))])) _
    refine XS.istore X47.here hx rfl (hb hby at_332) rfl (l' := #[.val (.long jn), .second, .val (.int is), .val (.int ia), .val (.int if_), .val (.int sh), .val (.long nn), .second, .val (.int i1), .val (.int fl), .val (.ref ob5), .val (.int (own_size nn)), .val (.int (own_end nn i1)), .val (.int (1 : Int32))]) rfl ?_
    show Steps p.tables e below (T47.setTop (mkF m 334 #[.val (.long jn), .second, .val (.int is), .val (.int ia), .val (.int if_), .val (.int sh), .val (.long nn), .second, .val (.int i1), .val (.int fl), .val (.ref ob5), .val (.int (own_size nn)), .val (.int (own_end nn i1)), .val (.int (1 : Int32))] [])) _
    refine XS.iload X47.here hx rfl (hb hby at_334) rfl ?_
    show Steps p.tables e below (T47.setTop (mkF m 336 #[.val (.long jn), .second, .val (.int is), .val (.int ia), .val (.int if_), .val (.int sh), .val (.long nn), .second, .val (.int i1), .val (.int fl), .val (.ref ob5), .val (.int (own_size nn)), .val (.int (own_end nn i1)), .val (.int (1 : Int32))] [(.int (1 : Int32))])) _
    refine XS.ifNo X47.here hx rfl (hb hby at_336) rfl (XT.i0_eq_f (by decide)) ?_
    show Steps p.tables e below (T47.setTop (mkF m 339 #[.val (.long jn), .second, .val (.int is), .val (.int ia), .val (.int if_), .val (.int sh), .val (.long nn), .second, .val (.int i1), .val (.int fl), .val (.ref ob5), .val (.int (own_size nn)), .val (.int (own_end nn i1)), .val (.int (1 : Int32))] [])) _
    refine XS.aload X47.here hx rfl (hb hby at_339) rfl rfl ?_
    show Steps p.tables e below (T47.setTop (mkF m 341 #[.val (.long jn), .second, .val (.int is), .val (.int ia), .val (.int if_), .val (.int sh), .val (.long nn), .second, .val (.int i1), .val (.int fl), .val (.ref ob5), .val (.int (own_size nn)), .val (.int (own_end nn i1)), .val (.int (1 : Int32))] [(.ref ob5)])) _
    refine XT.bipushV X47.here hx rfl (6 : Int32) (hb hby at_341) rfl ?_
    show Steps p.tables e below (T47.setTop (mkF m 343 #[.val (.long jn), .second, .val (.int is), .val (.int ia), .val (.int if_), .val (.int sh), .val (.long nn), .second, .val (.int i1), .val (.int fl), .val (.ref ob5), .val (.int (own_size nn)), .val (.int (own_end nn i1)), .val (.int (1 : Int32))] [(.int (6 : Int32)), (.ref ob5)])) _
    refine XT.lload X47.here hx rfl (hb hby at_343) rfl ?_
    show Steps p.tables e below (T47.setTop (mkF m 345 #[.val (.long jn), .second, .val (.int is), .val (.int ia), .val (.int if_), .val (.int sh), .val (.long nn), .second, .val (.int i1), .val (.int fl), .val (.ref ob5), .val (.int (own_size nn)), .val (.int (own_end nn i1)), .val (.int (1 : Int32))] [(.long nn), (.int (6 : Int32)), (.ref ob5)])) _
    refine XS.iload X47.here hx rfl (hb hby at_345) rfl ?_
    show Steps p.tables e below (T47.setTop (mkF m 347 #[.val (.long jn), .second, .val (.int is), .val (.int ia), .val (.int if_), .val (.int sh), .val (.long nn), .second, .val (.int i1), .val (.int fl), .val (.ref ob5), .val (.int (own_size nn)), .val (.int (own_end nn i1)), .val (.int (1 : Int32))] [(.int (own_size nn)), (.long nn), (.int (6 : Int32)), (.ref ob5)])) _
    refine XS.iload X47.here hx rfl (hb hby at_347) rfl ?_
    show Steps p.tables e below (T47.setTop (mkF m 349 #[.val (.long jn), .second, .val (.int is), .val (.int ia), .val (.int if_), .val (.int sh), .val (.long nn), .second, .val (.int i1), .val (.int fl), .val (.ref ob5), .val (.int (own_size nn)), .val (.int (own_end nn i1)), .val (.int (1 : Int32))] [(.int i1), (.int (own_size nn)), (.long nn), (.int (6 : Int32)), (.ref ob5)])) _
    refine XS.iload X47.here hx rfl (hb hby at_349) rfl ?_
    show Steps p.tables e below (T47.setTop (mkF m 351 #[.val (.long jn), .second, .val (.int is), .val (.int ia), .val (.int if_), .val (.int sh), .val (.long nn), .second, .val (.int i1), .val (.int fl), .val (.ref ob5), .val (.int (own_size nn)), .val (.int (own_end nn i1)), .val (.int (1 : Int32))] [(.int fl), (.int i1), (.int (own_size nn)), (.long nn), (.int (6 : Int32)), (.ref ob5)])) _
    refine st48 _ ?_
    show Steps p.tables e below (T48.setTop (mkF m 354 #[.val (.long jn), .second, .val (.int is), .val (.int ia), .val (.int if_), .val (.int sh), .val (.long nn), .second, .val (.int i1), .val (.int fl), .val (.ref ob5), .val (.int (own_size nn)), .val (.int (own_end nn i1)), .val (.int (1 : Int32))] [(.int (1 : Int32))])) _
    refine XS.ifNo X48.here hx rfl (hb hby at_354) rfl (XT.i0_eq_f (by decide)) ?_
    show Steps p.tables e below (T48.setTop (mkF m 357 #[.val (.long jn), .second, .val (.int is), .val (.int ia), .val (.int if_), .val (.int sh), .val (.long nn), .second, .val (.int i1), .val (.int fl), .val (.ref ob5), .val (.int (own_size nn)), .val (.int (own_end nn i1)), .val (.int (1 : Int32))] [])) _
    refine XT.iconstV X48.here hx rfl (1 : Int32) (hb hby at_357) rfl ?_
    show Steps p.tables e below (T48.setTop (mkF m 358 #[.val (.long jn), .second, .val (.int is), .val (.int ia), .val (.int if_), .val (.int sh), .val (.long nn), .second, .val (.int i1), .val (.int fl), .val (.ref ob5), .val (.int (own_size nn)), .val (.int (own_end nn i1)), .val (.int (1 : Int32))] [(.int (1 : Int32))])) _
    refine XS.goto X48.here hx rfl (pc0 := 358) (pc' := 362) rfl (hb hby at_358) (by decide) (by decide) ?_
    show Steps p.tables e below (T48.setTop (mkF m 362 #[.val (.long jn), .second, .val (.int is), .val (.int ia), .val (.int if_), .val (.int sh), .val (.long nn), .second, .val (.int i1), .val (.int fl), .val (.ref ob5), .val (.int (own_size nn)), .val (.int (own_end nn i1)), .val (.int (1 : Int32))] [(.int (1 : Int32))])) _
    refine XS.istore X48.here hx rfl (hb hby at_362) rfl (l' := #[.val (.long jn), .second, .val (.int is), .val (.int ia), .val (.int if_), .val (.int sh), .val (.long nn), .second, .val (.int i1), .val (.int fl), .val (.ref ob5), .val (.int (own_size nn)), .val (.int (own_end nn i1)), .val (.int (1 : Int32))]) rfl ?_
    show Steps p.tables e below (T48.setTop (mkF m 364 #[.val (.long jn), .second, .val (.int is), .val (.int ia), .val (.int if_), .val (.int sh), .val (.long nn), .second, .val (.int i1), .val (.int fl), .val (.ref ob5), .val (.int (own_size nn)), .val (.int (own_end nn i1)), .val (.int (1 : Int32))] [])) _
    refine XS.iload X48.here hx rfl (hb hby at_364) rfl ?_
    show Steps p.tables e below (T48.setTop (mkF m 366 #[.val (.long jn), .second, .val (.int is), .val (.int ia), .val (.int if_), .val (.int sh), .val (.long nn), .second, .val (.int i1), .val (.int fl), .val (.ref ob5), .val (.int (own_size nn)), .val (.int (own_end nn i1)), .val (.int (1 : Int32))] [(.int (1 : Int32))])) _
    refine XS.ifNo X48.here hx rfl (hb hby at_366) rfl (XT.i0_eq_f (by decide)) ?_
    show Steps p.tables e below (T48.setTop (mkF m 369 #[.val (.long jn), .second, .val (.int is), .val (.int ia), .val (.int if_), .val (.int sh), .val (.long nn), .second, .val (.int i1), .val (.int fl), .val (.ref ob5), .val (.int (own_size nn)), .val (.int (own_end nn i1)), .val (.int (1 : Int32))] [])) _
    refine XS.aload X48.here hx rfl (hb hby at_369) rfl rfl ?_
    show Steps p.tables e below (T48.setTop (mkF m 371 #[.val (.long jn), .second, .val (.int is), .val (.int ia), .val (.int if_), .val (.int sh), .val (.long nn), .second, .val (.int i1), .val (.int fl), .val (.ref ob5), .val (.int (own_size nn)), .val (.int (own_end nn i1)), .val (.int (1 : Int32))] [(.ref ob5)])) _
    refine XT.bipushV X48.here hx rfl (7 : Int32) (hb hby at_371) rfl ?_
    show Steps p.tables e below (T48.setTop (mkF m 373 #[.val (.long jn), .second, .val (.int is), .val (.int ia), .val (.int if_), .val (.int sh), .val (.long nn), .second, .val (.int i1), .val (.int fl), .val (.ref ob5), .val (.int (own_size nn)), .val (.int (own_end nn i1)), .val (.int (1 : Int32))] [(.int (7 : Int32)), (.ref ob5)])) _
    refine XT.lload X48.here hx rfl (hb hby at_373) rfl ?_
    show Steps p.tables e below (T48.setTop (mkF m 375 #[.val (.long jn), .second, .val (.int is), .val (.int ia), .val (.int if_), .val (.int sh), .val (.long nn), .second, .val (.int i1), .val (.int fl), .val (.ref ob5), .val (.int (own_size nn)), .val (.int (own_end nn i1)), .val (.int (1 : Int32))] [(.long nn), (.int (7 : Int32)), (.ref ob5)])) _
    refine XS.iload X48.here hx rfl (hb hby at_375) rfl ?_
    show Steps p.tables e below (T48.setTop (mkF m 377 #[.val (.long jn), .second, .val (.int is), .val (.int ia), .val (.int if_), .val (.int sh), .val (.long nn), .second, .val (.int i1), .val (.int fl), .val (.ref ob5), .val (.int (own_size nn)), .val (.int (own_end nn i1)), .val (.int (1 : Int32))] [(.int (own_size nn)), (.long nn), (.int (7 : Int32)), (.ref ob5)])) _
    refine XS.iload X48.here hx rfl (hb hby at_377) rfl ?_
    show Steps p.tables e below (T48.setTop (mkF m 379 #[.val (.long jn), .second, .val (.int is), .val (.int ia), .val (.int if_), .val (.int sh), .val (.long nn), .second, .val (.int i1), .val (.int fl), .val (.ref ob5), .val (.int (own_size nn)), .val (.int (own_end nn i1)), .val (.int (1 : Int32))] [(.int i1), (.int (own_size nn)), (.long nn), (.int (7 : Int32)), (.ref ob5)])) _
    refine XS.iload X48.here hx rfl (hb hby at_379) rfl ?_
    show Steps p.tables e below (T48.setTop (mkF m 381 #[.val (.long jn), .second, .val (.int is), .val (.int ia), .val (.int if_), .val (.int sh), .val (.long nn), .second, .val (.int i1), .val (.int fl), .val (.ref ob5), .val (.int (own_size nn)), .val (.int (own_end nn i1)), .val (.int (1 : Int32))] [(.int fl), (.int i1), (.int (own_size nn)), (.long nn), (.int (7 : Int32)), (.ref ob5)])) _
    refine st49 _ ?_
    show Steps p.tables e below (T49.setTop (mkF m 384 #[.val (.long jn), .second, .val (.int is), .val (.int ia), .val (.int if_), .val (.int sh), .val (.long nn), .second, .val (.int i1), .val (.int fl), .val (.ref ob5), .val (.int (own_size nn)), .val (.int (own_end nn i1)), .val (.int (1 : Int32))] [(.int (1 : Int32))])) _
    refine XS.ifNo X49.here hx rfl (hb hby at_384) rfl (XT.i0_eq_f (by decide)) ?_
    show Steps p.tables e below (T49.setTop (mkF m 387 #[.val (.long jn), .second, .val (.int is), .val (.int ia), .val (.int if_), .val (.int sh), .val (.long nn), .second, .val (.int i1), .val (.int fl), .val (.ref ob5), .val (.int (own_size nn)), .val (.int (own_end nn i1)), .val (.int (1 : Int32))] [])) _
    refine XT.iconstV X49.here hx rfl (1 : Int32) (hb hby at_387) rfl ?_
    show Steps p.tables e below (T49.setTop (mkF m 388 #[.val (.long jn), .second, .val (.int is), .val (.int ia), .val (.int if_), .val (.int sh), .val (.long nn), .second, .val (.int i1), .val (.int fl), .val (.ref ob5), .val (.int (own_size nn)), .val (.int (own_end nn i1)), .val (.int (1 : Int32))] [(.int (1 : Int32))])) _
    refine XS.goto X49.here hx rfl (pc0 := 388) (pc' := 392) rfl (hb hby at_388) (by decide) (by decide) ?_
    show Steps p.tables e below (T49.setTop (mkF m 392 #[.val (.long jn), .second, .val (.int is), .val (.int ia), .val (.int if_), .val (.int sh), .val (.long nn), .second, .val (.int i1), .val (.int fl), .val (.ref ob5), .val (.int (own_size nn)), .val (.int (own_end nn i1)), .val (.int (1 : Int32))] [(.int (1 : Int32))])) _
    refine XS.istore X49.here hx rfl (hb hby at_392) rfl (l' := #[.val (.long jn), .second, .val (.int is), .val (.int ia), .val (.int if_), .val (.int sh), .val (.long nn), .second, .val (.int i1), .val (.int fl), .val (.ref ob5), .val (.int (own_size nn)), .val (.int (own_end nn i1)), .val (.int (1 : Int32))]) rfl ?_
    show Steps p.tables e below (T49.setTop (mkF m 394 #[.val (.long jn), .second, .val (.int is), .val (.int ia), .val (.int if_), .val (.int sh), .val (.long nn), .second, .val (.int i1), .val (.int fl), .val (.ref ob5), .val (.int (own_size nn)), .val (.int (own_end nn i1)), .val (.int (1 : Int32))] [])) _
    refine XS.iload X49.here hx rfl (hb hby at_394) rfl ?_
    show Steps p.tables e below (T49.setTop (mkF m 396 #[.val (.long jn), .second, .val (.int is), .val (.int ia), .val (.int if_), .val (.int sh), .val (.long nn), .second, .val (.int i1), .val (.int fl), .val (.ref ob5), .val (.int (own_size nn)), .val (.int (own_end nn i1)), .val (.int (1 : Int32))] [(.int (1 : Int32))])) _
    refine XS.ifNo X49.here hx rfl (hb hby at_396) rfl (XT.i0_eq_f (by decide)) ?_
    show Steps p.tables e below (T49.setTop (mkF m 399 #[.val (.long jn), .second, .val (.int is), .val (.int ia), .val (.int if_), .val (.int sh), .val (.long nn), .second, .val (.int i1), .val (.int fl), .val (.ref ob5), .val (.int (own_size nn)), .val (.int (own_end nn i1)), .val (.int (1 : Int32))] [])) _
    refine XS.aload X49.here hx rfl (hb hby at_399) rfl rfl ?_
    show Steps p.tables e below (T49.setTop (mkF m 401 #[.val (.long jn), .second, .val (.int is), .val (.int ia), .val (.int if_), .val (.int sh), .val (.long nn), .second, .val (.int i1), .val (.int fl), .val (.ref ob5), .val (.int (own_size nn)), .val (.int (own_end nn i1)), .val (.int (1 : Int32))] [(.ref ob5)])) _
    refine XT.bipushV X49.here hx rfl (8 : Int32) (hb hby at_401) rfl ?_
    show Steps p.tables e below (T49.setTop (mkF m 403 #[.val (.long jn), .second, .val (.int is), .val (.int ia), .val (.int if_), .val (.int sh), .val (.long nn), .second, .val (.int i1), .val (.int fl), .val (.ref ob5), .val (.int (own_size nn)), .val (.int (own_end nn i1)), .val (.int (1 : Int32))] [(.int (8 : Int32)), (.ref ob5)])) _
    refine XT.lload X49.here hx rfl (hb hby at_403) rfl ?_
    show Steps p.tables e below (T49.setTop (mkF m 405 #[.val (.long jn), .second, .val (.int is), .val (.int ia), .val (.int if_), .val (.int sh), .val (.long nn), .second, .val (.int i1), .val (.int fl), .val (.ref ob5), .val (.int (own_size nn)), .val (.int (own_end nn i1)), .val (.int (1 : Int32))] [(.long nn), (.int (8 : Int32)), (.ref ob5)])) _
    refine XS.iload X49.here hx rfl (hb hby at_405) rfl ?_
    show Steps p.tables e below (T49.setTop (mkF m 407 #[.val (.long jn), .second, .val (.int is), .val (.int ia), .val (.int if_), .val (.int sh), .val (.long nn), .second, .val (.int i1), .val (.int fl), .val (.ref ob5), .val (.int (own_size nn)), .val (.int (own_end nn i1)), .val (.int (1 : Int32))] [(.int (own_size nn)), (.long nn), (.int (8 : Int32)), (.ref ob5)])) _
    refine XS.iload X49.here hx rfl (hb hby at_407) rfl ?_
    show Steps p.tables e below (T49.setTop (mkF m 409 #[.val (.long jn), .second, .val (.int is), .val (.int ia), .val (.int if_), .val (.int sh), .val (.long nn), .second, .val (.int i1), .val (.int fl), .val (.ref ob5), .val (.int (own_size nn)), .val (.int (own_end nn i1)), .val (.int (1 : Int32))] [(.int i1), (.int (own_size nn)), (.long nn), (.int (8 : Int32)), (.ref ob5)])) _
    refine XS.iload X49.here hx rfl (hb hby at_409) rfl ?_
    show Steps p.tables e below (T49.setTop (mkF m 411 #[.val (.long jn), .second, .val (.int is), .val (.int ia), .val (.int if_), .val (.int sh), .val (.long nn), .second, .val (.int i1), .val (.int fl), .val (.ref ob5), .val (.int (own_size nn)), .val (.int (own_end nn i1)), .val (.int (1 : Int32))] [(.int fl), (.int i1), (.int (own_size nn)), (.long nn), (.int (8 : Int32)), (.ref ob5)])) _
    refine st50 _ ?_
    show Steps p.tables e below (T50.setTop (mkF m 414 #[.val (.long jn), .second, .val (.int is), .val (.int ia), .val (.int if_), .val (.int sh), .val (.long nn), .second, .val (.int i1), .val (.int fl), .val (.ref ob5), .val (.int (own_size nn)), .val (.int (own_end nn i1)), .val (.int (1 : Int32))] [(.int (1 : Int32))])) _
    refine XS.ifNo X50.here hx rfl (hb hby at_414) rfl (XT.i0_eq_f (by decide)) ?_
    show Steps p.tables e below (T50.setTop (mkF m 417 #[.val (.long jn), .second, .val (.int is), .val (.int ia), .val (.int if_), .val (.int sh), .val (.long nn), .second, .val (.int i1), .val (.int fl), .val (.ref ob5), .val (.int (own_size nn)), .val (.int (own_end nn i1)), .val (.int (1 : Int32))] [])) _
    refine XT.iconstV X50.here hx rfl (1 : Int32) (hb hby at_417) rfl ?_
    show Steps p.tables e below (T50.setTop (mkF m 418 #[.val (.long jn), .second, .val (.int is), .val (.int ia), .val (.int if_), .val (.int sh), .val (.long nn), .second, .val (.int i1), .val (.int fl), .val (.ref ob5), .val (.int (own_size nn)), .val (.int (own_end nn i1)), .val (.int (1 : Int32))] [(.int (1 : Int32))])) _
    refine XS.goto X50.here hx rfl (pc0 := 418) (pc' := 422) rfl (hb hby at_418) (by decide) (by decide) ?_
    show Steps p.tables e below (T50.setTop (mkF m 422 #[.val (.long jn), .second, .val (.int is), .val (.int ia), .val (.int if_), .val (.int sh), .val (.long nn), .second, .val (.int i1), .val (.int fl), .val (.ref ob5), .val (.int (own_size nn)), .val (.int (own_end nn i1)), .val (.int (1 : Int32))] [(.int (1 : Int32))])) _
    refine XS.istore X50.here hx rfl (hb hby at_422) rfl (l' := #[.val (.long jn), .second, .val (.int is), .val (.int ia), .val (.int if_), .val (.int sh), .val (.long nn), .second, .val (.int i1), .val (.int fl), .val (.ref ob5), .val (.int (own_size nn)), .val (.int (own_end nn i1)), .val (.int (1 : Int32))]) rfl ?_
    show Steps p.tables e below (T50.setTop (mkF m 424 #[.val (.long jn), .second, .val (.int is), .val (.int ia), .val (.int if_), .val (.int sh), .val (.long nn), .second, .val (.int i1), .val (.int fl), .val (.ref ob5), .val (.int (own_size nn)), .val (.int (own_end nn i1)), .val (.int (1 : Int32))] [])) _
    refine XS.iload X50.here hx rfl (hb hby at_424) rfl ?_
    show Steps p.tables e below (T50.setTop (mkF m 426 #[.val (.long jn), .second, .val (.int is), .val (.int ia), .val (.int if_), .val (.int sh), .val (.long nn), .second, .val (.int i1), .val (.int fl), .val (.ref ob5), .val (.int (own_size nn)), .val (.int (own_end nn i1)), .val (.int (1 : Int32))] [(.int (1 : Int32))])) _
    refine XS.ifNo X50.here hx rfl (hb hby at_426) rfl (XT.i0_eq_f (by decide)) ?_
    show Steps p.tables e below (T50.setTop (mkF m 429 #[.val (.long jn), .second, .val (.int is), .val (.int ia), .val (.int if_), .val (.int sh), .val (.long nn), .second, .val (.int i1), .val (.int fl), .val (.ref ob5), .val (.int (own_size nn)), .val (.int (own_end nn i1)), .val (.int (1 : Int32))] [])) _
    refine XS.aload X50.here hx rfl (hb hby at_429) rfl rfl ?_
    show Steps p.tables e below (T50.setTop (mkF m 431 #[.val (.long jn), .second, .val (.int is), .val (.int ia), .val (.int if_), .val (.int sh), .val (.long nn), .second, .val (.int i1), .val (.int fl), .val (.ref ob5), .val (.int (own_size nn)), .val (.int (own_end nn i1)), .val (.int (1 : Int32))] [(.ref ob5)])) _
    refine XT.bipushV X50.here hx rfl (9 : Int32) (hb hby at_431) rfl ?_
    show Steps p.tables e below (T50.setTop (mkF m 433 #[.val (.long jn), .second, .val (.int is), .val (.int ia), .val (.int if_), .val (.int sh), .val (.long nn), .second, .val (.int i1), .val (.int fl), .val (.ref ob5), .val (.int (own_size nn)), .val (.int (own_end nn i1)), .val (.int (1 : Int32))] [(.int (9 : Int32)), (.ref ob5)])) _
    refine XT.lload X50.here hx rfl (hb hby at_433) rfl ?_
    show Steps p.tables e below (T50.setTop (mkF m 435 #[.val (.long jn), .second, .val (.int is), .val (.int ia), .val (.int if_), .val (.int sh), .val (.long nn), .second, .val (.int i1), .val (.int fl), .val (.ref ob5), .val (.int (own_size nn)), .val (.int (own_end nn i1)), .val (.int (1 : Int32))] [(.long nn), (.int (9 : Int32)), (.ref ob5)])) _
    refine XS.iload X50.here hx rfl (hb hby at_435) rfl ?_
    show Steps p.tables e below (T50.setTop (mkF m 437 #[.val (.long jn), .second, .val (.int is), .val (.int ia), .val (.int if_), .val (.int sh), .val (.long nn), .second, .val (.int i1), .val (.int fl), .val (.ref ob5), .val (.int (own_size nn)), .val (.int (own_end nn i1)), .val (.int (1 : Int32))] [(.int (own_size nn)), (.long nn), (.int (9 : Int32)), (.ref ob5)])) _
    refine XS.iload X50.here hx rfl (hb hby at_437) rfl ?_
    show Steps p.tables e below (T50.setTop (mkF m 439 #[.val (.long jn), .second, .val (.int is), .val (.int ia), .val (.int if_), .val (.int sh), .val (.long nn), .second, .val (.int i1), .val (.int fl), .val (.ref ob5), .val (.int (own_size nn)), .val (.int (own_end nn i1)), .val (.int (1 : Int32))] [(.int i1), (.int (own_size nn)), (.long nn), (.int (9 : Int32)), (.ref ob5)])) _
    refine XS.iload X50.here hx rfl (hb hby at_439) rfl ?_
    show Steps p.tables e below (T50.setTop (mkF m 441 #[.val (.long jn), .second, .val (.int is), .val (.int ia), .val (.int if_), .val (.int sh), .val (.long nn), .second, .val (.int i1), .val (.int fl), .val (.ref ob5), .val (.int (own_size nn)), .val (.int (own_end nn i1)), .val (.int (1 : Int32))] [(.int fl), (.int i1), (.int (own_size nn)), (.long nn), (.int (9 : Int32)), (.ref ob5)])) _
    refine st51 _ ?_
    show Steps p.tables e below (T51.setTop (mkF m 444 #[.val (.long jn), .second, .val (.int is), .val (.int ia), .val (.int if_), .val (.int sh), .val (.long nn), .second, .val (.int i1), .val (.int fl), .val (.ref ob5), .val (.int (own_size nn)), .val (.int (own_end nn i1)), .val (.int (1 : Int32))] [(.int (1 : Int32))])) _
    refine XS.ifNo X51.here hx rfl (hb hby at_444) rfl (XT.i0_eq_f (by decide)) ?_
    show Steps p.tables e below (T51.setTop (mkF m 447 #[.val (.long jn), .second, .val (.int is), .val (.int ia), .val (.int if_), .val (.int sh), .val (.long nn), .second, .val (.int i1), .val (.int fl), .val (.ref ob5), .val (.int (own_size nn)), .val (.int (own_end nn i1)), .val (.int (1 : Int32))] [])) _
    refine XT.iconstV X51.here hx rfl (1 : Int32) (hb hby at_447) rfl ?_
    show Steps p.tables e below (T51.setTop (mkF m 448 #[.val (.long jn), .second, .val (.int is), .val (.int ia), .val (.int if_), .val (.int sh), .val (.long nn), .second, .val (.int i1), .val (.int fl), .val (.ref ob5), .val (.int (own_size nn)), .val (.int (own_end nn i1)), .val (.int (1 : Int32))] [(.int (1 : Int32))])) _
    refine XS.goto X51.here hx rfl (pc0 := 448) (pc' := 452) rfl (hb hby at_448) (by decide) (by decide) ?_
    show Steps p.tables e below (T51.setTop (mkF m 452 #[.val (.long jn), .second, .val (.int is), .val (.int ia), .val (.int if_), .val (.int sh), .val (.long nn), .second, .val (.int i1), .val (.int fl), .val (.ref ob5), .val (.int (own_size nn)), .val (.int (own_end nn i1)), .val (.int (1 : Int32))] [(.int (1 : Int32))])) _
    refine XS.istore X51.here hx rfl (hb hby at_452) rfl (l' := #[.val (.long jn), .second, .val (.int is), .val (.int ia), .val (.int if_), .val (.int sh), .val (.long nn), .second, .val (.int i1), .val (.int fl), .val (.ref ob5), .val (.int (own_size nn)), .val (.int (own_end nn i1)), .val (.int (1 : Int32))]) rfl ?_
    show Steps p.tables e below (T51.setTop (mkF m 454 #[.val (.long jn), .second, .val (.int is), .val (.int ia), .val (.int if_), .val (.int sh), .val (.long nn), .second, .val (.int i1), .val (.int fl), .val (.ref ob5), .val (.int (own_size nn)), .val (.int (own_end nn i1)), .val (.int (1 : Int32))] [])) _
    refine XS.iload X51.here hx rfl (hb hby at_454) rfl ?_
    show Steps p.tables e below (T51.setTop (mkF m 456 #[.val (.long jn), .second, .val (.int is), .val (.int ia), .val (.int if_), .val (.int sh), .val (.long nn), .second, .val (.int i1), .val (.int fl), .val (.ref ob5), .val (.int (own_size nn)), .val (.int (own_end nn i1)), .val (.int (1 : Int32))] [(.int (1 : Int32))])) _
    refine XS.ifNo X51.here hx rfl (hb hby at_456) rfl (XT.i0_eq_f (by decide)) ?_
    show Steps p.tables e below (T51.setTop (mkF m 459 #[.val (.long jn), .second, .val (.int is), .val (.int ia), .val (.int if_), .val (.int sh), .val (.long nn), .second, .val (.int i1), .val (.int fl), .val (.ref ob5), .val (.int (own_size nn)), .val (.int (own_end nn i1)), .val (.int (1 : Int32))] [])) _
    refine XS.aload X51.here hx rfl (hb hby at_459) rfl rfl ?_
    show Steps p.tables e below (T51.setTop (mkF m 461 #[.val (.long jn), .second, .val (.int is), .val (.int ia), .val (.int if_), .val (.int sh), .val (.long nn), .second, .val (.int i1), .val (.int fl), .val (.ref ob5), .val (.int (own_size nn)), .val (.int (own_end nn i1)), .val (.int (1 : Int32))] [(.ref ob5)])) _
    refine XT.bipushV X51.here hx rfl (10 : Int32) (hb hby at_461) rfl ?_
    show Steps p.tables e below (T51.setTop (mkF m 463 #[.val (.long jn), .second, .val (.int is), .val (.int ia), .val (.int if_), .val (.int sh), .val (.long nn), .second, .val (.int i1), .val (.int fl), .val (.ref ob5), .val (.int (own_size nn)), .val (.int (own_end nn i1)), .val (.int (1 : Int32))] [(.int (10 : Int32)), (.ref ob5)])) _
    refine XT.lload X51.here hx rfl (hb hby at_463) rfl ?_
    show Steps p.tables e below (T51.setTop (mkF m 465 #[.val (.long jn), .second, .val (.int is), .val (.int ia), .val (.int if_), .val (.int sh), .val (.long nn), .second, .val (.int i1), .val (.int fl), .val (.ref ob5), .val (.int (own_size nn)), .val (.int (own_end nn i1)), .val (.int (1 : Int32))] [(.long nn), (.int (10 : Int32)), (.ref ob5)])) _
    refine XS.iload X51.here hx rfl (hb hby at_465) rfl ?_
    show Steps p.tables e below (T51.setTop (mkF m 467 #[.val (.long jn), .second, .val (.int is), .val (.int ia), .val (.int if_), .val (.int sh), .val (.long nn), .second, .val (.int i1), .val (.int fl), .val (.ref ob5), .val (.int (own_size nn)), .val (.int (own_end nn i1)), .val (.int (1 : Int32))] [(.int (own_size nn)), (.long nn), (.int (10 : Int32)), (.ref ob5)])) _
    refine XS.iload X51.here hx rfl (hb hby at_467) rfl ?_
    show Steps p.tables e below (T51.setTop (mkF m 469 #[.val (.long jn), .second, .val (.int is), .val (.int ia), .val (.int if_), .val (.int sh), .val (.long nn), .second, .val (.int i1), .val (.int fl), .val (.ref ob5), .val (.int (own_size nn)), .val (.int (own_end nn i1)), .val (.int (1 : Int32))] [(.int i1), (.int (own_size nn)), (.long nn), (.int (10 : Int32)), (.ref ob5)])) _
    refine XS.iload X51.here hx rfl (hb hby at_469) rfl ?_
    show Steps p.tables e below (T51.setTop (mkF m 471 #[.val (.long jn), .second, .val (.int is), .val (.int ia), .val (.int if_), .val (.int sh), .val (.long nn), .second, .val (.int i1), .val (.int fl), .val (.ref ob5), .val (.int (own_size nn)), .val (.int (own_end nn i1)), .val (.int (1 : Int32))] [(.int fl), (.int i1), (.int (own_size nn)), (.long nn), (.int (10 : Int32)), (.ref ob5)])) _
    refine st52 _ ?_
    show Steps p.tables e below (T52.setTop (mkF m 474 #[.val (.long jn), .second, .val (.int is), .val (.int ia), .val (.int if_), .val (.int sh), .val (.long nn), .second, .val (.int i1), .val (.int fl), .val (.ref ob5), .val (.int (own_size nn)), .val (.int (own_end nn i1)), .val (.int (1 : Int32))] [(.int (1 : Int32))])) _
    refine XS.ifNo X52.here hx rfl (hb hby at_474) rfl (XT.i0_eq_f (by decide)) ?_
    show Steps p.tables e below (T52.setTop (mkF m 477 #[.val (.long jn), .second, .val (.int is), .val (.int ia), .val (.int if_), .val (.int sh), .val (.long nn), .second, .val (.int i1), .val (.int fl), .val (.ref ob5), .val (.int (own_size nn)), .val (.int (own_end nn i1)), .val (.int (1 : Int32))] [])) _
    refine XT.iconstV X52.here hx rfl (1 : Int32) (hb hby at_477) rfl ?_
    show Steps p.tables e below (T52.setTop (mkF m 478 #[.val (.long jn), .second, .val (.int is), .val (.int ia), .val (.int if_), .val (.int sh), .val (.long nn), .second, .val (.int i1), .val (.int fl), .val (.ref ob5), .val (.int (own_size nn)), .val (.int (own_end nn i1)), .val (.int (1 : Int32))] [(.int (1 : Int32))])) _
    refine XS.goto X52.here hx rfl (pc0 := 478) (pc' := 482) rfl (hb hby at_478) (by decide) (by decide) ?_
    show Steps p.tables e below (T52.setTop (mkF m 482 #[.val (.long jn), .second, .val (.int is), .val (.int ia), .val (.int if_), .val (.int sh), .val (.long nn), .second, .val (.int i1), .val (.int fl), .val (.ref ob5), .val (.int (own_size nn)), .val (.int (own_end nn i1)), .val (.int (1 : Int32))] [(.int (1 : Int32))])) _
    refine XS.istore X52.here hx rfl (hb hby at_482) rfl (l' := #[.val (.long jn), .second, .val (.int is), .val (.int ia), .val (.int if_), .val (.int sh), .val (.long nn), .second, .val (.int i1), .val (.int fl), .val (.ref ob5), .val (.int (own_size nn)), .val (.int (own_end nn i1)), .val (.int (1 : Int32))]) rfl ?_
    show Steps p.tables e below (T52.setTop (mkF m 484 #[.val (.long jn), .second, .val (.int is), .val (.int ia), .val (.int if_), .val (.int sh), .val (.long nn), .second, .val (.int i1), .val (.int fl), .val (.ref ob5), .val (.int (own_size nn)), .val (.int (own_end nn i1)), .val (.int (1 : Int32))] [])) _
    refine XS.iload X52.here hx rfl (hb hby at_484) rfl ?_
    show Steps p.tables e below (T52.setTop (mkF m 486 #[.val (.long jn), .second, .val (.int is), .val (.int ia), .val (.int if_), .val (.int sh), .val (.long nn), .second, .val (.int i1), .val (.int fl), .val (.ref ob5), .val (.int (own_size nn)), .val (.int (own_end nn i1)), .val (.int (1 : Int32))] [(.int (1 : Int32))])) _
    refine XS.ifNo X52.here hx rfl (hb hby at_486) rfl (XT.i0_eq_f (by decide)) ?_
    show Steps p.tables e below (T52.setTop (mkF m 489 #[.val (.long jn), .second, .val (.int is), .val (.int ia), .val (.int if_), .val (.int sh), .val (.long nn), .second, .val (.int i1), .val (.int fl), .val (.ref ob5), .val (.int (own_size nn)), .val (.int (own_end nn i1)), .val (.int (1 : Int32))] [])) _
    refine XS.aload X52.here hx rfl (hb hby at_489) rfl rfl ?_
    show Steps p.tables e below (T52.setTop (mkF m 491 #[.val (.long jn), .second, .val (.int is), .val (.int ia), .val (.int if_), .val (.int sh), .val (.long nn), .second, .val (.int i1), .val (.int fl), .val (.ref ob5), .val (.int (own_size nn)), .val (.int (own_end nn i1)), .val (.int (1 : Int32))] [(.ref ob5)])) _
    refine XT.bipushV X52.here hx rfl (11 : Int32) (hb hby at_491) rfl ?_
    show Steps p.tables e below (T52.setTop (mkF m 493 #[.val (.long jn), .second, .val (.int is), .val (.int ia), .val (.int if_), .val (.int sh), .val (.long nn), .second, .val (.int i1), .val (.int fl), .val (.ref ob5), .val (.int (own_size nn)), .val (.int (own_end nn i1)), .val (.int (1 : Int32))] [(.int (11 : Int32)), (.ref ob5)])) _
    refine XT.lload X52.here hx rfl (hb hby at_493) rfl ?_
    show Steps p.tables e below (T52.setTop (mkF m 495 #[.val (.long jn), .second, .val (.int is), .val (.int ia), .val (.int if_), .val (.int sh), .val (.long nn), .second, .val (.int i1), .val (.int fl), .val (.ref ob5), .val (.int (own_size nn)), .val (.int (own_end nn i1)), .val (.int (1 : Int32))] [(.long nn), (.int (11 : Int32)), (.ref ob5)])) _
    refine XS.iload X52.here hx rfl (hb hby at_495) rfl ?_
    show Steps p.tables e below (T52.setTop (mkF m 497 #[.val (.long jn), .second, .val (.int is), .val (.int ia), .val (.int if_), .val (.int sh), .val (.long nn), .second, .val (.int i1), .val (.int fl), .val (.ref ob5), .val (.int (own_size nn)), .val (.int (own_end nn i1)), .val (.int (1 : Int32))] [(.int (own_size nn)), (.long nn), (.int (11 : Int32)), (.ref ob5)])) _
    refine XS.iload X52.here hx rfl (hb hby at_497) rfl ?_
    show Steps p.tables e below (T52.setTop (mkF m 499 #[.val (.long jn), .second, .val (.int is), .val (.int ia), .val (.int if_), .val (.int sh), .val (.long nn), .second, .val (.int i1), .val (.int fl), .val (.ref ob5), .val (.int (own_size nn)), .val (.int (own_end nn i1)), .val (.int (1 : Int32))] [(.int i1), (.int (own_size nn)), (.long nn), (.int (11 : Int32)), (.ref ob5)])) _
    refine XS.iload X52.here hx rfl (hb hby at_499) rfl ?_
    show Steps p.tables e below (T52.setTop (mkF m 501 #[.val (.long jn), .second, .val (.int is), .val (.int ia), .val (.int if_), .val (.int sh), .val (.long nn), .second, .val (.int i1), .val (.int fl), .val (.ref ob5), .val (.int (own_size nn)), .val (.int (own_end nn i1)), .val (.int (1 : Int32))] [(.int fl), (.int i1), (.int (own_size nn)), (.long nn), (.int (11 : Int32)), (.ref ob5)])) _
    refine st53 _ ?_
    show Steps p.tables e below (T53.setTop (mkF m 504 #[.val (.long jn), .second, .val (.int is), .val (.int ia), .val (.int if_), .val (.int sh), .val (.long nn), .second, .val (.int i1), .val (.int fl), .val (.ref ob5), .val (.int (own_size nn)), .val (.int (own_end nn i1)), .val (.int (1 : Int32))] [(.int (1 : Int32))])) _
    refine XS.ifNo X53.here hx rfl (hb hby at_504) rfl (XT.i0_eq_f (by decide)) ?_
    show Steps p.tables e below (T53.setTop (mkF m 507 #[.val (.long jn), .second, .val (.int is), .val (.int ia), .val (.int if_), .val (.int sh), .val (.long nn), .second, .val (.int i1), .val (.int fl), .val (.ref ob5), .val (.int (own_size nn)), .val (.int (own_end nn i1)), .val (.int (1 : Int32))] [])) _
    refine XT.iconstV X53.here hx rfl (1 : Int32) (hb hby at_507) rfl ?_
    show Steps p.tables e below (T53.setTop (mkF m 508 #[.val (.long jn), .second, .val (.int is), .val (.int ia), .val (.int if_), .val (.int sh), .val (.long nn), .second, .val (.int i1), .val (.int fl), .val (.ref ob5), .val (.int (own_size nn)), .val (.int (own_end nn i1)), .val (.int (1 : Int32))] [(.int (1 : Int32))])) _
    refine XS.goto X53.here hx rfl (pc0 := 508) (pc' := 512) rfl (hb hby at_508) (by decide) (by decide) ?_
    show Steps p.tables e below (T53.setTop (mkF m 512 #[.val (.long jn), .second, .val (.int is), .val (.int ia), .val (.int if_), .val (.int sh), .val (.long nn), .second, .val (.int i1), .val (.int fl), .val (.ref ob5), .val (.int (own_size nn)), .val (.int (own_end nn i1)), .val (.int (1 : Int32))] [(.int (1 : Int32))])) _
    refine XS.istore X53.here hx rfl (hb hby at_512) rfl (l' := #[.val (.long jn), .second, .val (.int is), .val (.int ia), .val (.int if_), .val (.int sh), .val (.long nn), .second, .val (.int i1), .val (.int fl), .val (.ref ob5), .val (.int (own_size nn)), .val (.int (own_end nn i1)), .val (.int (1 : Int32))]) rfl ?_
    show Steps p.tables e below (T53.setTop (mkF m 514 #[.val (.long jn), .second, .val (.int is), .val (.int ia), .val (.int if_), .val (.int sh), .val (.long nn), .second, .val (.int i1), .val (.int fl), .val (.ref ob5), .val (.int (own_size nn)), .val (.int (own_end nn i1)), .val (.int (1 : Int32))] [])) _
    refine XS.iload X53.here hx rfl (hb hby at_514) rfl ?_
    show Steps p.tables e below (T53.setTop (mkF m 516 #[.val (.long jn), .second, .val (.int is), .val (.int ia), .val (.int if_), .val (.int sh), .val (.long nn), .second, .val (.int i1), .val (.int fl), .val (.ref ob5), .val (.int (own_size nn)), .val (.int (own_end nn i1)), .val (.int (1 : Int32))] [(.int (1 : Int32))])) _
    refine XS.ifNo X53.here hx rfl (hb hby at_516) rfl (XT.i0_eq_f (by decide)) ?_
    show Steps p.tables e below (T53.setTop (mkF m 519 #[.val (.long jn), .second, .val (.int is), .val (.int ia), .val (.int if_), .val (.int sh), .val (.long nn), .second, .val (.int i1), .val (.int fl), .val (.ref ob5), .val (.int (own_size nn)), .val (.int (own_end nn i1)), .val (.int (1 : Int32))] [])) _
    refine XS.aload X53.here hx rfl (hb hby at_519) rfl rfl ?_
    show Steps p.tables e below (T53.setTop (mkF m 521 #[.val (.long jn), .second, .val (.int is), .val (.int ia), .val (.int if_), .val (.int sh), .val (.long nn), .second, .val (.int i1), .val (.int fl), .val (.ref ob5), .val (.int (own_size nn)), .val (.int (own_end nn i1)), .val (.int (1 : Int32))] [(.ref ob5)])) _
    refine XT.bipushV X53.here hx rfl (12 : Int32) (hb hby at_521) rfl ?_
    show Steps p.tables e below (T53.setTop (mkF m 523 #[.val (.long jn), .second, .val (.int is), .val (.int ia), .val (.int if_), .val (.int sh), .val (.long nn), .second, .val (.int i1), .val (.int fl), .val (.ref ob5), .val (.int (own_size nn)), .val (.int (own_end nn i1)), .val (.int (1 : Int32))] [(.int (12 : Int32)), (.ref ob5)])) _
    refine XT.lload X53.here hx rfl (hb hby at_523) rfl ?_
    show Steps p.tables e below (T53.setTop (mkF m 525 #[.val (.long jn), .second, .val (.int is), .val (.int ia), .val (.int if_), .val (.int sh), .val (.long nn), .second, .val (.int i1), .val (.int fl), .val (.ref ob5), .val (.int (own_size nn)), .val (.int (own_end nn i1)), .val (.int (1 : Int32))] [(.long nn), (.int (12 : Int32)), (.ref ob5)])) _
    refine XS.iload X53.here hx rfl (hb hby at_525) rfl ?_
    show Steps p.tables e below (T53.setTop (mkF m 527 #[.val (.long jn), .second, .val (.int is), .val (.int ia), .val (.int if_), .val (.int sh), .val (.long nn), .second, .val (.int i1), .val (.int fl), .val (.ref ob5), .val (.int (own_size nn)), .val (.int (own_end nn i1)), .val (.int (1 : Int32))] [(.int (own_size nn)), (.long nn), (.int (12 : Int32)), (.ref ob5)])) _
    refine XS.iload X53.here hx rfl (hb hby at_527) rfl ?_
    show Steps p.tables e below (T53.setTop (mkF m 529 #[.val (.long jn), .second, .val (.int is), .val (.int ia), .val (.int if_), .val (.int sh), .val (.long nn), .second, .val (.int i1), .val (.int fl), .val (.ref ob5), .val (.int (own_size nn)), .val (.int (own_end nn i1)), .val (.int (1 : Int32))] [(.int i1), (.int (own_size nn)), (.long nn), (.int (12 : Int32)), (.ref ob5)])) _
    refine XS.iload X53.here hx rfl (hb hby at_529) rfl ?_
    show Steps p.tables e below (T53.setTop (mkF m 531 #[.val (.long jn), .second, .val (.int is), .val (.int ia), .val (.int if_), .val (.int sh), .val (.long nn), .second, .val (.int i1), .val (.int fl), .val (.ref ob5), .val (.int (own_size nn)), .val (.int (own_end nn i1)), .val (.int (1 : Int32))] [(.int fl), (.int i1), (.int (own_size nn)), (.long nn), (.int (12 : Int32)), (.ref ob5)])) _
    refine st54 _ ?_
    show Steps p.tables e below (T54.setTop (mkF m 534 #[.val (.long jn), .second, .val (.int is), .val (.int ia), .val (.int if_), .val (.int sh), .val (.long nn), .second, .val (.int i1), .val (.int fl), .val (.ref ob5), .val (.int (own_size nn)), .val (.int (own_end nn i1)), .val (.int (1 : Int32))] [(.int (1 : Int32))])) _
    refine XS.ifNo X54.here hx rfl (hb hby at_534) rfl (XT.i0_eq_f (by decide)) ?_
    show Steps p.tables e below (T54.setTop (mkF m 537 #[.val (.long jn), .second, .val (.int is), .val (.int ia), .val (.int if_), .val (.int sh), .val (.long nn), .second, .val (.int i1), .val (.int fl), .val (.ref ob5), .val (.int (own_size nn)), .val (.int (own_end nn i1)), .val (.int (1 : Int32))] [])) _
    refine XT.iconstV X54.here hx rfl (1 : Int32) (hb hby at_537) rfl ?_
    show Steps p.tables e below (T54.setTop (mkF m 538 #[.val (.long jn), .second, .val (.int is), .val (.int ia), .val (.int if_), .val (.int sh), .val (.long nn), .second, .val (.int i1), .val (.int fl), .val (.ref ob5), .val (.int (own_size nn)), .val (.int (own_end nn i1)), .val (.int (1 : Int32))] [(.int (1 : Int32))])) _
    refine XS.goto X54.here hx rfl (pc0 := 538) (pc' := 542) rfl (hb hby at_538) (by decide) (by decide) ?_
    show Steps p.tables e below (T54.setTop (mkF m 542 #[.val (.long jn), .second, .val (.int is), .val (.int ia), .val (.int if_), .val (.int sh), .val (.long nn), .second, .val (.int i1), .val (.int fl), .val (.ref ob5), .val (.int (own_size nn)), .val (.int (own_end nn i1)), .val (.int (1 : Int32))] [(.int (1 : Int32))])) _
    refine XS.istore X54.here hx rfl (hb hby at_542) rfl (l' := #[.val (.long jn), .second, .val (.int is), .val (.int ia), .val (.int if_), .val (.int sh), .val (.long nn), .second, .val (.int i1), .val (.int fl), .val (.ref ob5), .val (.int (own_size nn)), .val (.int (own_end nn i1)), .val (.int (1 : Int32))]) rfl ?_
    show Steps p.tables e below (T54.setTop (mkF m 544 #[.val (.long jn), .second, .val (.int is), .val (.int ia), .val (.int if_), .val (.int sh), .val (.long nn), .second, .val (.int i1), .val (.int fl), .val (.ref ob5), .val (.int (own_size nn)), .val (.int (own_end nn i1)), .val (.int (1 : Int32))] [])) _
    refine XS.iload X54.here hx rfl (hb hby at_544) rfl ?_
    show Steps p.tables e below (T54.setTop (mkF m 546 #[.val (.long jn), .second, .val (.int is), .val (.int ia), .val (.int if_), .val (.int sh), .val (.long nn), .second, .val (.int i1), .val (.int fl), .val (.ref ob5), .val (.int (own_size nn)), .val (.int (own_end nn i1)), .val (.int (1 : Int32))] [(.int (1 : Int32))])) _
    refine XS.ifNo X54.here hx rfl (hb hby at_546) rfl (XT.i0_eq_f (by decide)) ?_
    show Steps p.tables e below (T54.setTop (mkF m 549 #[.val (.long jn), .second, .val (.int is), .val (.int ia), .val (.int if_), .val (.int sh), .val (.long nn), .second, .val (.int i1), .val (.int fl), .val (.ref ob5), .val (.int (own_size nn)), .val (.int (own_end nn i1)), .val (.int (1 : Int32))] [])) _
    refine XS.aload X54.here hx rfl (hb hby at_549) rfl rfl ?_
    show Steps p.tables e below (T54.setTop (mkF m 551 #[.val (.long jn), .second, .val (.int is), .val (.int ia), .val (.int if_), .val (.int sh), .val (.long nn), .second, .val (.int i1), .val (.int fl), .val (.ref ob5), .val (.int (own_size nn)), .val (.int (own_end nn i1)), .val (.int (1 : Int32))] [(.ref ob5)])) _
    refine XT.bipushV X54.here hx rfl (13 : Int32) (hb hby at_551) rfl ?_
    show Steps p.tables e below (T54.setTop (mkF m 553 #[.val (.long jn), .second, .val (.int is), .val (.int ia), .val (.int if_), .val (.int sh), .val (.long nn), .second, .val (.int i1), .val (.int fl), .val (.ref ob5), .val (.int (own_size nn)), .val (.int (own_end nn i1)), .val (.int (1 : Int32))] [(.int (13 : Int32)), (.ref ob5)])) _
    refine XT.lload X54.here hx rfl (hb hby at_553) rfl ?_
    show Steps p.tables e below (T54.setTop (mkF m 555 #[.val (.long jn), .second, .val (.int is), .val (.int ia), .val (.int if_), .val (.int sh), .val (.long nn), .second, .val (.int i1), .val (.int fl), .val (.ref ob5), .val (.int (own_size nn)), .val (.int (own_end nn i1)), .val (.int (1 : Int32))] [(.long nn), (.int (13 : Int32)), (.ref ob5)])) _
    refine XS.iload X54.here hx rfl (hb hby at_555) rfl ?_
    show Steps p.tables e below (T54.setTop (mkF m 557 #[.val (.long jn), .second, .val (.int is), .val (.int ia), .val (.int if_), .val (.int sh), .val (.long nn), .second, .val (.int i1), .val (.int fl), .val (.ref ob5), .val (.int (own_size nn)), .val (.int (own_end nn i1)), .val (.int (1 : Int32))] [(.int (own_size nn)), (.long nn), (.int (13 : Int32)), (.ref ob5)])) _
    refine XS.iload X54.here hx rfl (hb hby at_557) rfl ?_
    show Steps p.tables e below (T54.setTop (mkF m 559 #[.val (.long jn), .second, .val (.int is), .val (.int ia), .val (.int if_), .val (.int sh), .val (.long nn), .second, .val (.int i1), .val (.int fl), .val (.ref ob5), .val (.int (own_size nn)), .val (.int (own_end nn i1)), .val (.int (1 : Int32))] [(.int i1), (.int (own_size nn)), (.long nn), (.int (13 : Int32)), (.ref ob5)])) _
    refine XS.iload X54.here hx rfl (hb hby at_559) rfl ?_
    show Steps p.tables e below (T54.setTop (mkF m 561 #[.val (.long jn), .second, .val (.int is), .val (.int ia), .val (.int if_), .val (.int sh), .val (.long nn), .second, .val (.int i1), .val (.int fl), .val (.ref ob5), .val (.int (own_size nn)), .val (.int (own_end nn i1)), .val (.int (1 : Int32))] [(.int fl), (.int i1), (.int (own_size nn)), (.long nn), (.int (13 : Int32)), (.ref ob5)])) _
    refine st55 _ ?_
    show Steps p.tables e below (T55.setTop (mkF m 564 #[.val (.long jn), .second, .val (.int is), .val (.int ia), .val (.int if_), .val (.int sh), .val (.long nn), .second, .val (.int i1), .val (.int fl), .val (.ref ob5), .val (.int (own_size nn)), .val (.int (own_end nn i1)), .val (.int (1 : Int32))] [(.int (1 : Int32))])) _
    refine XS.ifNo X55.here hx rfl (hb hby at_564) rfl (XT.i0_eq_f (by decide)) ?_
    show Steps p.tables e below (T55.setTop (mkF m 567 #[.val (.long jn), .second, .val (.int is), .val (.int ia), .val (.int if_), .val (.int sh), .val (.long nn), .second, .val (.int i1), .val (.int fl), .val (.ref ob5), .val (.int (own_size nn)), .val (.int (own_end nn i1)), .val (.int (1 : Int32))] [])) _
    refine XT.iconstV X55.here hx rfl (1 : Int32) (hb hby at_567) rfl ?_
    show Steps p.tables e below (T55.setTop (mkF m 568 #[.val (.long jn), .second, .val (.int is), .val (.int ia), .val (.int if_), .val (.int sh), .val (.long nn), .second, .val (.int i1), .val (.int fl), .val (.ref ob5), .val (.int (own_size nn)), .val (.int (own_end nn i1)), .val (.int (1 : Int32))] [(.int (1 : Int32))])) _
    refine XS.goto X55.here hx rfl (pc0 := 568) (pc' := 572) rfl (hb hby at_568) (by decide) (by decide) ?_
    show Steps p.tables e below (T55.setTop (mkF m 572 #[.val (.long jn), .second, .val (.int is), .val (.int ia), .val (.int if_), .val (.int sh), .val (.long nn), .second, .val (.int i1), .val (.int fl), .val (.ref ob5), .val (.int (own_size nn)), .val (.int (own_end nn i1)), .val (.int (1 : Int32))] [(.int (1 : Int32))])) _
    refine XS.istore X55.here hx rfl (hb hby at_572) rfl (l' := #[.val (.long jn), .second, .val (.int is), .val (.int ia), .val (.int if_), .val (.int sh), .val (.long nn), .second, .val (.int i1), .val (.int fl), .val (.ref ob5), .val (.int (own_size nn)), .val (.int (own_end nn i1)), .val (.int (1 : Int32))]) rfl ?_
    show Steps p.tables e below (T55.setTop (mkF m 574 #[.val (.long jn), .second, .val (.int is), .val (.int ia), .val (.int if_), .val (.int sh), .val (.long nn), .second, .val (.int i1), .val (.int fl), .val (.ref ob5), .val (.int (own_size nn)), .val (.int (own_end nn i1)), .val (.int (1 : Int32))] [])) _
    refine XS.iload X55.here hx rfl (hb hby at_574) rfl ?_
    show Steps p.tables e below (T55.setTop (mkF m 576 #[.val (.long jn), .second, .val (.int is), .val (.int ia), .val (.int if_), .val (.int sh), .val (.long nn), .second, .val (.int i1), .val (.int fl), .val (.ref ob5), .val (.int (own_size nn)), .val (.int (own_end nn i1)), .val (.int (1 : Int32))] [(.int (1 : Int32))])) _
    refine XS.ifNo X55.here hx rfl (hb hby at_576) rfl (XT.i0_eq_f (by decide)) ?_
    show Steps p.tables e below (T55.setTop (mkF m 579 #[.val (.long jn), .second, .val (.int is), .val (.int ia), .val (.int if_), .val (.int sh), .val (.long nn), .second, .val (.int i1), .val (.int fl), .val (.ref ob5), .val (.int (own_size nn)), .val (.int (own_end nn i1)), .val (.int (1 : Int32))] [])) _
    refine XS.aload X55.here hx rfl (hb hby at_579) rfl rfl ?_
    show Steps p.tables e below (T55.setTop (mkF m 581 #[.val (.long jn), .second, .val (.int is), .val (.int ia), .val (.int if_), .val (.int sh), .val (.long nn), .second, .val (.int i1), .val (.int fl), .val (.ref ob5), .val (.int (own_size nn)), .val (.int (own_end nn i1)), .val (.int (1 : Int32))] [(.ref ob5)])) _
    refine XT.bipushV X55.here hx rfl (14 : Int32) (hb hby at_581) rfl ?_
    show Steps p.tables e below (T55.setTop (mkF m 583 #[.val (.long jn), .second, .val (.int is), .val (.int ia), .val (.int if_), .val (.int sh), .val (.long nn), .second, .val (.int i1), .val (.int fl), .val (.ref ob5), .val (.int (own_size nn)), .val (.int (own_end nn i1)), .val (.int (1 : Int32))] [(.int (14 : Int32)), (.ref ob5)])) _
    refine XT.lload X55.here hx rfl (hb hby at_583) rfl ?_
    show Steps p.tables e below (T55.setTop (mkF m 585 #[.val (.long jn), .second, .val (.int is), .val (.int ia), .val (.int if_), .val (.int sh), .val (.long nn), .second, .val (.int i1), .val (.int fl), .val (.ref ob5), .val (.int (own_size nn)), .val (.int (own_end nn i1)), .val (.int (1 : Int32))] [(.long nn), (.int (14 : Int32)), (.ref ob5)])) _
    refine XS.iload X55.here hx rfl (hb hby at_585) rfl ?_
    show Steps p.tables e below (T55.setTop (mkF m 587 #[.val (.long jn), .second, .val (.int is), .val (.int ia), .val (.int if_), .val (.int sh), .val (.long nn), .second, .val (.int i1), .val (.int fl), .val (.ref ob5), .val (.int (own_size nn)), .val (.int (own_end nn i1)), .val (.int (1 : Int32))] [(.int (own_size nn)), (.long nn), (.int (14 : Int32)), (.ref ob5)])) _
    refine XS.iload X55.here hx rfl (hb hby at_587) rfl ?_
    show Steps p.tables e below (T55.setTop (mkF m 589 #[.val (.long jn), .second, .val (.int is), .val (.int ia), .val (.int if_), .val (.int sh), .val (.long nn), .second, .val (.int i1), .val (.int fl), .val (.ref ob5), .val (.int (own_size nn)), .val (.int (own_end nn i1)), .val (.int (1 : Int32))] [(.int i1), (.int (own_size nn)), (.long nn), (.int (14 : Int32)), (.ref ob5)])) _
    refine XS.iload X55.here hx rfl (hb hby at_589) rfl ?_
    show Steps p.tables e below (T55.setTop (mkF m 591 #[.val (.long jn), .second, .val (.int is), .val (.int ia), .val (.int if_), .val (.int sh), .val (.long nn), .second, .val (.int i1), .val (.int fl), .val (.ref ob5), .val (.int (own_size nn)), .val (.int (own_end nn i1)), .val (.int (1 : Int32))] [(.int fl), (.int i1), (.int (own_size nn)), (.long nn), (.int (14 : Int32)), (.ref ob5)])) _
    refine st56 _ ?_
    show Steps p.tables e below (T56.setTop (mkF m 594 #[.val (.long jn), .second, .val (.int is), .val (.int ia), .val (.int if_), .val (.int sh), .val (.long nn), .second, .val (.int i1), .val (.int fl), .val (.ref ob5), .val (.int (own_size nn)), .val (.int (own_end nn i1)), .val (.int (1 : Int32))] [(.int (1 : Int32))])) _
    refine XS.ifNo X56.here hx rfl (hb hby at_594) rfl (XT.i0_eq_f (by decide)) ?_
    show Steps p.tables e below (T56.setTop (mkF m 597 #[.val (.long jn), .second, .val (.int is), .val (.int ia), .val (.int if_), .val (.int sh), .val (.long nn), .second, .val (.int i1), .val (.int fl), .val (.ref ob5), .val (.int (own_size nn)), .val (.int (own_end nn i1)), .val (.int (1 : Int32))] [])) _
    refine XT.iconstV X56.here hx rfl (1 : Int32) (hb hby at_597) rfl ?_
    show Steps p.tables e below (T56.setTop (mkF m 598 #[.val (.long jn), .second, .val (.int is), .val (.int ia), .val (.int if_), .val (.int sh), .val (.long nn), .second, .val (.int i1), .val (.int fl), .val (.ref ob5), .val (.int (own_size nn)), .val (.int (own_end nn i1)), .val (.int (1 : Int32))] [(.int (1 : Int32))])) _
    refine XS.goto X56.here hx rfl (pc0 := 598) (pc' := 602) rfl (hb hby at_598) (by decide) (by decide) ?_
    show Steps p.tables e below (T56.setTop (mkF m 602 #[.val (.long jn), .second, .val (.int is), .val (.int ia), .val (.int if_), .val (.int sh), .val (.long nn), .second, .val (.int i1), .val (.int fl), .val (.ref ob5), .val (.int (own_size nn)), .val (.int (own_end nn i1)), .val (.int (1 : Int32))] [(.int (1 : Int32))])) _
    refine XS.istore X56.here hx rfl (hb hby at_602) rfl (l' := #[.val (.long jn), .second, .val (.int is), .val (.int ia), .val (.int if_), .val (.int sh), .val (.long nn), .second, .val (.int i1), .val (.int fl), .val (.ref ob5), .val (.int (own_size nn)), .val (.int (own_end nn i1)), .val (.int (1 : Int32))]) rfl ?_
    show Steps p.tables e below (T56.setTop (mkF m 604 #[.val (.long jn), .second, .val (.int is), .val (.int ia), .val (.int if_), .val (.int sh), .val (.long nn), .second, .val (.int i1), .val (.int fl), .val (.ref ob5), .val (.int (own_size nn)), .val (.int (own_end nn i1)), .val (.int (1 : Int32))] [])) _
    refine XS.iload X56.here hx rfl (hb hby at_604) rfl ?_
    show Steps p.tables e below (T56.setTop (mkF m 606 #[.val (.long jn), .second, .val (.int is), .val (.int ia), .val (.int if_), .val (.int sh), .val (.long nn), .second, .val (.int i1), .val (.int fl), .val (.ref ob5), .val (.int (own_size nn)), .val (.int (own_end nn i1)), .val (.int (1 : Int32))] [(.int (1 : Int32))])) _
    refine XS.ifNo X56.here hx rfl (hb hby at_606) rfl (XT.i0_eq_f (by decide)) ?_
    show Steps p.tables e below (T56.setTop (mkF m 609 #[.val (.long jn), .second, .val (.int is), .val (.int ia), .val (.int if_), .val (.int sh), .val (.long nn), .second, .val (.int i1), .val (.int fl), .val (.ref ob5), .val (.int (own_size nn)), .val (.int (own_end nn i1)), .val (.int (1 : Int32))] [])) _
    refine XS.aload X56.here hx rfl (hb hby at_609) rfl rfl ?_
    show Steps p.tables e below (T56.setTop (mkF m 611 #[.val (.long jn), .second, .val (.int is), .val (.int ia), .val (.int if_), .val (.int sh), .val (.long nn), .second, .val (.int i1), .val (.int fl), .val (.ref ob5), .val (.int (own_size nn)), .val (.int (own_end nn i1)), .val (.int (1 : Int32))] [(.ref ob5)])) _
    refine XT.bipushV X56.here hx rfl (15 : Int32) (hb hby at_611) rfl ?_
    show Steps p.tables e below (T56.setTop (mkF m 613 #[.val (.long jn), .second, .val (.int is), .val (.int ia), .val (.int if_), .val (.int sh), .val (.long nn), .second, .val (.int i1), .val (.int fl), .val (.ref ob5), .val (.int (own_size nn)), .val (.int (own_end nn i1)), .val (.int (1 : Int32))] [(.int (15 : Int32)), (.ref ob5)])) _
    refine XT.lload X56.here hx rfl (hb hby at_613) rfl ?_
    show Steps p.tables e below (T56.setTop (mkF m 615 #[.val (.long jn), .second, .val (.int is), .val (.int ia), .val (.int if_), .val (.int sh), .val (.long nn), .second, .val (.int i1), .val (.int fl), .val (.ref ob5), .val (.int (own_size nn)), .val (.int (own_end nn i1)), .val (.int (1 : Int32))] [(.long nn), (.int (15 : Int32)), (.ref ob5)])) _
    refine XS.iload X56.here hx rfl (hb hby at_615) rfl ?_
    show Steps p.tables e below (T56.setTop (mkF m 617 #[.val (.long jn), .second, .val (.int is), .val (.int ia), .val (.int if_), .val (.int sh), .val (.long nn), .second, .val (.int i1), .val (.int fl), .val (.ref ob5), .val (.int (own_size nn)), .val (.int (own_end nn i1)), .val (.int (1 : Int32))] [(.int (own_size nn)), (.long nn), (.int (15 : Int32)), (.ref ob5)])) _
    refine XS.iload X56.here hx rfl (hb hby at_617) rfl ?_
    show Steps p.tables e below (T56.setTop (mkF m 619 #[.val (.long jn), .second, .val (.int is), .val (.int ia), .val (.int if_), .val (.int sh), .val (.long nn), .second, .val (.int i1), .val (.int fl), .val (.ref ob5), .val (.int (own_size nn)), .val (.int (own_end nn i1)), .val (.int (1 : Int32))] [(.int i1), (.int (own_size nn)), (.long nn), (.int (15 : Int32)), (.ref ob5)])) _
    refine XS.iload X56.here hx rfl (hb hby at_619) rfl ?_
    show Steps p.tables e below (T56.setTop (mkF m 621 #[.val (.long jn), .second, .val (.int is), .val (.int ia), .val (.int if_), .val (.int sh), .val (.long nn), .second, .val (.int i1), .val (.int fl), .val (.ref ob5), .val (.int (own_size nn)), .val (.int (own_end nn i1)), .val (.int (1 : Int32))] [(.int fl), (.int i1), (.int (own_size nn)), (.long nn), (.int (15 : Int32)), (.ref ob5)])) _
    refine st57 _ ?_
    show Steps p.tables e below (T57.setTop (mkF m 624 #[.val (.long jn), .second, .val (.int is), .val (.int ia), .val (.int if_), .val (.int sh), .val (.long nn), .second, .val (.int i1), .val (.int fl), .val (.ref ob5), .val (.int (own_size nn)), .val (.int (own_end nn i1)), .val (.int (1 : Int32))] [(.int (1 : Int32))])) _
    refine XS.ifNo X57.here hx rfl (hb hby at_624) rfl (XT.i0_eq_f (by decide)) ?_
    show Steps p.tables e below (T57.setTop (mkF m 627 #[.val (.long jn), .second, .val (.int is), .val (.int ia), .val (.int if_), .val (.int sh), .val (.long nn), .second, .val (.int i1), .val (.int fl), .val (.ref ob5), .val (.int (own_size nn)), .val (.int (own_end nn i1)), .val (.int (1 : Int32))] [])) _
    refine XT.iconstV X57.here hx rfl (1 : Int32) (hb hby at_627) rfl ?_
    show Steps p.tables e below (T57.setTop (mkF m 628 #[.val (.long jn), .second, .val (.int is), .val (.int ia), .val (.int if_), .val (.int sh), .val (.long nn), .second, .val (.int i1), .val (.int fl), .val (.ref ob5), .val (.int (own_size nn)), .val (.int (own_end nn i1)), .val (.int (1 : Int32))] [(.int (1 : Int32))])) _
    refine XS.goto X57.here hx rfl (pc0 := 628) (pc' := 632) rfl (hb hby at_628) (by decide) (by decide) ?_
    show Steps p.tables e below (T57.setTop (mkF m 632 #[.val (.long jn), .second, .val (.int is), .val (.int ia), .val (.int if_), .val (.int sh), .val (.long nn), .second, .val (.int i1), .val (.int fl), .val (.ref ob5), .val (.int (own_size nn)), .val (.int (own_end nn i1)), .val (.int (1 : Int32))] [(.int (1 : Int32))])) _
    refine XS.istore X57.here hx rfl (hb hby at_632) rfl (l' := #[.val (.long jn), .second, .val (.int is), .val (.int ia), .val (.int if_), .val (.int sh), .val (.long nn), .second, .val (.int i1), .val (.int fl), .val (.ref ob5), .val (.int (own_size nn)), .val (.int (own_end nn i1)), .val (.int (1 : Int32))]) rfl ?_
    show Steps p.tables e below (T57.setTop (mkF m 634 #[.val (.long jn), .second, .val (.int is), .val (.int ia), .val (.int if_), .val (.int sh), .val (.long nn), .second, .val (.int i1), .val (.int fl), .val (.ref ob5), .val (.int (own_size nn)), .val (.int (own_end nn i1)), .val (.int (1 : Int32))] [])) _
    refine XS.iload X57.here hx rfl (hb hby at_634) rfl ?_
    show Steps p.tables e below (T57.setTop (mkF m 636 #[.val (.long jn), .second, .val (.int is), .val (.int ia), .val (.int if_), .val (.int sh), .val (.long nn), .second, .val (.int i1), .val (.int fl), .val (.ref ob5), .val (.int (own_size nn)), .val (.int (own_end nn i1)), .val (.int (1 : Int32))] [(.int (1 : Int32))])) _
    exact retN X57 hx (t := .boolean) Bd.returns (by simp) (hb hby at_636) hr
  · show own_Q0 Z jn is ia if_ h0 n0 _ T57.heap _
    exact ⟨rfl, N57⟩
set_option maxRecDepth 65536 in
set_option maxHeartbeats 40000000 in
theorem comes_1 {Post : Tables → Env → Array Value → State → Outcome → State → Prop} (hpost : ∀ tb e args s v u, (limb_1_1.after args s (.returned v) u = true ∧ limb_1_2.after args s (.returned v) u = true ∧ True) → FrameEnd s (.returned v) u (Jvm.fieldLocs frame_1_writes args s ++ Jvm.arrayLocs frame_1_arrays args s ++ Jvm.staticLocs frame_1_statics s) 16 128 → Post tb e args s (.returned v) u) :
    ArmFor flags0 classFile x code maxLocals ret World_1 tables_1 room_1 Calls_1 rest_1 Pre_1 Post := by
  intro l hfl _ _ p e ha hc hk s m args below hf hA hF happ hP
  obtain ⟨hcalls, hrest, hpre⟩ := hP
  obtain ⟨-, -, -, hnamed, -, -, -, hat⟩ := (Spec.applies_iff hf).mp happ
  obtain ⟨hg, hn⟩ := and_e (Cond.before_iff.mp (show (Jvm.Cond.and given_1 narrow_1).before args s = true from hpre))
  obtain ⟨gc, gr0⟩ := and_e hg
  obtain ⟨ga0, gr1⟩ := and_e gr0
  obtain ⟨ga1, gr2⟩ := and_e gr1
  obtain ⟨ga2, gr3⟩ := and_e gr2
  obtain ⟨w0, w1, w2, w3, rfl⟩ : ∃ w0 w1 w2 w3 : Value, args = #[w0, w1, w2, w3] := by
    have hs : args.size = 4 := by simpa [Cond.value, given_1] using gc
    obtain ⟨L⟩ := args
    match L, hs with
    | [w0, w1, w2, w3], _ => exact ⟨w0, w1, w2, w3, rfl⟩
  have hw := fun d (hd : d ∈ tables_1) => atoms_spec (ws := Jvm.Cond.code x code maxLocals ret :: tables_1) hat d (List.mem_cons_of_mem _ hd)
  obtain ⟨i0, ei0⟩ := isL_v ga0
  obtain rfl : w0 = (.long i0) := Option.some.inj ei0
  obtain ⟨i1, ei1⟩ := is_v ga1
  obtain rfl : w1 = (.int i1) := Option.some.inj ei1
  obtain ⟨i2, ei2⟩ := is_v ga2
  obtain rfl : w2 = (.int i2) := Option.some.inj ei2
  obtain ⟨i3, ei3⟩ := is_v gr3
  obtain rfl : w3 = (.int i3) := Option.some.inj ei3
  obtain ⟨n, o, h1, h2, h3, _, L, rfl, ⟨rfl, N⟩, hq⟩ := own_rm0 l s _ hw tables_1 i0 i1 i2 i3 s.heap s.heap.size (Nat.le_refl _) p e ha hc hk s m _ below hf ((Spec.applies_iff_loose hf).mp happ).1 ⟨rfl, State.Warmed39.refl s, rfl⟩ trivial
  refine ⟨n, _, h1, h2, h3, hpost _ _ _ _ _ _ ⟨Cond.after_iff.mpr rfl, Cond.after_iff.mpr (eq_i res_at (Term.int_eval (1)) rfl), trivial⟩ ⟨hq.1, hq.2.1, (hq.2.2.sift fun y hy => Or.inr (N y hy)).mono (by decide) (by decide)⟩⟩
theorem main_1_1 : Claimed_1_1 := comes_1 fun _ _ _ _ _ _ h hF => ⟨h.1, hF⟩
theorem main_1_2 : Claimed_1_2 := comes_1 fun _ _ _ _ _ _ h hF => ⟨h.2.1, hF⟩
end Jvm.Pilot.@@N@@
namespace Jvm.Pilot.@@N@@
open Jvm Jvm.ClassFile Sem Op Lib Jvm.Free Jvm.Stand Jvm.Pilot.@@N@@.Jvm.D
/-! MADE BY PROGRAM (witnessworld.py) out of the Statement's table words and the real class files: 9 classes; the members and pool entries that the words name. The judged class is class 1, her method 1. -/
namespace start1
open Jvm.ClassFile
def u (s : String) : CpInfo := .utf8 (stringToUtf16 s)
/-- a pool by its gaps: so many unusable entries, then the entry; so many at the end -/
def gap : Nat → List CpInfo → List CpInfo
  | 0, r => r
  | n + 1, r => .unusable :: gap n r
def poolList (es : List (Nat × CpInfo)) (last : Nat) : List CpInfo := es.foldr (fun e r => gap e.1 (e.2 :: r)) (gap last [])
def pool (es : List (Nat × CpInfo)) (last : Nat) : Array CpInfo := ⟨poolList es last⟩
def fileOf (pool : Array CpInfo) (this : Nat) (attrs : Array Attribute := #[]) (ms : Array MethodInfo := #[]) (fl : Nat := 33) (sup : Nat := 0) (ifs : Array Nat := #[]) (fds : Array FieldInfo := #[]) : ClassFile where
  minorVersion := 0
  majorVersion := 65
  constantPool := pool
  accessFlags := fl
  thisClass := this
  superClass := sup
  interfaces := ifs
  fields := fds
  methods := ms
  attributes := attrs
def plain (name : String) (sup : Option ClassId) : Class where
  name := name
  kind := .ordinary
  loader := none
  accessFlags := 33
  super := sup
  interfaces := #[]
  cf := none
  fields := #[]
  methods := #[]
  instanceTypes := #[]
  staticTypes := #[]
  resolved := #[]
  callSites := []
  init := .initialized
  statics := none
  mirror := none

def pool0 : Array CpInfo := pool [(5, u "<init>"), (0, u "()V"), (1, .class_ 10), (1, u "java/lang/Object")] 113

def k0m0 : Method := { name := "<init>", desc := "()V", sig := { parameters := [], returnType := none }, accessFlags := 1, code := none }
/-- java/lang/Object -/
def k0 : Class := { plain "java/lang/Object" none with
  accessFlags := 33
  interfaces := #[]
  cf := some (fileOf pool0 8 #[] #[{ accessFlags := 1, nameIndex := 5, descriptorIndex := 6, attributes := #[] }] 33 0 #[] #[])
  fields := #[]
  methods := #[k0m0]
  instanceTypes := #[]
  staticTypes := #[]
  resolved := Array.replicate 124 none
  statics := none }

def pool1 : Array CpInfo := pool [(2, .class_ 4), (1, u "java/lang/Object"), (0, u "<init>"), (0, u "()V"), (0, .integer 2147483647), (2, .long 9223372036854775807), (1, .methodref 13 14), (0, .class_ 15), (0, .nameAndType 16 17), (0, u "com/example/plainsong/plainsong/PackedTextsWriteNumberPinLaw"), (0, u "expectedSize"), (0, u "(J)I"), (0, .methodref 19 20), (0, .class_ 21), (0, .nameAndType 22 23), (0, u "com/example/plainsong/plainsong/PackedTexts"), (0, u "writeNumber"), (0, u "(J[BI)I"), (0, .methodref 13 25), (0, .nameAndType 26 27), (0, u "check"), (0, u "([BIJIIB)Z"), (0, .long 128), (1, .long 16384), (1, .long 2097152), (1, .long 268435456), (1, .long 34359738368), (1, .long 4398046511104), (1, .long 562949953421312), (1, .long 72057594037927936), (1, .long 127), (3, u "law"), (0, u "(JIII)Z")] 5

def k1m0 : Method := { name := "<init>", desc := "()V", sig := { parameters := [], returnType := none }, accessFlags := 1, code := none }
def k1c1 : Code := { maxStack := 7, maxLocals := 14, code := code, exceptionTable := #[], attributes := #[] }
def k1m1 : Method := { name := "law", desc := "(JIII)Z", sig := { parameters := [.long, .int, .int, .int], returnType := some .boolean }, accessFlags := 9, code := some k1c1 }
def k1c2 : Code := { maxStack := 4, maxLocals := 2, code := method_3_code, exceptionTable := #[], attributes := #[] }
def k1m2 : Method := { name := "expectedSize", desc := "(J)I", sig := { parameters := [.long], returnType := some .int }, accessFlags := 10, code := some k1c2 }
def k1c3 : Code := { maxStack := 4, maxLocals := 11, code := method_4_code, exceptionTable := #[], attributes := #[] }
def k1m3 : Method := { name := "check", desc := "([BIJIIB)Z", sig := { parameters := [(.array .byte), .int, .long, .int, .int, .byte], returnType := some .boolean }, accessFlags := 10, code := some k1c3 }
/-- com/example/plainsong/plainsong/PackedTextsWriteNumberPinLaw -/
def k1 : Class := { plain "com/example/plainsong/plainsong/PackedTextsWriteNumberPinLaw" (some 0) with
  accessFlags := 49
  interfaces := #[]
  cf := some (fileOf pool1 13 #[] #[{ accessFlags := 1, nameIndex := 5, descriptorIndex := 6, attributes := #[] }, { accessFlags := 9, nameIndex := 48, descriptorIndex := 49, attributes := #[] }, { accessFlags := 10, nameIndex := 16, descriptorIndex := 17, attributes := #[] }, { accessFlags := 10, nameIndex := 26, descriptorIndex := 27, attributes := #[] }] 49 2 #[] #[])
  fields := #[]
  methods := #[k1m0, k1m1, k1m2, k1m3]
  instanceTypes := #[]
  staticTypes := #[]
  resolved := Array.replicate 55 none
  statics := none }

def pool2 : Array CpInfo := pool [(2, .class_ 4), (1, u "java/lang/Object"), (0, u "<init>"), (0, u "()V"), (1, .class_ 10), (1, u "com/example/plainsong/plainsong/PackedTexts"), (0, u "bytes"), (0, u "[B"), (2, u "starts"), (0, u "[I"), (6, u "length"), (0, u "I"), (14, u "count"), (24, u "writeNumber"), (0, u "(J[BI)I"), (29, .long 127), (1, .long 128)] 14

def k2m0 : Method := { name := "<init>", desc := "()V", sig := { parameters := [], returnType := none }, accessFlags := 0, code := none }
def k2c1 : Code := { maxStack := 6, maxLocals := 7, code := prog_54_method_10_code, exceptionTable := #[], attributes := #[] }
def k2m1 : Method := { name := "writeNumber", desc := "(J[BI)I", sig := { parameters := [.long, (.array .byte), .int], returnType := some .int }, accessFlags := 8, code := some k2c1 }
/-- com/example/plainsong/plainsong/PackedTexts -/
def k2 : Class := { plain "com/example/plainsong/plainsong/PackedTexts" (some 0) with
  accessFlags := 48
  interfaces := #[]
  cf := some (fileOf pool2 8 #[] #[{ accessFlags := 0, nameIndex := 5, descriptorIndex := 6, attributes := #[] }, { accessFlags := 8, nameIndex := 64, descriptorIndex := 65, attributes := #[] }] 48 2 #[] #[{ accessFlags := 2, nameIndex := 11, descriptorIndex := 12, attributes := #[] }, { accessFlags := 2, nameIndex := 23, descriptorIndex := 24, attributes := #[] }, { accessFlags := 2, nameIndex := 15, descriptorIndex := 16, attributes := #[] }, { accessFlags := 2, nameIndex := 39, descriptorIndex := 24, attributes := #[] }])
  fields := #[{ name := "bytes", type := (.array .byte), accessFlags := 2, slot := 0, constantValue := 0 }, { name := "length", type := .int, accessFlags := 2, slot := 1, constantValue := 0 }, { name := "starts", type := (.array .int), accessFlags := 2, slot := 2, constantValue := 0 }, { name := "count", type := .int, accessFlags := 2, slot := 3, constantValue := 0 }]
  methods := #[k2m0, k2m1]
  instanceTypes := #[(.array .byte), .int, (.array .int), .int]
  staticTypes := #[]
  resolved := Array.replicate 112 none
  statics := none }

def pool3 : Array CpInfo := pool [(1, u "java/lang/Cloneable"), (0, .class_ 1), (0, u "java/lang/Object"), (0, .class_ 3)] 3

/-- java/lang/Cloneable -/
def k3 : Class := { plain "java/lang/Cloneable" (some 0) with
  accessFlags := 1537
  interfaces := #[]
  cf := some (fileOf pool3 2 #[] #[] 1537 4 #[] #[])
  fields := #[]
  methods := #[]
  instanceTypes := #[]
  staticTypes := #[]
  resolved := Array.replicate 8 none
  statics := none }

def pool4 : Array CpInfo := pool [(1, u "java/io/Serializable"), (0, .class_ 1), (0, u "java/lang/Object"), (0, .class_ 3)] 3

/-- java/io/Serializable -/
def k4 : Class := { plain "java/io/Serializable" (some 0) with
  accessFlags := 1537
  interfaces := #[]
  cf := some (fileOf pool4 2 #[] #[] 1537 4 #[] #[])
  fields := #[]
  methods := #[]
  instanceTypes := #[]
  staticTypes := #[]
  resolved := Array.replicate 8 none
  statics := none }

/-- the primitive byte -/
def k5 : Class := { plain "byte" none with kind := .primitive 'B', accessFlags := 0x411 }
/-- [B -/
def k6 : Class := { plain "[B" (some 0) with kind := .array 5 .byte, interfaces := #[3, 4], accessFlags := 1041 }

/-- the primitive int -/
def k7 : Class := { plain "int" none with kind := .primitive 'I', accessFlags := 0x411 }
/-- [I -/
def k8 : Class := { plain "[I" (some 0) with kind := .array 7 .int, interfaces := #[3, 4], accessFlags := 1041 }

def heap : Heap := #[]
def classes : Array Class := #[k0, k1, k2, k3, k4, k5, k6, k7, k8]
def interned : List (Array UInt16 × Addr) := []
def slotsUsed : Nat := 0
def theMethod : MethodId := ⟨1, 1⟩
def args0 : Array Value := #[.long 5, .int 5, .int 5, .int 5]
def aboutOver (below : List Frame) : State where
  vm := { classes := classes, interned := interned.toArray }
  heap := heap
  slotsUsed := slotsUsed
  threads := #[{ frames := .invoking theMethod args0 :: below }]
def below0 : List Frame := [.native { method := ⟨0, 0⟩, args := #[] }]
def about1 : State := aboutOver below0
def p0 : Program := .bare "" "" ""
def e0 : Env := launch0.env 0 0 0
theorem w_frames : about1.frames = Frame.invoking theMethod args0 :: below0 := rfl
set_option maxRecDepth 65536 in
theorem w_args : argsFit about1.vm theMethod args0 = true := by decide +kernel
set_option maxRecDepth 65536 in
theorem w_heap : heapFits about1 = true := by decide +kernel
set_option maxRecDepth 65536 in
theorem w_runnable : about1.curStatus? = some .runnable := by decide +kernel
set_option maxRecDepth 65536 in
theorem w_alone : about1.alone = true := by decide +kernel
set_option maxRecDepth 65536 in
theorem w_named : about1.methodNamed? x = some theMethod := by decide +kernel
set_option maxRecDepth 65536 in
theorem w_hears : about1.hears theMethod below0 = true := by decide +kernel
set_option maxRecDepth 65536 in
theorem w_ripe : about1.ripe theMethod args0 below0 = true := by decide +kernel
theorem w_running : about1.status = .running := rfl
set_option maxRecDepth 65536 in
theorem w_room : about1.hasRoom e0.platform room_1 = true :=
  launch0.hasRoom_least _ room_1 (by decide +kernel) (by decide +kernel) (by decide +kernel) (by decide +kernel) (by decide +kernel) (by decide +kernel)
theorem allAtoms_all (ts : List Jvm.Cond) (a : Array Jvm.Value) (st : Jvm.State) : (allAtoms ts).before a st = ts.all (fun c => c.before a st) := by
  induction ts with
  | nil => rfl
  | cons c t ih =>
    show (Jvm.Cond.and c (allAtoms t)).before a st = _
    rw [Jvm.Cond.before_and, ih, List.all_cons]
def words1 : List Jvm.Cond := Jvm.Cond.code x code maxLocals ret :: tables_1
/-- a 'code' word, met by the world's own term for the bytes: nothing is compared byte by byte -/
theorem code_word {y : MethodName} {bytes : ByteArray} {mx : Nat} {rt : Option FieldType} {a : Array Value} {s : State} {m : MethodId} {meth : Method} {c : Code} (h1 : s.methodNamed? y = some m) (h2 : s.vm.method? m = some meth) (h3 : meth.code = some c) (h4 : c.code = bytes)
    (h5 : (c.maxLocals == mx && c.exceptionTable.isEmpty && decide (c.maxStack ≤ mostOperands) && decide (meth.sig.returnType = rt) && !meth.locks && decide (parseMethodDescriptor y.desc = some meth.sig)) = true) : (Jvm.Cond.code y bytes mx rt).before a s = true := by
  simp only [Bool.and_eq_true, beq_iff_eq, Bool.not_eq_true', decide_eq_true_eq] at h5
  obtain ⟨⟨⟨⟨⟨g1, g2⟩, g3⟩, g4⟩, g5⟩, g6⟩ := h5
  simp [Cond.before, Cond.holds, Cond.value, h1, h2, h3, h4, g1, g2, g3, g4, g5, g6]
def isCode : Jvm.Cond → Bool
  | .code _ _ _ _ => true
  | _ => false
theorem all_split {L : List Jvm.Cond} {P : Jvm.Cond → Bool} (h1 : L.all (fun c => isCode c || P c) = true) (h2 : ∀ c ∈ L.filter isCode, P c = true) : L.all P = true := by
  refine List.all_eq_true.mpr fun c hc => ?_
  have h := List.all_eq_true.mp h1 c hc
  rcases Bool.eq_false_or_eq_true (isCode c) with hi | hi
  · exact h2 c (List.mem_filter.mpr ⟨hc, hi⟩)
  · simpa [hi] using h
set_option maxRecDepth 65536 in
theorem w_c0 : (Jvm.Cond.code x code maxLocals ret).before args0 about1 = true := code_word (m := ⟨1, 1⟩) (meth := k1m1) (c := k1c1) (by decide +kernel) rfl rfl rfl (by decide +kernel)
set_option maxRecDepth 65536 in
theorem w_c1 : (Jvm.Cond.code ({ cls := "com/example/plainsong/plainsong/PackedTextsWriteNumberPinLaw", name := "expectedSize", desc := "(J)I" } : Jvm.MethodName) method_3_code (2 : Nat) (Option.some Jvm.ClassFile.FieldType.int)).before args0 about1 = true := code_word (m := ⟨1, 2⟩) (meth := k1m2) (c := k1c2) (by decide +kernel) rfl rfl rfl (by decide +kernel)
set_option maxRecDepth 65536 in
theorem w_c2 : (Jvm.Cond.code ({ cls := "com/example/plainsong/plainsong/PackedTexts", name := "writeNumber", desc := "(J[BI)I" } : Jvm.MethodName) prog_54_method_10_code (7 : Nat) (Option.some Jvm.ClassFile.FieldType.int)).before args0 about1 = true := code_word (m := ⟨2, 1⟩) (meth := k2m1) (c := k2c1) (by decide +kernel) rfl rfl rfl (by decide +kernel)
set_option maxRecDepth 65536 in
theorem w_c3 : (Jvm.Cond.code ({ cls := "com/example/plainsong/plainsong/PackedTextsWriteNumberPinLaw", name := "check", desc := "([BIJIIB)Z" } : Jvm.MethodName) method_4_code (11 : Nat) (Option.some Jvm.ClassFile.FieldType.boolean)).before args0 about1 = true := code_word (m := ⟨1, 3⟩) (meth := k1m3) (c := k1c3) (by decide +kernel) rfl rfl rfl (by decide +kernel)
def codes1 : List Jvm.Cond := [Jvm.Cond.code x code maxLocals ret, Jvm.Cond.code ({ cls := "com/example/plainsong/plainsong/PackedTextsWriteNumberPinLaw", name := "expectedSize", desc := "(J)I" } : Jvm.MethodName) method_3_code (2 : Nat) (Option.some Jvm.ClassFile.FieldType.int), Jvm.Cond.code ({ cls := "com/example/plainsong/plainsong/PackedTexts", name := "writeNumber", desc := "(J[BI)I" } : Jvm.MethodName) prog_54_method_10_code (7 : Nat) (Option.some Jvm.ClassFile.FieldType.int), Jvm.Cond.code ({ cls := "com/example/plainsong/plainsong/PackedTextsWriteNumberPinLaw", name := "check", desc := "([BIJIIB)Z" } : Jvm.MethodName) method_4_code (11 : Nat) (Option.some Jvm.ClassFile.FieldType.boolean)]
set_option maxRecDepth 65536 in
theorem codes_eq : words1.filter isCode = codes1 := rfl
theorem w_codes : ∀ c ∈ words1.filter isCode, c.before args0 about1 = true := by
  rw [codes_eq]
  intro c hc
  simp only [codes1, List.mem_cons, List.not_mem_nil, or_false] at hc
  rcases hc with rfl | rfl | rfl | rfl
  · exact w_c0
  · exact w_c1
  · exact w_c2
  · exact w_c3
set_option maxRecDepth 65536 in
theorem w_t1 : (words1.take 24).all (fun c => isCode c || c.before args0 about1) = true := by decide +kernel
set_option maxRecDepth 65536 in
theorem w_t2 : (words1.drop 24).all (fun c => isCode c || c.before args0 about1) = true := by decide +kernel
theorem w_tables : (allAtoms (Jvm.Cond.code x code maxLocals ret :: tables_1)).before args0 about1 = true := by
  rw [allAtoms_all]
  show words1.all (fun c => c.before args0 about1) = true
  refine all_split ?_ w_codes
  rw [← List.take_append_drop 24 words1, List.all_append, w_t1, w_t2]
  rfl
set_option maxRecDepth 65536 in
theorem w_case : (Jvm.Cond.and given_1 narrow_1).before args0 about1 = true := by decide +kernel
theorem w_applies : (headSpec (Jvm.Cond.code x code maxLocals ret :: tables_1) room_1).applies x e0.platform about1 = true :=
  (Spec.applies_iff w_frames).mpr ⟨w_running, w_runnable, w_alone, w_named, w_hears, w_ripe, w_room, w_tables⟩
theorem atStart : AtStart classFile x code maxLocals ret World_1 tables_1 room_1 Calls_1 rest_1 Pre_1 launch0 p0 e0 about1 theMethod args0 below0 :=
  ⟨lists_1, trivial, launch0.admits_env _ _ _, launch0.least_env, fairChoices_fair.cas, fairChoices_fair.clock, w_frames, w_args, w_heap, w_applies, trivial, trivial, w_case⟩
end start1
theorem witness_1 : WitnessClaimed_1 := ⟨start1.p0, start1.e0, start1.about1, start1.theMethod, start1.args0, start1.below0, start1.atStart⟩
end Jvm.Pilot.@@N@@
