import JvmDerived
import JvmDerived.Pilot.@@N@@Statement
import JvmDerived.Pilot.@@N@@Code
set_option linter.unusedVariables false
set_option linter.unusedSimpArgs false
namespace Jvm.Pilot.@@N@@
open Jvm Jvm.ClassFile Sem Op Lib Jvm.Free Jvm.Stand Jvm.LawKit Jvm.RoadKit Bundle Jvm.Pilot.@@N@@.Jvm.D
theorem own_pd0 : parseMethodDescriptor "([BI)I" = some ⟨[(.array .byte), .int], some .int⟩ := by decide +kernel
theorem own_pd1 : parseMethodDescriptor "([BI)J" = some ⟨[(.array .byte), .int], some .long⟩ := by decide +kernel
def own_dg (w : Int32) : Int64 := (w &&& (127 : Int32)).toInt64
def own_last (w0 w1 w2 w3 w4 w5 w6 w7 : Int32) : Int32 := (if w0 < 0 then (if w1 < 0 then (if w2 < 0 then (if w3 < 0 then (if w4 < 0 then (if w5 < 0 then (if w6 < 0 then (if w7 < 0 then (8 : Int32) else (7 : Int32)) else (6 : Int32)) else (5 : Int32)) else (4 : Int32)) else (3 : Int32)) else (2 : Int32)) else (1 : Int32)) else (0 : Int32))
def own_R0 (w0 : Int32) : Int64 := ((0 : Int64) ||| ((own_dg w0) <<< ((0 : Int32).toInt64 &&& 63)))
def own_R1 (w0 w1 : Int32) : Int64 := ((own_R0 w0) ||| ((own_dg w1) <<< ((7 : Int32).toInt64 &&& 63)))
def own_R2 (w0 w1 w2 : Int32) : Int64 := ((own_R1 w0 w1) ||| ((own_dg w2) <<< ((14 : Int32).toInt64 &&& 63)))
def own_R3 (w0 w1 w2 w3 : Int32) : Int64 := ((own_R2 w0 w1 w2) ||| ((own_dg w3) <<< ((21 : Int32).toInt64 &&& 63)))
def own_R4 (w0 w1 w2 w3 w4 : Int32) : Int64 := ((own_R3 w0 w1 w2 w3) ||| ((own_dg w4) <<< ((28 : Int32).toInt64 &&& 63)))
def own_R5 (w0 w1 w2 w3 w4 w5 : Int32) : Int64 := ((own_R4 w0 w1 w2 w3 w4) ||| ((own_dg w5) <<< ((35 : Int32).toInt64 &&& 63)))
def own_R6 (w0 w1 w2 w3 w4 w5 w6 : Int32) : Int64 := ((own_R5 w0 w1 w2 w3 w4 w5) ||| ((own_dg w6) <<< ((42 : Int32).toInt64 &&& 63)))
def own_R7 (w0 w1 w2 w3 w4 w5 w6 w7 : Int32) : Int64 := ((own_R6 w0 w1 w2 w3 w4 w5 w6) ||| ((own_dg w7) <<< ((49 : Int32).toInt64 &&& 63)))
def own_R8 (w0 w1 w2 w3 w4 w5 w6 w7 w8 : Int32) : Int64 := ((own_R7 w0 w1 w2 w3 w4 w5 w6 w7) ||| ((own_dg w8) <<< ((56 : Int32).toInt64 &&& 63)))
def own_P0 (w0 : Int32) : Int64 := (own_dg w0)
def own_P1 (w0 w1 : Int32) : Int64 := ((own_P0 w0) ||| ((own_dg w1) <<< ((7 : Int32).toInt64 &&& 63)))
def own_P2 (w0 w1 w2 : Int32) : Int64 := ((own_P1 w0 w1) ||| ((own_dg w2) <<< ((14 : Int32).toInt64 &&& 63)))
def own_P3 (w0 w1 w2 w3 : Int32) : Int64 := ((own_P2 w0 w1 w2) ||| ((own_dg w3) <<< ((21 : Int32).toInt64 &&& 63)))
def own_P4 (w0 w1 w2 w3 w4 : Int32) : Int64 := ((own_P3 w0 w1 w2 w3) ||| ((own_dg w4) <<< ((28 : Int32).toInt64 &&& 63)))
def own_P5 (w0 w1 w2 w3 w4 w5 : Int32) : Int64 := ((own_P4 w0 w1 w2 w3 w4) ||| ((own_dg w5) <<< ((35 : Int32).toInt64 &&& 63)))
def own_P6 (w0 w1 w2 w3 w4 w5 w6 : Int32) : Int64 := ((own_P5 w0 w1 w2 w3 w4 w5) ||| ((own_dg w6) <<< ((42 : Int32).toInt64 &&& 63)))
def own_P7 (w0 w1 w2 w3 w4 w5 w6 w7 : Int32) : Int64 := ((own_P6 w0 w1 w2 w3 w4 w5 w6) ||| ((own_dg w7) <<< ((49 : Int32).toInt64 &&& 63)))
def own_P8 (w0 w1 w2 w3 w4 w5 w6 w7 w8 : Int32) : Int64 := ((own_P7 w0 w1 w2 w3 w4 w5 w6 w7) ||| ((own_dg w8) <<< ((56 : Int32).toInt64 &&& 63)))
def own_rd (w0 w1 w2 w3 w4 w5 w6 w7 w8 : Int32) : Int64 := (if w0 < 0 then (if w1 < 0 then (if w2 < 0 then (if w3 < 0 then (if w4 < 0 then (if w5 < 0 then (if w6 < 0 then (if w7 < 0 then (own_R8 w0 w1 w2 w3 w4 w5 w6 w7 w8) else (own_R7 w0 w1 w2 w3 w4 w5 w6 w7)) else (own_R6 w0 w1 w2 w3 w4 w5 w6)) else (own_R5 w0 w1 w2 w3 w4 w5)) else (own_R4 w0 w1 w2 w3 w4)) else (own_R3 w0 w1 w2 w3)) else (own_R2 w0 w1 w2)) else (own_R1 w0 w1)) else (own_R0 w0))
theorem own_dgr (w : Int32) : 0 ≤ (own_dg w).toInt ∧ (own_dg w).toInt < 128 := by
  have h := c_mask w (127 : Int32) 7 (by decide) (by decide)
  have e : (((2 ^ 7 : Nat)) : Int) = 128 := by decide
  rw [e] at h
  have g : (own_dg w).toInt = (w &&& (127 : Int32)).toInt := c_i2l _
  rw [g, h]
  omega
theorem own_shl (x y m : Int64) (B : Int) (h : (1 : Int64) <<< y = m) (hm : m.toInt = B) (h0 : 0 ≤ x.toInt) (h1 : x.toInt < 128) (hB : 0 ≤ B) (hB2 : B ≤ 72057594037927936) : (x <<< y).toInt = x.toInt * B := by
  have h2 := c_lmul x m
  rw [← shlmL h, hm] at h2
  have h3 := rng64 (x <<< y)
  have h4 : 0 ≤ x.toInt * B := Int.mul_nonneg h0 hB
  have h5 : x.toInt * B ≤ 127 * B := Int.mul_le_mul_of_nonneg_right (by omega) hB
  omega
theorem own_or (b a : Int64) (k : Nat) (hk : k ≤ 63) (B : Int) (hB : B = (2 ^ k : Nat)) (hB2 : B ≤ 72057594037927936) (x : Int) (ha : a.toInt = x * B) (hx0 : 0 ≤ x) (hx : x < 128) (hb : 0 ≤ b.toInt) (hb2 : b.toInt < B) : (b ||| a).toInt = b.toInt + x * B := by
  have h := c_orL' b a k hk B hB (by rw [ha]; exact Int.mul_emod_left _ _) hb hb2
  have r := rng64 (b ||| a)
  have h4 : 0 ≤ x * B := Int.mul_nonneg hx0 (by omega)
  have h5 : x * B ≤ 127 * B := Int.mul_le_mul_of_nonneg_right (by omega) (by omega)
  rw [ha] at h
  omega
theorem own_Rv0 (w0 : Int32) : (own_R0 w0).toInt = (own_dg w0).toInt * 1 := by
  unfold own_R0
  have h : (0 : Int64) ||| ((own_dg w0) <<< ((0 : Int32).toInt64 &&& 63)) = (own_dg w0) := by
    rw [Int64.zero_or, shlmL (m := 1) (by decide), Int64.mul_one]
  rw [h, Int.mul_one]
theorem own_Rv1 (w0 w1 : Int32) : (own_R1 w0 w1).toInt = (own_dg w0).toInt * 1 + (own_dg w1).toInt * 128 := by
  have hp := own_Rv0 w0
  have d0 := own_dgr w0
  have d1 := own_dgr w1
  have hs := own_shl (own_dg w1) ((7 : Int32).toInt64 &&& 63) (128 : Int64) 128 (by decide) (by decide) d1.1 d1.2 (by decide) (by decide)
  have ho := own_or (own_R0 w0) _ 7 (by decide) 128 (by decide) (by decide) _ hs d1.1 d1.2 (by rw [hp]; omega) (by rw [hp]; omega)
  unfold own_R1
  rw [ho, hp]
theorem own_Rv2 (w0 w1 w2 : Int32) : (own_R2 w0 w1 w2).toInt = (own_dg w0).toInt * 1 + (own_dg w1).toInt * 128 + (own_dg w2).toInt * 16384 := by
  have hp := own_Rv1 w0 w1
  have d0 := own_dgr w0
  have d1 := own_dgr w1
  have d2 := own_dgr w2
  have hs := own_shl (own_dg w2) ((14 : Int32).toInt64 &&& 63) (16384 : Int64) 16384 (by decide) (by decide) d2.1 d2.2 (by decide) (by decide)
  have ho := own_or (own_R1 w0 w1) _ 14 (by decide) 16384 (by decide) (by decide) _ hs d2.1 d2.2 (by rw [hp]; omega) (by rw [hp]; omega)
  unfold own_R2
  rw [ho, hp]
theorem own_Rv3 (w0 w1 w2 w3 : Int32) : (own_R3 w0 w1 w2 w3).toInt = (own_dg w0).toInt * 1 + (own_dg w1).toInt * 128 + (own_dg w2).toInt * 16384 + (own_dg w3).toInt * 2097152 := by
  have hp := own_Rv2 w0 w1 w2
  have d0 := own_dgr w0
  have d1 := own_dgr w1
  have d2 := own_dgr w2
  have d3 := own_dgr w3
  have hs := own_shl (own_dg w3) ((21 : Int32).toInt64 &&& 63) (2097152 : Int64) 2097152 (by decide) (by decide) d3.1 d3.2 (by decide) (by decide)
  have ho := own_or (own_R2 w0 w1 w2) _ 21 (by decide) 2097152 (by decide) (by decide) _ hs d3.1 d3.2 (by rw [hp]; omega) (by rw [hp]; omega)
  unfold own_R3
  rw [ho, hp]
theorem own_Rv4 (w0 w1 w2 w3 w4 : Int32) : (own_R4 w0 w1 w2 w3 w4).toInt = (own_dg w0).toInt * 1 + (own_dg w1).toInt * 128 + (own_dg w2).toInt * 16384 + (own_dg w3).toInt * 2097152 + (own_dg w4).toInt * 268435456 := by
  have hp := own_Rv3 w0 w1 w2 w3
  have d0 := own_dgr w0
  have d1 := own_dgr w1
  have d2 := own_dgr w2
  have d3 := own_dgr w3
  have d4 := own_dgr w4
  have hs := own_shl (own_dg w4) ((28 : Int32).toInt64 &&& 63) (268435456 : Int64) 268435456 (by decide) (by decide) d4.1 d4.2 (by decide) (by decide)
  have ho := own_or (own_R3 w0 w1 w2 w3) _ 28 (by decide) 268435456 (by decide) (by decide) _ hs d4.1 d4.2 (by rw [hp]; omega) (by rw [hp]; omega)
  unfold own_R4
  rw [ho, hp]
theorem own_Rv5 (w0 w1 w2 w3 w4 w5 : Int32) : (own_R5 w0 w1 w2 w3 w4 w5).toInt = (own_dg w0).toInt * 1 + (own_dg w1).toInt * 128 + (own_dg w2).toInt * 16384 + (own_dg w3).toInt * 2097152 + (own_dg w4).toInt * 268435456 + (own_dg w5).toInt * 34359738368 := by
  have hp := own_Rv4 w0 w1 w2 w3 w4
  have d0 := own_dgr w0
  have d1 := own_dgr w1
  have d2 := own_dgr w2
  have d3 := own_dgr w3
  have d4 := own_dgr w4
  have d5 := own_dgr w5
  have hs := own_shl (own_dg w5) ((35 : Int32).toInt64 &&& 63) (34359738368 : Int64) 34359738368 (by decide) (by decide) d5.1 d5.2 (by decide) (by decide)
  have ho := own_or (own_R4 w0 w1 w2 w3 w4) _ 35 (by decide) 34359738368 (by decide) (by decide) _ hs d5.1 d5.2 (by rw [hp]; omega) (by rw [hp]; omega)
  unfold own_R5
  rw [ho, hp]
theorem own_Rv6 (w0 w1 w2 w3 w4 w5 w6 : Int32) : (own_R6 w0 w1 w2 w3 w4 w5 w6).toInt = (own_dg w0).toInt * 1 + (own_dg w1).toInt * 128 + (own_dg w2).toInt * 16384 + (own_dg w3).toInt * 2097152 + (own_dg w4).toInt * 268435456 + (own_dg w5).toInt * 34359738368 + (own_dg w6).toInt * 4398046511104 := by
  have hp := own_Rv5 w0 w1 w2 w3 w4 w5
  have d0 := own_dgr w0
  have d1 := own_dgr w1
  have d2 := own_dgr w2
  have d3 := own_dgr w3
  have d4 := own_dgr w4
  have d5 := own_dgr w5
  have d6 := own_dgr w6
  have hs := own_shl (own_dg w6) ((42 : Int32).toInt64 &&& 63) (4398046511104 : Int64) 4398046511104 (by decide) (by decide) d6.1 d6.2 (by decide) (by decide)
  have ho := own_or (own_R5 w0 w1 w2 w3 w4 w5) _ 42 (by decide) 4398046511104 (by decide) (by decide) _ hs d6.1 d6.2 (by rw [hp]; omega) (by rw [hp]; omega)
  unfold own_R6
  rw [ho, hp]
theorem own_Rv7 (w0 w1 w2 w3 w4 w5 w6 w7 : Int32) : (own_R7 w0 w1 w2 w3 w4 w5 w6 w7).toInt = (own_dg w0).toInt * 1 + (own_dg w1).toInt * 128 + (own_dg w2).toInt * 16384 + (own_dg w3).toInt * 2097152 + (own_dg w4).toInt * 268435456 + (own_dg w5).toInt * 34359738368 + (own_dg w6).toInt * 4398046511104 + (own_dg w7).toInt * 562949953421312 := by
  have hp := own_Rv6 w0 w1 w2 w3 w4 w5 w6
  have d0 := own_dgr w0
  have d1 := own_dgr w1
  have d2 := own_dgr w2
  have d3 := own_dgr w3
  have d4 := own_dgr w4
  have d5 := own_dgr w5
  have d6 := own_dgr w6
  have d7 := own_dgr w7
  have hs := own_shl (own_dg w7) ((49 : Int32).toInt64 &&& 63) (562949953421312 : Int64) 562949953421312 (by decide) (by decide) d7.1 d7.2 (by decide) (by decide)
  have ho := own_or (own_R6 w0 w1 w2 w3 w4 w5 w6) _ 49 (by decide) 562949953421312 (by decide) (by decide) _ hs d7.1 d7.2 (by rw [hp]; omega) (by rw [hp]; omega)
  unfold own_R7
  rw [ho, hp]
theorem own_Rv8 (w0 w1 w2 w3 w4 w5 w6 w7 w8 : Int32) : (own_R8 w0 w1 w2 w3 w4 w5 w6 w7 w8).toInt = (own_dg w0).toInt * 1 + (own_dg w1).toInt * 128 + (own_dg w2).toInt * 16384 + (own_dg w3).toInt * 2097152 + (own_dg w4).toInt * 268435456 + (own_dg w5).toInt * 34359738368 + (own_dg w6).toInt * 4398046511104 + (own_dg w7).toInt * 562949953421312 + (own_dg w8).toInt * 72057594037927936 := by
  have hp := own_Rv7 w0 w1 w2 w3 w4 w5 w6 w7
  have d0 := own_dgr w0
  have d1 := own_dgr w1
  have d2 := own_dgr w2
  have d3 := own_dgr w3
  have d4 := own_dgr w4
  have d5 := own_dgr w5
  have d6 := own_dgr w6
  have d7 := own_dgr w7
  have d8 := own_dgr w8
  have hs := own_shl (own_dg w8) ((56 : Int32).toInt64 &&& 63) (72057594037927936 : Int64) 72057594037927936 (by decide) (by decide) d8.1 d8.2 (by decide) (by decide)
  have ho := own_or (own_R7 w0 w1 w2 w3 w4 w5 w6 w7) _ 56 (by decide) 72057594037927936 (by decide) (by decide) _ hs d8.1 d8.2 (by rw [hp]; omega) (by rw [hp]; omega)
  unfold own_R8
  rw [ho, hp]
theorem own_Pv0 (w0 : Int32) : (own_P0 w0).toInt = (own_dg w0).toInt * 1 := by
  unfold own_P0
  rw [Int.mul_one]
theorem own_Pv1 (w0 w1 : Int32) : (own_P1 w0 w1).toInt = (own_dg w0).toInt * 1 + (own_dg w1).toInt * 128 := by
  have hp := own_Pv0 w0
  have d0 := own_dgr w0
  have d1 := own_dgr w1
  have hs := own_shl (own_dg w1) ((7 : Int32).toInt64 &&& 63) (128 : Int64) 128 (by decide) (by decide) d1.1 d1.2 (by decide) (by decide)
  have ho := own_or (own_P0 w0) _ 7 (by decide) 128 (by decide) (by decide) _ hs d1.1 d1.2 (by rw [hp]; omega) (by rw [hp]; omega)
  unfold own_P1
  rw [ho, hp]
theorem own_Pv2 (w0 w1 w2 : Int32) : (own_P2 w0 w1 w2).toInt = (own_dg w0).toInt * 1 + (own_dg w1).toInt * 128 + (own_dg w2).toInt * 16384 := by
  have hp := own_Pv1 w0 w1
  have d0 := own_dgr w0
  have d1 := own_dgr w1
  have d2 := own_dgr w2
  have hs := own_shl (own_dg w2) ((14 : Int32).toInt64 &&& 63) (16384 : Int64) 16384 (by decide) (by decide) d2.1 d2.2 (by decide) (by decide)
  have ho := own_or (own_P1 w0 w1) _ 14 (by decide) 16384 (by decide) (by decide) _ hs d2.1 d2.2 (by rw [hp]; omega) (by rw [hp]; omega)
  unfold own_P2
  rw [ho, hp]
theorem own_Pv3 (w0 w1 w2 w3 : Int32) : (own_P3 w0 w1 w2 w3).toInt = (own_dg w0).toInt * 1 + (own_dg w1).toInt * 128 + (own_dg w2).toInt * 16384 + (own_dg w3).toInt * 2097152 := by
  have hp := own_Pv2 w0 w1 w2
  have d0 := own_dgr w0
  have d1 := own_dgr w1
  have d2 := own_dgr w2
  have d3 := own_dgr w3
  have hs := own_shl (own_dg w3) ((21 : Int32).toInt64 &&& 63) (2097152 : Int64) 2097152 (by decide) (by decide) d3.1 d3.2 (by decide) (by decide)
  have ho := own_or (own_P2 w0 w1 w2) _ 21 (by decide) 2097152 (by decide) (by decide) _ hs d3.1 d3.2 (by rw [hp]; omega) (by rw [hp]; omega)
  unfold own_P3
  rw [ho, hp]
theorem own_Pv4 (w0 w1 w2 w3 w4 : Int32) : (own_P4 w0 w1 w2 w3 w4).toInt = (own_dg w0).toInt * 1 + (own_dg w1).toInt * 128 + (own_dg w2).toInt * 16384 + (own_dg w3).toInt * 2097152 + (own_dg w4).toInt * 268435456 := by
  have hp := own_Pv3 w0 w1 w2 w3
  have d0 := own_dgr w0
  have d1 := own_dgr w1
  have d2 := own_dgr w2
  have d3 := own_dgr w3
  have d4 := own_dgr w4
  have hs := own_shl (own_dg w4) ((28 : Int32).toInt64 &&& 63) (268435456 : Int64) 268435456 (by decide) (by decide) d4.1 d4.2 (by decide) (by decide)
  have ho := own_or (own_P3 w0 w1 w2 w3) _ 28 (by decide) 268435456 (by decide) (by decide) _ hs d4.1 d4.2 (by rw [hp]; omega) (by rw [hp]; omega)
  unfold own_P4
  rw [ho, hp]
theorem own_Pv5 (w0 w1 w2 w3 w4 w5 : Int32) : (own_P5 w0 w1 w2 w3 w4 w5).toInt = (own_dg w0).toInt * 1 + (own_dg w1).toInt * 128 + (own_dg w2).toInt * 16384 + (own_dg w3).toInt * 2097152 + (own_dg w4).toInt * 268435456 + (own_dg w5).toInt * 34359738368 := by
  have hp := own_Pv4 w0 w1 w2 w3 w4
  have d0 := own_dgr w0
  have d1 := own_dgr w1
  have d2 := own_dgr w2
  have d3 := own_dgr w3
  have d4 := own_dgr w4
  have d5 := own_dgr w5
  have hs := own_shl (own_dg w5) ((35 : Int32).toInt64 &&& 63) (34359738368 : Int64) 34359738368 (by decide) (by decide) d5.1 d5.2 (by decide) (by decide)
  have ho := own_or (own_P4 w0 w1 w2 w3 w4) _ 35 (by decide) 34359738368 (by decide) (by decide) _ hs d5.1 d5.2 (by rw [hp]; omega) (by rw [hp]; omega)
  unfold own_P5
  rw [ho, hp]
theorem own_Pv6 (w0 w1 w2 w3 w4 w5 w6 : Int32) : (own_P6 w0 w1 w2 w3 w4 w5 w6).toInt = (own_dg w0).toInt * 1 + (own_dg w1).toInt * 128 + (own_dg w2).toInt * 16384 + (own_dg w3).toInt * 2097152 + (own_dg w4).toInt * 268435456 + (own_dg w5).toInt * 34359738368 + (own_dg w6).toInt * 4398046511104 := by
  have hp := own_Pv5 w0 w1 w2 w3 w4 w5
  have d0 := own_dgr w0
  have d1 := own_dgr w1
  have d2 := own_dgr w2
  have d3 := own_dgr w3
  have d4 := own_dgr w4
  have d5 := own_dgr w5
  have d6 := own_dgr w6
  have hs := own_shl (own_dg w6) ((42 : Int32).toInt64 &&& 63) (4398046511104 : Int64) 4398046511104 (by decide) (by decide) d6.1 d6.2 (by decide) (by decide)
  have ho := own_or (own_P5 w0 w1 w2 w3 w4 w5) _ 42 (by decide) 4398046511104 (by decide) (by decide) _ hs d6.1 d6.2 (by rw [hp]; omega) (by rw [hp]; omega)
  unfold own_P6
  rw [ho, hp]
theorem own_Pv7 (w0 w1 w2 w3 w4 w5 w6 w7 : Int32) : (own_P7 w0 w1 w2 w3 w4 w5 w6 w7).toInt = (own_dg w0).toInt * 1 + (own_dg w1).toInt * 128 + (own_dg w2).toInt * 16384 + (own_dg w3).toInt * 2097152 + (own_dg w4).toInt * 268435456 + (own_dg w5).toInt * 34359738368 + (own_dg w6).toInt * 4398046511104 + (own_dg w7).toInt * 562949953421312 := by
  have hp := own_Pv6 w0 w1 w2 w3 w4 w5 w6
  have d0 := own_dgr w0
  have d1 := own_dgr w1
  have d2 := own_dgr w2
  have d3 := own_dgr w3
  have d4 := own_dgr w4
  have d5 := own_dgr w5
  have d6 := own_dgr w6
  have d7 := own_dgr w7
  have hs := own_shl (own_dg w7) ((49 : Int32).toInt64 &&& 63) (562949953421312 : Int64) 562949953421312 (by decide) (by decide) d7.1 d7.2 (by decide) (by decide)
  have ho := own_or (own_P6 w0 w1 w2 w3 w4 w5 w6) _ 49 (by decide) 562949953421312 (by decide) (by decide) _ hs d7.1 d7.2 (by rw [hp]; omega) (by rw [hp]; omega)
  unfold own_P7
  rw [ho, hp]
theorem own_Pv8 (w0 w1 w2 w3 w4 w5 w6 w7 w8 : Int32) : (own_P8 w0 w1 w2 w3 w4 w5 w6 w7 w8).toInt = (own_dg w0).toInt * 1 + (own_dg w1).toInt * 128 + (own_dg w2).toInt * 16384 + (own_dg w3).toInt * 2097152 + (own_dg w4).toInt * 268435456 + (own_dg w5).toInt * 34359738368 + (own_dg w6).toInt * 4398046511104 + (own_dg w7).toInt * 562949953421312 + (own_dg w8).toInt * 72057594037927936 := by
  have hp := own_Pv7 w0 w1 w2 w3 w4 w5 w6 w7
  have d0 := own_dgr w0
  have d1 := own_dgr w1
  have d2 := own_dgr w2
  have d3 := own_dgr w3
  have d4 := own_dgr w4
  have d5 := own_dgr w5
  have d6 := own_dgr w6
  have d7 := own_dgr w7
  have d8 := own_dgr w8
  have hs := own_shl (own_dg w8) ((56 : Int32).toInt64 &&& 63) (72057594037927936 : Int64) 72057594037927936 (by decide) (by decide) d8.1 d8.2 (by decide) (by decide)
  have ho := own_or (own_P7 w0 w1 w2 w3 w4 w5 w6 w7) _ 56 (by decide) 72057594037927936 (by decide) (by decide) _ hs d8.1 d8.2 (by rw [hp]; omega) (by rw [hp]; omega)
  unfold own_P8
  rw [ho, hp]
theorem own_mask (x m : Int64) (k : Nat) (hk : k ≤ 63) (B : Int) (hB : B = (2 ^ k : Nat)) (hm : m.toBitVec.toNat = 2 ^ k - 1) : (x &&& m).toInt = x.toInt % B := by rw [hB]; exact c_maskL x m k hk hm
def own_msk (n : Int32) : Int64 := (((1 : Int64) <<< (((7 : Int32) * (n + (1 : Int32))).toInt64 &&& 63)) - (1 : Int64))
theorem own_fin0 (w0 w1 w2 w3 w4 w5 w6 w7 w8 : Int32) : own_R0 w0 = own_P8 w0 w1 w2 w3 w4 w5 w6 w7 w8 &&& own_msk (0 : Int32) := by
  apply Int64.toInt_inj.mp
  rw [own_mask (own_P8 w0 w1 w2 w3 w4 w5 w6 w7 w8) (own_msk (0 : Int32)) 7 (by decide) 128 (by decide) (by decide), own_Pv8 w0 w1 w2 w3 w4 w5 w6 w7 w8, own_Rv0 w0]
  have d0 := own_dgr w0
  have d1 := own_dgr w1
  have d2 := own_dgr w2
  have d3 := own_dgr w3
  have d4 := own_dgr w4
  have d5 := own_dgr w5
  have d6 := own_dgr w6
  have d7 := own_dgr w7
  have d8 := own_dgr w8
  omega
theorem own_fin1 (w0 w1 w2 w3 w4 w5 w6 w7 w8 : Int32) : own_R1 w0 w1 = own_P8 w0 w1 w2 w3 w4 w5 w6 w7 w8 &&& own_msk (1 : Int32) := by
  apply Int64.toInt_inj.mp
  rw [own_mask (own_P8 w0 w1 w2 w3 w4 w5 w6 w7 w8) (own_msk (1 : Int32)) 14 (by decide) 16384 (by decide) (by decide), own_Pv8 w0 w1 w2 w3 w4 w5 w6 w7 w8, own_Rv1 w0 w1]
  have d0 := own_dgr w0
  have d1 := own_dgr w1
  have d2 := own_dgr w2
  have d3 := own_dgr w3
  have d4 := own_dgr w4
  have d5 := own_dgr w5
  have d6 := own_dgr w6
  have d7 := own_dgr w7
  have d8 := own_dgr w8
  omega
theorem own_fin2 (w0 w1 w2 w3 w4 w5 w6 w7 w8 : Int32) : own_R2 w0 w1 w2 = own_P8 w0 w1 w2 w3 w4 w5 w6 w7 w8 &&& own_msk (2 : Int32) := by
  apply Int64.toInt_inj.mp
  rw [own_mask (own_P8 w0 w1 w2 w3 w4 w5 w6 w7 w8) (own_msk (2 : Int32)) 21 (by decide) 2097152 (by decide) (by decide), own_Pv8 w0 w1 w2 w3 w4 w5 w6 w7 w8, own_Rv2 w0 w1 w2]
  have d0 := own_dgr w0
  have d1 := own_dgr w1
  have d2 := own_dgr w2
  have d3 := own_dgr w3
  have d4 := own_dgr w4
  have d5 := own_dgr w5
  have d6 := own_dgr w6
  have d7 := own_dgr w7
  have d8 := own_dgr w8
  omega
theorem own_fin3 (w0 w1 w2 w3 w4 w5 w6 w7 w8 : Int32) : own_R3 w0 w1 w2 w3 = own_P8 w0 w1 w2 w3 w4 w5 w6 w7 w8 &&& own_msk (3 : Int32) := by
  apply Int64.toInt_inj.mp
  rw [own_mask (own_P8 w0 w1 w2 w3 w4 w5 w6 w7 w8) (own_msk (3 : Int32)) 28 (by decide) 268435456 (by decide) (by decide), own_Pv8 w0 w1 w2 w3 w4 w5 w6 w7 w8, own_Rv3 w0 w1 w2 w3]
  have d0 := own_dgr w0
  have d1 := own_dgr w1
  have d2 := own_dgr w2
  have d3 := own_dgr w3
  have d4 := own_dgr w4
  have d5 := own_dgr w5
  have d6 := own_dgr w6
  have d7 := own_dgr w7
  have d8 := own_dgr w8
  omega
theorem own_fin4 (w0 w1 w2 w3 w4 w5 w6 w7 w8 : Int32) : own_R4 w0 w1 w2 w3 w4 = own_P8 w0 w1 w2 w3 w4 w5 w6 w7 w8 &&& own_msk (4 : Int32) := by
  apply Int64.toInt_inj.mp
  rw [own_mask (own_P8 w0 w1 w2 w3 w4 w5 w6 w7 w8) (own_msk (4 : Int32)) 35 (by decide) 34359738368 (by decide) (by decide), own_Pv8 w0 w1 w2 w3 w4 w5 w6 w7 w8, own_Rv4 w0 w1 w2 w3 w4]
  have d0 := own_dgr w0
  have d1 := own_dgr w1
  have d2 := own_dgr w2
  have d3 := own_dgr w3
  have d4 := own_dgr w4
  have d5 := own_dgr w5
  have d6 := own_dgr w6
  have d7 := own_dgr w7
  have d8 := own_dgr w8
  omega
theorem own_fin5 (w0 w1 w2 w3 w4 w5 w6 w7 w8 : Int32) : own_R5 w0 w1 w2 w3 w4 w5 = own_P8 w0 w1 w2 w3 w4 w5 w6 w7 w8 &&& own_msk (5 : Int32) := by
  apply Int64.toInt_inj.mp
  rw [own_mask (own_P8 w0 w1 w2 w3 w4 w5 w6 w7 w8) (own_msk (5 : Int32)) 42 (by decide) 4398046511104 (by decide) (by decide), own_Pv8 w0 w1 w2 w3 w4 w5 w6 w7 w8, own_Rv5 w0 w1 w2 w3 w4 w5]
  have d0 := own_dgr w0
  have d1 := own_dgr w1
  have d2 := own_dgr w2
  have d3 := own_dgr w3
  have d4 := own_dgr w4
  have d5 := own_dgr w5
  have d6 := own_dgr w6
  have d7 := own_dgr w7
  have d8 := own_dgr w8
  omega
theorem own_fin6 (w0 w1 w2 w3 w4 w5 w6 w7 w8 : Int32) : own_R6 w0 w1 w2 w3 w4 w5 w6 = own_P8 w0 w1 w2 w3 w4 w5 w6 w7 w8 &&& own_msk (6 : Int32) := by
  apply Int64.toInt_inj.mp
  rw [own_mask (own_P8 w0 w1 w2 w3 w4 w5 w6 w7 w8) (own_msk (6 : Int32)) 49 (by decide) 562949953421312 (by decide) (by decide), own_Pv8 w0 w1 w2 w3 w4 w5 w6 w7 w8, own_Rv6 w0 w1 w2 w3 w4 w5 w6]
  have d0 := own_dgr w0
  have d1 := own_dgr w1
  have d2 := own_dgr w2
  have d3 := own_dgr w3
  have d4 := own_dgr w4
  have d5 := own_dgr w5
  have d6 := own_dgr w6
  have d7 := own_dgr w7
  have d8 := own_dgr w8
  omega
theorem own_fin7 (w0 w1 w2 w3 w4 w5 w6 w7 w8 : Int32) : own_R7 w0 w1 w2 w3 w4 w5 w6 w7 = own_P8 w0 w1 w2 w3 w4 w5 w6 w7 w8 &&& own_msk (7 : Int32) := by
  apply Int64.toInt_inj.mp
  rw [own_mask (own_P8 w0 w1 w2 w3 w4 w5 w6 w7 w8) (own_msk (7 : Int32)) 56 (by decide) 72057594037927936 (by decide) (by decide), own_Pv8 w0 w1 w2 w3 w4 w5 w6 w7 w8, own_Rv7 w0 w1 w2 w3 w4 w5 w6 w7]
  have d0 := own_dgr w0
  have d1 := own_dgr w1
  have d2 := own_dgr w2
  have d3 := own_dgr w3
  have d4 := own_dgr w4
  have d5 := own_dgr w5
  have d6 := own_dgr w6
  have d7 := own_dgr w7
  have d8 := own_dgr w8
  omega
theorem own_fin8 (w0 w1 w2 w3 w4 w5 w6 w7 w8 : Int32) : own_R8 w0 w1 w2 w3 w4 w5 w6 w7 w8 = own_P8 w0 w1 w2 w3 w4 w5 w6 w7 w8 &&& own_msk (8 : Int32) := by
  apply Int64.toInt_inj.mp
  rw [own_mask (own_P8 w0 w1 w2 w3 w4 w5 w6 w7 w8) (own_msk (8 : Int32)) 63 (by decide) 9223372036854775808 (by decide) (by decide), own_Pv8 w0 w1 w2 w3 w4 w5 w6 w7 w8, own_Rv8 w0 w1 w2 w3 w4 w5 w6 w7 w8]
  have d0 := own_dgr w0
  have d1 := own_dgr w1
  have d2 := own_dgr w2
  have d3 := own_dgr w3
  have d4 := own_dgr w4
  have d5 := own_dgr w5
  have d6 := own_dgr w6
  have d7 := own_dgr w7
  have d8 := own_dgr w8
  omega
theorem own_law (w0 w1 w2 w3 w4 w5 w6 w7 w8 : Int32) : own_rd w0 w1 w2 w3 w4 w5 w6 w7 w8 = own_P8 w0 w1 w2 w3 w4 w5 w6 w7 w8 &&& own_msk (own_last w0 w1 w2 w3 w4 w5 w6 w7) := by
  unfold own_rd own_last
  by_cases h0 : w0 < 0
  rotate_left
  · rw [if_neg h0, if_neg h0]; exact own_fin0 w0 w1 w2 w3 w4 w5 w6 w7 w8
  rw [if_pos h0, if_pos h0]
  by_cases h1 : w1 < 0
  rotate_left
  · rw [if_neg h1, if_neg h1]; exact own_fin1 w0 w1 w2 w3 w4 w5 w6 w7 w8
  rw [if_pos h1, if_pos h1]
  by_cases h2 : w2 < 0
  rotate_left
  · rw [if_neg h2, if_neg h2]; exact own_fin2 w0 w1 w2 w3 w4 w5 w6 w7 w8
  rw [if_pos h2, if_pos h2]
  by_cases h3 : w3 < 0
  rotate_left
  · rw [if_neg h3, if_neg h3]; exact own_fin3 w0 w1 w2 w3 w4 w5 w6 w7 w8
  rw [if_pos h3, if_pos h3]
  by_cases h4 : w4 < 0
  rotate_left
  · rw [if_neg h4, if_neg h4]; exact own_fin4 w0 w1 w2 w3 w4 w5 w6 w7 w8
  rw [if_pos h4, if_pos h4]
  by_cases h5 : w5 < 0
  rotate_left
  · rw [if_neg h5, if_neg h5]; exact own_fin5 w0 w1 w2 w3 w4 w5 w6 w7 w8
  rw [if_pos h5, if_pos h5]
  by_cases h6 : w6 < 0
  rotate_left
  · rw [if_neg h6, if_neg h6]; exact own_fin6 w0 w1 w2 w3 w4 w5 w6 w7 w8
  rw [if_pos h6, if_pos h6]
  by_cases h7 : w7 < 0
  rotate_left
  · rw [if_neg h7, if_neg h7]; exact own_fin7 w0 w1 w2 w3 w4 w5 w6 w7 w8
  rw [if_pos h7, if_pos h7]
  exact own_fin8 w0 w1 w2 w3 w4 w5 w6 w7 w8
def own_got (i1 : Int32) (vs : List Value) (w0 w1 w2 w3 w4 w5 w6 w7 w8 : Int32) : Prop := (vs.getD (i1).toNatClampNeg (.int (0 : Int32)) = .int w0) ∧ (vs.getD ((i1 + (1 : Int32))).toNatClampNeg (.int (0 : Int32)) = .int w1) ∧ (vs.getD ((i1 + (2 : Int32))).toNatClampNeg (.int (0 : Int32)) = .int w2) ∧ (vs.getD ((i1 + (3 : Int32))).toNatClampNeg (.int (0 : Int32)) = .int w3) ∧ (vs.getD ((i1 + (4 : Int32))).toNatClampNeg (.int (0 : Int32)) = .int w4) ∧ (vs.getD ((i1 + (5 : Int32))).toNatClampNeg (.int (0 : Int32)) = .int w5) ∧ (vs.getD ((i1 + (6 : Int32))).toNatClampNeg (.int (0 : Int32)) = .int w6) ∧ (vs.getD ((i1 + (7 : Int32))).toNatClampNeg (.int (0 : Int32)) = .int w7) ∧ (vs.getD ((i1 + (8 : Int32))).toNatClampNeg (.int (0 : Int32)) = .int w8) ∧ (vs.getD (((i1 + (1 : Int32)) + (1 : Int32))).toNatClampNeg (.int (0 : Int32)) = .int w2) ∧ (vs.getD ((((i1 + (1 : Int32)) + (1 : Int32)) + (1 : Int32))).toNatClampNeg (.int (0 : Int32)) = .int w3) ∧ (vs.getD (((((i1 + (1 : Int32)) + (1 : Int32)) + (1 : Int32)) + (1 : Int32))).toNatClampNeg (.int (0 : Int32)) = .int w4) ∧ (vs.getD ((((((i1 + (1 : Int32)) + (1 : Int32)) + (1 : Int32)) + (1 : Int32)) + (1 : Int32))).toNatClampNeg (.int (0 : Int32)) = .int w5) ∧ (vs.getD (((((((i1 + (1 : Int32)) + (1 : Int32)) + (1 : Int32)) + (1 : Int32)) + (1 : Int32)) + (1 : Int32))).toNatClampNeg (.int (0 : Int32)) = .int w6) ∧ (vs.getD ((((((((i1 + (1 : Int32)) + (1 : Int32)) + (1 : Int32)) + (1 : Int32)) + (1 : Int32)) + (1 : Int32)) + (1 : Int32))).toNatClampNeg (.int (0 : Int32)) = .int w7) ∧ (vs.getD (((((((((i1 + (1 : Int32)) + (1 : Int32)) + (1 : Int32)) + (1 : Int32)) + (1 : Int32)) + (1 : Int32)) + (1 : Int32)) + (1 : Int32))).toNatClampNeg (.int (0 : Int32)) = .int w8) ∧ (¬ i1 < 0 ∧ i1 < (12 : Int32)) ∧ (¬ (i1 + (1 : Int32)) < 0 ∧ (i1 + (1 : Int32)) < (12 : Int32)) ∧ (¬ (i1 + (2 : Int32)) < 0 ∧ (i1 + (2 : Int32)) < (12 : Int32)) ∧ (¬ (i1 + (3 : Int32)) < 0 ∧ (i1 + (3 : Int32)) < (12 : Int32)) ∧ (¬ (i1 + (4 : Int32)) < 0 ∧ (i1 + (4 : Int32)) < (12 : Int32)) ∧ (¬ (i1 + (5 : Int32)) < 0 ∧ (i1 + (5 : Int32)) < (12 : Int32)) ∧ (¬ (i1 + (6 : Int32)) < 0 ∧ (i1 + (6 : Int32)) < (12 : Int32)) ∧ (¬ (i1 + (7 : Int32)) < 0 ∧ (i1 + (7 : Int32)) < (12 : Int32)) ∧ (¬ (i1 + (8 : Int32)) < 0 ∧ (i1 + (8 : Int32)) < (12 : Int32)) ∧ (¬ ((i1 + (1 : Int32)) + (1 : Int32)) < 0 ∧ ((i1 + (1 : Int32)) + (1 : Int32)) < (12 : Int32)) ∧ (¬ (((i1 + (1 : Int32)) + (1 : Int32)) + (1 : Int32)) < 0 ∧ (((i1 + (1 : Int32)) + (1 : Int32)) + (1 : Int32)) < (12 : Int32)) ∧ (¬ ((((i1 + (1 : Int32)) + (1 : Int32)) + (1 : Int32)) + (1 : Int32)) < 0 ∧ ((((i1 + (1 : Int32)) + (1 : Int32)) + (1 : Int32)) + (1 : Int32)) < (12 : Int32)) ∧ (¬ (((((i1 + (1 : Int32)) + (1 : Int32)) + (1 : Int32)) + (1 : Int32)) + (1 : Int32)) < 0 ∧ (((((i1 + (1 : Int32)) + (1 : Int32)) + (1 : Int32)) + (1 : Int32)) + (1 : Int32)) < (12 : Int32)) ∧ (¬ ((((((i1 + (1 : Int32)) + (1 : Int32)) + (1 : Int32)) + (1 : Int32)) + (1 : Int32)) + (1 : Int32)) < 0 ∧ ((((((i1 + (1 : Int32)) + (1 : Int32)) + (1 : Int32)) + (1 : Int32)) + (1 : Int32)) + (1 : Int32)) < (12 : Int32)) ∧ (¬ (((((((i1 + (1 : Int32)) + (1 : Int32)) + (1 : Int32)) + (1 : Int32)) + (1 : Int32)) + (1 : Int32)) + (1 : Int32)) < 0 ∧ (((((((i1 + (1 : Int32)) + (1 : Int32)) + (1 : Int32)) + (1 : Int32)) + (1 : Int32)) + (1 : Int32)) + (1 : Int32)) < (12 : Int32)) ∧ (¬ ((((((((i1 + (1 : Int32)) + (1 : Int32)) + (1 : Int32)) + (1 : Int32)) + (1 : Int32)) + (1 : Int32)) + (1 : Int32)) + (1 : Int32)) < 0 ∧ ((((((((i1 + (1 : Int32)) + (1 : Int32)) + (1 : Int32)) + (1 : Int32)) + (1 : Int32)) + (1 : Int32)) + (1 : Int32)) + (1 : Int32)) < (12 : Int32)) ∧ ¬ w8 < 0
theorem own_fld (kk : Int32) : (kk &&& (3 : Int32)) = 0 ∨ (kk &&& (3 : Int32)) = 1 ∨ (kk &&& (3 : Int32)) = 2 ∨ (kk &&& (3 : Int32)) = 3 := by
  have h := c_mask kk (3 : Int32) 2 (by decide) (by decide)
  have h8 : (((2 ^ 2 : Nat)) : Int) = 4 := by decide
  rw [h8] at h
  simp only [← Int32.toInt_inj, h]
  have e0 : (0 : Int32).toInt = 0 := by decide
  have e1 : (1 : Int32).toInt = 1 := by decide
  have e2 : (2 : Int32).toInt = 2 := by decide
  have e3 : (3 : Int32).toInt = 3 := by decide
  rw [e0, e1, e2, e3]
  omega
theorem own_b7 (y : Int32) : ¬ (((y &&& (127 : Int32)).toInt8.toInt32).toInt8.toInt32) < 0 := by
  have h := c_mask y (127 : Int32) 7 (by decide) (by decide)
  have e : (((2 ^ 7 : Nat)) : Int) = 128 := by decide
  rw [e] at h
  have h1 := c_i2b (y &&& (127 : Int32))
  have h2 := c_i2b ((y &&& (127 : Int32)).toInt8.toInt32)
  intro q
  have q2 := Int32.lt_iff_toInt_lt.mp q
  have e0 : (0 : Int32).toInt = 0 := by decide
  omega
theorem own_nine (i1 : Int32) (hk : i1 = 0 ∨ i1 = 1 ∨ i1 = 2 ∨ i1 = 3) (v0 v1 v2 v3 v4 v5 v6 v7 v8 v9 v10 v11 : Int32) :
    ∃ v8p : Int32, ∃ w0 w1 w2 w3 w4 w5 w6 w7 w8 : Int32, own_got i1 (([(.int v0), (.int v1), (.int v2), (.int v3), (.int v4), (.int v5), (.int v6), (.int v7), (.int v8), (.int v9), (.int v10), (.int v11)] : List Value).set ((i1 + (8 : Int32))).toNatClampNeg (.int (((v8p &&& (127 : Int32)).toInt8.toInt32).toInt8.toInt32))) w0 w1 w2 w3 w4 w5 w6 w7 w8 ∧ ([(.int v0), (.int v1), (.int v2), (.int v3), (.int v4), (.int v5), (.int v6), (.int v7), (.int v8), (.int v9), (.int v10), (.int v11)] : List Value).getD ((i1 + (8 : Int32))).toNatClampNeg (.int (0 : Int32)) = .int v8p := by
  rcases hk with rfl | rfl | rfl | rfl
  · exact ⟨v8, v0, v1, v2, v3, v4, v5, v6, v7, _, ⟨rfl, rfl, rfl, rfl, rfl, rfl, rfl, rfl, rfl, rfl, rfl, rfl, rfl, rfl, rfl, rfl, by decide, by decide, by decide, by decide, by decide, by decide, by decide, by decide, by decide, by decide, by decide, by decide, by decide, by decide, by decide, by decide, own_b7 _⟩, rfl⟩
  · exact ⟨v9, v1, v2, v3, v4, v5, v6, v7, v8, _, ⟨rfl, rfl, rfl, rfl, rfl, rfl, rfl, rfl, rfl, rfl, rfl, rfl, rfl, rfl, rfl, rfl, by decide, by decide, by decide, by decide, by decide, by decide, by decide, by decide, by decide, by decide, by decide, by decide, by decide, by decide, by decide, by decide, own_b7 _⟩, rfl⟩
  · exact ⟨v10, v2, v3, v4, v5, v6, v7, v8, v9, _, ⟨rfl, rfl, rfl, rfl, rfl, rfl, rfl, rfl, rfl, rfl, rfl, rfl, rfl, rfl, rfl, rfl, by decide, by decide, by decide, by decide, by decide, by decide, by decide, by decide, by decide, by decide, by decide, by decide, by decide, by decide, by decide, by decide, own_b7 _⟩, rfl⟩
  · exact ⟨v11, v3, v4, v5, v6, v7, v8, v9, v10, _, ⟨rfl, rfl, rfl, rfl, rfl, rfl, rfl, rfl, rfl, rfl, rfl, rfl, rfl, rfl, rfl, rfl, by decide, by decide, by decide, by decide, by decide, by decide, by decide, by decide, by decide, by decide, by decide, by decide, by decide, by decide, by decide, by decide, own_b7 _⟩, rfl⟩
theorem own_d1_0 : decode method_4_code 0 = .ok (.aload_n 0, 1) := by decide +kernel
theorem own_d1_1 : decode method_4_code 1 = .ok (.iload_n 1, 1) := by decide +kernel
theorem own_d1_2 : decode method_4_code 2 = .ok (.baload, 1) := by decide +kernel
theorem own_d1_3 : decode method_4_code 3 = .ok (.ifCond .lt 5, 3) := by decide +kernel
theorem own_d1_6 : decode method_4_code 6 = .ok (.iconst 0, 1) := by decide +kernel
theorem own_d1_7 : decode method_4_code 7 = .ok (.ireturn, 1) := by decide +kernel
theorem own_d1_8 : decode method_4_code 8 = .ok (.aload_n 0, 1) := by decide +kernel
theorem own_d1_9 : decode method_4_code 9 = .ok (.iload_n 1, 1) := by decide +kernel
theorem own_d1_10 : decode method_4_code 10 = .ok (.iconst 1, 1) := by decide +kernel
theorem own_d1_11 : decode method_4_code 11 = .ok (.iadd, 1) := by decide +kernel
theorem own_d1_12 : decode method_4_code 12 = .ok (.baload, 1) := by decide +kernel
theorem own_d1_13 : decode method_4_code 13 = .ok (.ifCond .lt 5, 3) := by decide +kernel
theorem own_d1_16 : decode method_4_code 16 = .ok (.iconst 1, 1) := by decide +kernel
theorem own_d1_17 : decode method_4_code 17 = .ok (.ireturn, 1) := by decide +kernel
theorem own_d1_18 : decode method_4_code 18 = .ok (.aload_n 0, 1) := by decide +kernel
theorem own_d1_19 : decode method_4_code 19 = .ok (.iload_n 1, 1) := by decide +kernel
theorem own_d1_20 : decode method_4_code 20 = .ok (.iconst 2, 1) := by decide +kernel
theorem own_d1_21 : decode method_4_code 21 = .ok (.iadd, 1) := by decide +kernel
theorem own_d1_22 : decode method_4_code 22 = .ok (.baload, 1) := by decide +kernel
theorem own_d1_23 : decode method_4_code 23 = .ok (.ifCond .lt 5, 3) := by decide +kernel
theorem own_d1_26 : decode method_4_code 26 = .ok (.iconst 2, 1) := by decide +kernel
theorem own_d1_27 : decode method_4_code 27 = .ok (.ireturn, 1) := by decide +kernel
theorem own_d1_28 : decode method_4_code 28 = .ok (.aload_n 0, 1) := by decide +kernel
theorem own_d1_29 : decode method_4_code 29 = .ok (.iload_n 1, 1) := by decide +kernel
theorem own_d1_30 : decode method_4_code 30 = .ok (.iconst 3, 1) := by decide +kernel
theorem own_d1_31 : decode method_4_code 31 = .ok (.iadd, 1) := by decide +kernel
theorem own_d1_32 : decode method_4_code 32 = .ok (.baload, 1) := by decide +kernel
theorem own_d1_33 : decode method_4_code 33 = .ok (.ifCond .lt 5, 3) := by decide +kernel
theorem own_d1_36 : decode method_4_code 36 = .ok (.iconst 3, 1) := by decide +kernel
theorem own_d1_37 : decode method_4_code 37 = .ok (.ireturn, 1) := by decide +kernel
theorem own_d1_38 : decode method_4_code 38 = .ok (.aload_n 0, 1) := by decide +kernel
theorem own_d1_39 : decode method_4_code 39 = .ok (.iload_n 1, 1) := by decide +kernel
theorem own_d1_40 : decode method_4_code 40 = .ok (.iconst 4, 1) := by decide +kernel
theorem own_d1_41 : decode method_4_code 41 = .ok (.iadd, 1) := by decide +kernel
theorem own_d1_42 : decode method_4_code 42 = .ok (.baload, 1) := by decide +kernel
theorem own_d1_43 : decode method_4_code 43 = .ok (.ifCond .lt 5, 3) := by decide +kernel
theorem own_d1_46 : decode method_4_code 46 = .ok (.iconst 4, 1) := by decide +kernel
theorem own_d1_47 : decode method_4_code 47 = .ok (.ireturn, 1) := by decide +kernel
theorem own_d1_48 : decode method_4_code 48 = .ok (.aload_n 0, 1) := by decide +kernel
theorem own_d1_49 : decode method_4_code 49 = .ok (.iload_n 1, 1) := by decide +kernel
theorem own_d1_50 : decode method_4_code 50 = .ok (.iconst 5, 1) := by decide +kernel
theorem own_d1_51 : decode method_4_code 51 = .ok (.iadd, 1) := by decide +kernel
theorem own_d1_52 : decode method_4_code 52 = .ok (.baload, 1) := by decide +kernel
theorem own_d1_53 : decode method_4_code 53 = .ok (.ifCond .lt 5, 3) := by decide +kernel
theorem own_d1_56 : decode method_4_code 56 = .ok (.iconst 5, 1) := by decide +kernel
theorem own_d1_57 : decode method_4_code 57 = .ok (.ireturn, 1) := by decide +kernel
theorem own_d1_58 : decode method_4_code 58 = .ok (.aload_n 0, 1) := by decide +kernel
theorem own_d1_59 : decode method_4_code 59 = .ok (.iload_n 1, 1) := by decide +kernel
theorem own_d1_60 : decode method_4_code 60 = .ok (.bipush 6, 2) := by decide +kernel
theorem own_d1_62 : decode method_4_code 62 = .ok (.iadd, 1) := by decide +kernel
theorem own_d1_63 : decode method_4_code 63 = .ok (.baload, 1) := by decide +kernel
theorem own_d1_64 : decode method_4_code 64 = .ok (.ifCond .lt 6, 3) := by decide +kernel
theorem own_d1_67 : decode method_4_code 67 = .ok (.bipush 6, 2) := by decide +kernel
theorem own_d1_69 : decode method_4_code 69 = .ok (.ireturn, 1) := by decide +kernel
theorem own_d1_70 : decode method_4_code 70 = .ok (.aload_n 0, 1) := by decide +kernel
theorem own_d1_71 : decode method_4_code 71 = .ok (.iload_n 1, 1) := by decide +kernel
theorem own_d1_72 : decode method_4_code 72 = .ok (.bipush 7, 2) := by decide +kernel
theorem own_d1_74 : decode method_4_code 74 = .ok (.iadd, 1) := by decide +kernel
theorem own_d1_75 : decode method_4_code 75 = .ok (.baload, 1) := by decide +kernel
theorem own_d1_76 : decode method_4_code 76 = .ok (.ifCond .lt 6, 3) := by decide +kernel
theorem own_d1_79 : decode method_4_code 79 = .ok (.bipush 7, 2) := by decide +kernel
theorem own_d1_81 : decode method_4_code 81 = .ok (.ireturn, 1) := by decide +kernel
theorem own_d1_82 : decode method_4_code 82 = .ok (.bipush 8, 2) := by decide +kernel
theorem own_d1_84 : decode method_4_code 84 = .ok (.ireturn, 1) := by decide +kernel
theorem own_pn1 : plainName "com/example/plainsong/plainsong/PackedTextsReadNumberPinLaw" = true := by first | (simp [plainName, overriddenIn]; done) | decide +kernel
theorem own_ef1 (m : MethodId) (a1 : Addr) (i1 : Int32) : entryFrame m #[(.ref a1), (.int i1)] 2 = mkF m 0 #[.val (.ref a1), .val (.int i1)] [] := by first | (simp [entryFrame, mkF, argsToLocals, Value.category]; done) | rfl
def own_Q1 (Z : State) (a1 : Addr) (i1 : Int32) (kc : ClassId) (vs : List Value) (w0 : Int32) (w1 : Int32) (w2 : Int32) (w3 : Int32) (w4 : Int32) (w5 : Int32) (w6 : Int32) (w7 : Int32) (h0 : Heap) (n0 : Nat) (v : Option Value) (h : Heap) (L : List Loc) : Prop := (v = some (.int (own_last w0 w1 w2 w3 w4 w5 w6 w7))) ∧ (Fr n0 L) ∧ (h = h0)
set_option maxRecDepth 65536 in
set_option maxHeartbeats 40000000 in
theorem own_rm1 (l : Launch) (Z : State) (a0 : Array Value) (hw : ∀ d ∈ tables_1, d.before a0 Z = true) (ws : List Jvm.Cond) (a1 : Addr) (i1 : Int32) (kc : ClassId) (vs : List Value) (w0 : Int32) (w1 : Int32) (w2 : Int32) (w3 : Int32) (w4 : Int32) (w5 : Int32) (w6 : Int32) (w7 : Int32) (h0 : Heap) (n0 : Nat) (Z0 : n0 ≤ h0.size) (P_V_a1 : Arv Z h0 a1 kc .byte (12 : Int32) vs (.int (0 : Int32))) (hat0 : vs.getD (i1).toNatClampNeg (.int (0 : Int32)) = .int w0) (hin0 : ¬ i1 < 0 ∧ i1 < (12 : Int32)) (hat1 : vs.getD ((i1 + (1 : Int32))).toNatClampNeg (.int (0 : Int32)) = .int w1) (hin1 : ¬ (i1 + (1 : Int32)) < 0 ∧ (i1 + (1 : Int32)) < (12 : Int32)) (hat2 : vs.getD ((i1 + (2 : Int32))).toNatClampNeg (.int (0 : Int32)) = .int w2) (hin2 : ¬ (i1 + (2 : Int32)) < 0 ∧ (i1 + (2 : Int32)) < (12 : Int32)) (hat3 : vs.getD ((i1 + (3 : Int32))).toNatClampNeg (.int (0 : Int32)) = .int w3) (hin3 : ¬ (i1 + (3 : Int32)) < 0 ∧ (i1 + (3 : Int32)) < (12 : Int32)) (hat4 : vs.getD ((i1 + (4 : Int32))).toNatClampNeg (.int (0 : Int32)) = .int w4) (hin4 : ¬ (i1 + (4 : Int32)) < 0 ∧ (i1 + (4 : Int32)) < (12 : Int32)) (hat5 : vs.getD ((i1 + (5 : Int32))).toNatClampNeg (.int (0 : Int32)) = .int w5) (hin5 : ¬ (i1 + (5 : Int32)) < 0 ∧ (i1 + (5 : Int32)) < (12 : Int32)) (hat6 : vs.getD ((i1 + (6 : Int32))).toNatClampNeg (.int (0 : Int32)) = .int w6) (hin6 : ¬ (i1 + (6 : Int32)) < 0 ∧ (i1 + (6 : Int32)) < (12 : Int32)) (hat7 : vs.getD ((i1 + (7 : Int32))).toNatClampNeg (.int (0 : Int32)) = .int w7) (hin7 : ¬ (i1 + (7 : Int32)) < 0 ∧ (i1 + (7 : Int32)) < (12 : Int32)) :
    MetFree l (⟨"com/example/plainsong/plainsong/PackedTextsReadNumberPinLaw", "last", "([BI)I"⟩ : MethodName) (head1 (Jvm.Cond.code (⟨"com/example/plainsong/plainsong/PackedTextsReadNumberPinLaw", "last", "([BI)I"⟩ : MethodName) method_4_code 2 (some .int) :: ws) ({ frames := 0, cells := 0, slots := 0, locals := 0 } : Room)) (fun ar_ U_ => ar_ = #[(.ref a1), (.int i1)] ∧ Z.Warmed39 U_.vm ∧ U_.heap = h0) (fun _ _ _ _ _ => True) (fun _ U_ o_ U_' => ∃ v_ L_, o_ = .returned v_ ∧ own_Q1 Z a1 i1 kc vs w0 w1 w2 w3 w4 w5 w6 w7 h0 n0 v_ U_'.heap L_ ∧ FrameEnd U_ o_ U_' L_ ({ frames := 0, cells := 0, slots := 0, locals := 0 } : Room).cells ({ frames := 0, cells := 0, slots := 0, locals := 0 } : Room).slots) := by
  refine MetFree.of_bodySF (plainFor_of_name own_pn1) hisR ?_
  intro p e s m args below meth c s₁ Bd hml0 hP hK
  obtain ⟨rfl, hZ, hh⟩ := hP
  have hx := Bd.exec
  have hby := Bd.bytes
  have hml : c.maxLocals = 2 := hml0
  have hown : s.vm.findClass "com/example/plainsong/plainsong/PackedTextsReadNumberPinLaw" = some m.cls := findClass_of_methodNamed Bd.named
  have hnm := (name_of_methodNamed Bd.named Bd.method).1
  have X0 : Stand p l e ({ frames := 0, cells := 0, slots := 0, locals := 0 } : Room) s m #[(.ref a1), (.int i1)] below meth c s₁ [] 0 0 := Stand.of_body Bd
  have e0 : s₁.heap = h0 := by rw [← hh, Bd.state]; rfl
  have N0 := Fr.nil n0
  have pre0 : ∀ t, Steps p.tables e below (s₁.setTop (mkF m 0 #[.val (.ref a1), .val (.int i1)] [])) t → Steps p.tables e below (s₁.setTop (entryFrame m #[(.ref a1), (.int i1)] 2)) t := fun t k => castTop (own_ef1 m a1 i1) k
  obtain ⟨cl1, Ar1, Q1, Sz1, Nn1, Ha1, Gf1⟩ := id P_V_a1
  have ghin1 : ¬ (i1 < 0 ∨ cl1.slots.size ≤ (i1).toNatClampNeg) := inb_of Sz1 hin0
  have ghat1 : cl1.slots[(i1).toNatClampNeg]? = some (.int w0) := Ha1.at ghin1 hat0
  have pre2 : ∀ t, Steps p.tables e below (s₁.setTop (mkF m 3 #[.val (.ref a1), .val (.int i1)] [(.int w0)])) t → Steps p.tables e below (s₁.setTop (entryFrame m #[(.ref a1), (.int i1)] 2)) t := fun t k => pre0 t (by
    show Steps p.tables e below (s₁.setTop (mkF m 0 #[.val (.ref a1), .val (.int i1)] [])) _
    refine XS.aloadN X0.here hx rfl (hb hby own_d1_0) rfl rfl ?_
    show Steps p.tables e below (s₁.setTop (mkF m 1 #[.val (.ref a1), .val (.int i1)] [(.ref a1)])) _
    refine XS.iloadN X0.here hx rfl (hb hby own_d1_1) rfl ?_
    show Steps p.tables e below (s₁.setTop (mkF m 2 #[.val (.ref a1), .val (.int i1)] [(.int i1), (.ref a1)])) _
    refine X0.baloadBytes hx (j := i1) (v := (.int w0)) (by rw [e0]; exact Ar1.1) (State.isArrayOf_alike hZ.alike Ar1.2.1) Ar1.2.2 ghin1 ghat1 (g := (mkF m 2 #[.val (.ref a1), .val (.int i1)] [(.int i1), (.ref a1)])) rfl rfl (hb hby own_d1_2) _ ?_
    exact k)
  by_cases hl0 : w0 < 0
  · obtain ⟨cl3, Ar3, Q3, Sz3, Nn3, Ha3, Gf3⟩ := id P_V_a1
    have ghin3 : ¬ ((i1 + (1 : Int32)) < 0 ∨ cl3.slots.size ≤ ((i1 + (1 : Int32))).toNatClampNeg) := inb_of Sz3 hin1
    have ghat3 : cl3.slots[((i1 + (1 : Int32))).toNatClampNeg]? = some (.int w1) := Ha3.at ghin3 hat1
    have pre4 : ∀ t, Steps p.tables e below (s₁.setTop (mkF m 13 #[.val (.ref a1), .val (.int i1)] [(.int w1)])) t → Steps p.tables e below (s₁.setTop (entryFrame m #[(.ref a1), (.int i1)] 2)) t := fun t k => pre2 t (by
      show Steps p.tables e below (s₁.setTop (mkF m 3 #[.val (.ref a1), .val (.int i1)] [(.int w0)])) _
      refine XS.ifYes X0.here hx rfl (pc0 := 3) (pc' := 8) rfl (hb hby own_d1_3) rfl (XT.i0_lt_t hl0) (by decide) (by decide) ?_
      show Steps p.tables e below (s₁.setTop (mkF m 8 #[.val (.ref a1), .val (.int i1)] [])) _
      refine XS.aloadN X0.here hx rfl (hb hby own_d1_8) rfl rfl ?_
      show Steps p.tables e below (s₁.setTop (mkF m 9 #[.val (.ref a1), .val (.int i1)] [(.ref a1)])) _
      refine XS.iloadN X0.here hx rfl (hb hby own_d1_9) rfl ?_
      show Steps p.tables e below (s₁.setTop (mkF m 10 #[.val (.ref a1), .val (.int i1)] [(.int i1), (.ref a1)])) _
      refine XT.iconstV X0.here hx rfl (1 : Int32) (hb hby own_d1_10) rfl ?_
      show Steps p.tables e below (s₁.setTop (mkF m 11 #[.val (.ref a1), .val (.int i1)] [(.int (1 : Int32)), (.int i1), (.ref a1)])) _
      refine XS.iadd X0.here hx rfl (hb hby own_d1_11) rfl ?_
      show Steps p.tables e below (s₁.setTop (mkF m 12 #[.val (.ref a1), .val (.int i1)] [(.int (i1 + (1 : Int32))), (.ref a1)])) _
      refine X0.baloadBytes hx (j := (i1 + (1 : Int32))) (v := (.int w1)) (by rw [e0]; exact Ar3.1) (State.isArrayOf_alike hZ.alike Ar3.2.1) Ar3.2.2 ghin3 ghat3 (g := (mkF m 12 #[.val (.ref a1), .val (.int i1)] [(.int (i1 + (1 : Int32))), (.ref a1)])) rfl rfl (hb hby own_d1_12) _ ?_
      exact k)
    by_cases hl1 : w1 < 0
    · obtain ⟨cl5, Ar5, Q5, Sz5, Nn5, Ha5, Gf5⟩ := id P_V_a1
      have ghin5 : ¬ ((i1 + (2 : Int32)) < 0 ∨ cl5.slots.size ≤ ((i1 + (2 : Int32))).toNatClampNeg) := inb_of Sz5 hin2
      have ghat5 : cl5.slots[((i1 + (2 : Int32))).toNatClampNeg]? = some (.int w2) := Ha5.at ghin5 hat2
      have pre6 : ∀ t, Steps p.tables e below (s₁.setTop (mkF m 23 #[.val (.ref a1), .val (.int i1)] [(.int w2)])) t → Steps p.tables e below (s₁.setTop (entryFrame m #[(.ref a1), (.int i1)] 2)) t := fun t k => pre4 t (by
        show Steps p.tables e below (s₁.setTop (mkF m 13 #[.val (.ref a1), .val (.int i1)] [(.int w1)])) _
        refine XS.ifYes X0.here hx rfl (pc0 := 13) (pc' := 18) rfl (hb hby own_d1_13) rfl (XT.i0_lt_t hl1) (by decide) (by decide) ?_
        show Steps p.tables e below (s₁.setTop (mkF m 18 #[.val (.ref a1), .val (.int i1)] [])) _
        refine XS.aloadN X0.here hx rfl (hb hby own_d1_18) rfl rfl ?_
        show Steps p.tables e below (s₁.setTop (mkF m 19 #[.val (.ref a1), .val (.int i1)] [(.ref a1)])) _
        refine XS.iloadN X0.here hx rfl (hb hby own_d1_19) rfl ?_
        show Steps p.tables e below (s₁.setTop (mkF m 20 #[.val (.ref a1), .val (.int i1)] [(.int i1), (.ref a1)])) _
        refine XT.iconstV X0.here hx rfl (2 : Int32) (hb hby own_d1_20) rfl ?_
        show Steps p.tables e below (s₁.setTop (mkF m 21 #[.val (.ref a1), .val (.int i1)] [(.int (2 : Int32)), (.int i1), (.ref a1)])) _
        refine XS.iadd X0.here hx rfl (hb hby own_d1_21) rfl ?_
        show Steps p.tables e below (s₁.setTop (mkF m 22 #[.val (.ref a1), .val (.int i1)] [(.int (i1 + (2 : Int32))), (.ref a1)])) _
        refine X0.baloadBytes hx (j := (i1 + (2 : Int32))) (v := (.int w2)) (by rw [e0]; exact Ar5.1) (State.isArrayOf_alike hZ.alike Ar5.2.1) Ar5.2.2 ghin5 ghat5 (g := (mkF m 22 #[.val (.ref a1), .val (.int i1)] [(.int (i1 + (2 : Int32))), (.ref a1)])) rfl rfl (hb hby own_d1_22) _ ?_
        exact k)
      by_cases hl2 : w2 < 0
      · obtain ⟨cl7, Ar7, Q7, Sz7, Nn7, Ha7, Gf7⟩ := id P_V_a1
        have ghin7 : ¬ ((i1 + (3 : Int32)) < 0 ∨ cl7.slots.size ≤ ((i1 + (3 : Int32))).toNatClampNeg) := inb_of Sz7 hin3
        have ghat7 : cl7.slots[((i1 + (3 : Int32))).toNatClampNeg]? = some (.int w3) := Ha7.at ghin7 hat3
        have pre8 : ∀ t, Steps p.tables e below (s₁.setTop (mkF m 33 #[.val (.ref a1), .val (.int i1)] [(.int w3)])) t → Steps p.tables e below (s₁.setTop (entryFrame m #[(.ref a1), (.int i1)] 2)) t := fun t k => pre6 t (by
          show Steps p.tables e below (s₁.setTop (mkF m 23 #[.val (.ref a1), .val (.int i1)] [(.int w2)])) _
          refine XS.ifYes X0.here hx rfl (pc0 := 23) (pc' := 28) rfl (hb hby own_d1_23) rfl (XT.i0_lt_t hl2) (by decide) (by decide) ?_
          show Steps p.tables e below (s₁.setTop (mkF m 28 #[.val (.ref a1), .val (.int i1)] [])) _
          refine XS.aloadN X0.here hx rfl (hb hby own_d1_28) rfl rfl ?_
          show Steps p.tables e below (s₁.setTop (mkF m 29 #[.val (.ref a1), .val (.int i1)] [(.ref a1)])) _
          refine XS.iloadN X0.here hx rfl (hb hby own_d1_29) rfl ?_
          show Steps p.tables e below (s₁.setTop (mkF m 30 #[.val (.ref a1), .val (.int i1)] [(.int i1), (.ref a1)])) _
          refine XT.iconstV X0.here hx rfl (3 : Int32) (hb hby own_d1_30) rfl ?_
          show Steps p.tables e below (s₁.setTop (mkF m 31 #[.val (.ref a1), .val (.int i1)] [(.int (3 : Int32)), (.int i1), (.ref a1)])) _
          refine XS.iadd X0.here hx rfl (hb hby own_d1_31) rfl ?_
          show Steps p.tables e below (s₁.setTop (mkF m 32 #[.val (.ref a1), .val (.int i1)] [(.int (i1 + (3 : Int32))), (.ref a1)])) _
          refine X0.baloadBytes hx (j := (i1 + (3 : Int32))) (v := (.int w3)) (by rw [e0]; exact Ar7.1) (State.isArrayOf_alike hZ.alike Ar7.2.1) Ar7.2.2 ghin7 ghat7 (g := (mkF m 32 #[.val (.ref a1), .val (.int i1)] [(.int (i1 + (3 : Int32))), (.ref a1)])) rfl rfl (hb hby own_d1_32) _ ?_
          exact k)
        by_cases hl3 : w3 < 0
        · obtain ⟨cl9, Ar9, Q9, Sz9, Nn9, Ha9, Gf9⟩ := id P_V_a1
          have ghin9 : ¬ ((i1 + (4 : Int32)) < 0 ∨ cl9.slots.size ≤ ((i1 + (4 : Int32))).toNatClampNeg) := inb_of Sz9 hin4
          have ghat9 : cl9.slots[((i1 + (4 : Int32))).toNatClampNeg]? = some (.int w4) := Ha9.at ghin9 hat4
          have pre10 : ∀ t, Steps p.tables e below (s₁.setTop (mkF m 43 #[.val (.ref a1), .val (.int i1)] [(.int w4)])) t → Steps p.tables e below (s₁.setTop (entryFrame m #[(.ref a1), (.int i1)] 2)) t := fun t k => pre8 t (by
            show Steps p.tables e below (s₁.setTop (mkF m 33 #[.val (.ref a1), .val (.int i1)] [(.int w3)])) _
            refine XS.ifYes X0.here hx rfl (pc0 := 33) (pc' := 38) rfl (hb hby own_d1_33) rfl (XT.i0_lt_t hl3) (by decide) (by decide) ?_
            show Steps p.tables e below (s₁.setTop (mkF m 38 #[.val (.ref a1), .val (.int i1)] [])) _
            refine XS.aloadN X0.here hx rfl (hb hby own_d1_38) rfl rfl ?_
            show Steps p.tables e below (s₁.setTop (mkF m 39 #[.val (.ref a1), .val (.int i1)] [(.ref a1)])) _
            refine XS.iloadN X0.here hx rfl (hb hby own_d1_39) rfl ?_
            show Steps p.tables e below (s₁.setTop (mkF m 40 #[.val (.ref a1), .val (.int i1)] [(.int i1), (.ref a1)])) _
            refine XT.iconstV X0.here hx rfl (4 : Int32) (hb hby own_d1_40) rfl ?_
            show Steps p.tables e below (s₁.setTop (mkF m 41 #[.val (.ref a1), .val (.int i1)] [(.int (4 : Int32)), (.int i1), (.ref a1)])) _
            refine XS.iadd X0.here hx rfl (hb hby own_d1_41) rfl ?_
            show Steps p.tables e below (s₁.setTop (mkF m 42 #[.val (.ref a1), .val (.int i1)] [(.int (i1 + (4 : Int32))), (.ref a1)])) _
            refine X0.baloadBytes hx (j := (i1 + (4 : Int32))) (v := (.int w4)) (by rw [e0]; exact Ar9.1) (State.isArrayOf_alike hZ.alike Ar9.2.1) Ar9.2.2 ghin9 ghat9 (g := (mkF m 42 #[.val (.ref a1), .val (.int i1)] [(.int (i1 + (4 : Int32))), (.ref a1)])) rfl rfl (hb hby own_d1_42) _ ?_
            exact k)
          by_cases hl4 : w4 < 0
          · obtain ⟨cl11, Ar11, Q11, Sz11, Nn11, Ha11, Gf11⟩ := id P_V_a1
            have ghin11 : ¬ ((i1 + (5 : Int32)) < 0 ∨ cl11.slots.size ≤ ((i1 + (5 : Int32))).toNatClampNeg) := inb_of Sz11 hin5
            have ghat11 : cl11.slots[((i1 + (5 : Int32))).toNatClampNeg]? = some (.int w5) := Ha11.at ghin11 hat5
            have pre12 : ∀ t, Steps p.tables e below (s₁.setTop (mkF m 53 #[.val (.ref a1), .val (.int i1)] [(.int w5)])) t → Steps p.tables e below (s₁.setTop (entryFrame m #[(.ref a1), (.int i1)] 2)) t := fun t k => pre10 t (by
              show Steps p.tables e below (s₁.setTop (mkF m 43 #[.val (.ref a1), .val (.int i1)] [(.int w4)])) _
              refine XS.ifYes X0.here hx rfl (pc0 := 43) (pc' := 48) rfl (hb hby own_d1_43) rfl (XT.i0_lt_t hl4) (by decide) (by decide) ?_
              show Steps p.tables e below (s₁.setTop (mkF m 48 #[.val (.ref a1), .val (.int i1)] [])) _
              refine XS.aloadN X0.here hx rfl (hb hby own_d1_48) rfl rfl ?_
              show Steps p.tables e below (s₁.setTop (mkF m 49 #[.val (.ref a1), .val (.int i1)] [(.ref a1)])) _
              refine XS.iloadN X0.here hx rfl (hb hby own_d1_49) rfl ?_
              show Steps p.tables e below (s₁.setTop (mkF m 50 #[.val (.ref a1), .val (.int i1)] [(.int i1), (.ref a1)])) _
              refine XT.iconstV X0.here hx rfl (5 : Int32) (hb hby own_d1_50) rfl ?_
              show Steps p.tables e below (s₁.setTop (mkF m 51 #[.val (.ref a1), .val (.int i1)] [(.int (5 : Int32)), (.int i1), (.ref a1)])) _
              refine XS.iadd X0.here hx rfl (hb hby own_d1_51) rfl ?_
              show Steps p.tables e below (s₁.setTop (mkF m 52 #[.val (.ref a1), .val (.int i1)] [(.int (i1 + (5 : Int32))), (.ref a1)])) _
              refine X0.baloadBytes hx (j := (i1 + (5 : Int32))) (v := (.int w5)) (by rw [e0]; exact Ar11.1) (State.isArrayOf_alike hZ.alike Ar11.2.1) Ar11.2.2 ghin11 ghat11 (g := (mkF m 52 #[.val (.ref a1), .val (.int i1)] [(.int (i1 + (5 : Int32))), (.ref a1)])) rfl rfl (hb hby own_d1_52) _ ?_
              exact k)
            by_cases hl5 : w5 < 0
            · obtain ⟨cl13, Ar13, Q13, Sz13, Nn13, Ha13, Gf13⟩ := id P_V_a1
              have ghin13 : ¬ ((i1 + (6 : Int32)) < 0 ∨ cl13.slots.size ≤ ((i1 + (6 : Int32))).toNatClampNeg) := inb_of Sz13 hin6
              have ghat13 : cl13.slots[((i1 + (6 : Int32))).toNatClampNeg]? = some (.int w6) := Ha13.at ghin13 hat6
              have pre14 : ∀ t, Steps p.tables e below (s₁.setTop (mkF m 64 #[.val (.ref a1), .val (.int i1)] [(.int w6)])) t → Steps p.tables e below (s₁.setTop (entryFrame m #[(.ref a1), (.int i1)] 2)) t := fun t k => pre12 t (by
                show Steps p.tables e below (s₁.setTop (mkF m 53 #[.val (.ref a1), .val (.int i1)] [(.int w5)])) _
                refine XS.ifYes X0.here hx rfl (pc0 := 53) (pc' := 58) rfl (hb hby own_d1_53) rfl (XT.i0_lt_t hl5) (by decide) (by decide) ?_
                show Steps p.tables e below (s₁.setTop (mkF m 58 #[.val (.ref a1), .val (.int i1)] [])) _
                refine XS.aloadN X0.here hx rfl (hb hby own_d1_58) rfl rfl ?_
                show Steps p.tables e below (s₁.setTop (mkF m 59 #[.val (.ref a1), .val (.int i1)] [(.ref a1)])) _
                refine XS.iloadN X0.here hx rfl (hb hby own_d1_59) rfl ?_
                show Steps p.tables e below (s₁.setTop (mkF m 60 #[.val (.ref a1), .val (.int i1)] [(.int i1), (.ref a1)])) _
                refine XT.bipushV X0.here hx rfl (6 : Int32) (hb hby own_d1_60) rfl ?_
                show Steps p.tables e below (s₁.setTop (mkF m 62 #[.val (.ref a1), .val (.int i1)] [(.int (6 : Int32)), (.int i1), (.ref a1)])) _
                refine XS.iadd X0.here hx rfl (hb hby own_d1_62) rfl ?_
                show Steps p.tables e below (s₁.setTop (mkF m 63 #[.val (.ref a1), .val (.int i1)] [(.int (i1 + (6 : Int32))), (.ref a1)])) _
                refine X0.baloadBytes hx (j := (i1 + (6 : Int32))) (v := (.int w6)) (by rw [e0]; exact Ar13.1) (State.isArrayOf_alike hZ.alike Ar13.2.1) Ar13.2.2 ghin13 ghat13 (g := (mkF m 63 #[.val (.ref a1), .val (.int i1)] [(.int (i1 + (6 : Int32))), (.ref a1)])) rfl rfl (hb hby own_d1_63) _ ?_
                exact k)
              by_cases hl6 : w6 < 0
              · obtain ⟨cl15, Ar15, Q15, Sz15, Nn15, Ha15, Gf15⟩ := id P_V_a1
                have ghin15 : ¬ ((i1 + (7 : Int32)) < 0 ∨ cl15.slots.size ≤ ((i1 + (7 : Int32))).toNatClampNeg) := inb_of Sz15 hin7
                have ghat15 : cl15.slots[((i1 + (7 : Int32))).toNatClampNeg]? = some (.int w7) := Ha15.at ghin15 hat7
                have pre16 : ∀ t, Steps p.tables e below (s₁.setTop (mkF m 76 #[.val (.ref a1), .val (.int i1)] [(.int w7)])) t → Steps p.tables e below (s₁.setTop (entryFrame m #[(.ref a1), (.int i1)] 2)) t := fun t k => pre14 t (by
                  show Steps p.tables e below (s₁.setTop (mkF m 64 #[.val (.ref a1), .val (.int i1)] [(.int w6)])) _
                  refine XS.ifYes X0.here hx rfl (pc0 := 64) (pc' := 70) rfl (hb hby own_d1_64) rfl (XT.i0_lt_t hl6) (by decide) (by decide) ?_
                  show Steps p.tables e below (s₁.setTop (mkF m 70 #[.val (.ref a1), .val (.int i1)] [])) _
                  refine XS.aloadN X0.here hx rfl (hb hby own_d1_70) rfl rfl ?_
                  show Steps p.tables e below (s₁.setTop (mkF m 71 #[.val (.ref a1), .val (.int i1)] [(.ref a1)])) _
                  refine XS.iloadN X0.here hx rfl (hb hby own_d1_71) rfl ?_
                  show Steps p.tables e below (s₁.setTop (mkF m 72 #[.val (.ref a1), .val (.int i1)] [(.int i1), (.ref a1)])) _
                  refine XT.bipushV X0.here hx rfl (7 : Int32) (hb hby own_d1_72) rfl ?_
                  show Steps p.tables e below (s₁.setTop (mkF m 74 #[.val (.ref a1), .val (.int i1)] [(.int (7 : Int32)), (.int i1), (.ref a1)])) _
                  refine XS.iadd X0.here hx rfl (hb hby own_d1_74) rfl ?_
                  show Steps p.tables e below (s₁.setTop (mkF m 75 #[.val (.ref a1), .val (.int i1)] [(.int (i1 + (7 : Int32))), (.ref a1)])) _
                  refine X0.baloadBytes hx (j := (i1 + (7 : Int32))) (v := (.int w7)) (by rw [e0]; exact Ar15.1) (State.isArrayOf_alike hZ.alike Ar15.2.1) Ar15.2.2 ghin15 ghat15 (g := (mkF m 75 #[.val (.ref a1), .val (.int i1)] [(.int (i1 + (7 : Int32))), (.ref a1)])) rfl rfl (hb hby own_d1_75) _ ?_
                  exact k)
                by_cases hl7 : w7 < 0
                · obtain ⟨fs, hr, hrun, hended, hW, hsame⟩ := X0.leave (v := some (.int (8 : Int32))) (fun h => by rw [Bd.returns] at h; cases h)
                  refine ⟨_, _, pre16 _ ?_, hrun, hended, _, _, rfl, ?_, ⟨_, rfl⟩, hW, hsame.mono (by decide) (by decide)⟩
                  · show Steps p.tables e below (s₁.setTop (mkF m 76 #[.val (.ref a1), .val (.int i1)] [(.int w7)])) _
                    refine XS.ifYes X0.here hx rfl (pc0 := 76) (pc' := 82) rfl (hb hby own_d1_76) rfl (XT.i0_lt_t hl7) (by decide) (by decide) ?_
                    show Steps p.tables e below (s₁.setTop (mkF m 82 #[.val (.ref a1), .val (.int i1)] [])) _
                    refine XT.bipushV X0.here hx rfl (8 : Int32) (hb hby own_d1_82) rfl ?_
                    show Steps p.tables e below (s₁.setTop (mkF m 84 #[.val (.ref a1), .val (.int i1)] [(.int (8 : Int32))])) _
                    exact retOut X0 hx (t := .int) Bd.returns rfl (Or.inl ⟨rfl, Or.inl rfl, _, rfl⟩) (hb hby own_d1_84) hr
                  · show own_Q1 Z a1 i1 kc vs w0 w1 w2 w3 w4 w5 w6 w7 h0 n0 _ s₁.heap _
                    exact ⟨by unfold own_last; rw [if_pos hl0, if_pos hl1, if_pos hl2, if_pos hl3, if_pos hl4, if_pos hl5, if_pos hl6, if_pos hl7], N0, e0⟩
                · obtain ⟨fs, hr, hrun, hended, hW, hsame⟩ := X0.leave (v := some (.int (7 : Int32))) (fun h => by rw [Bd.returns] at h; cases h)
                  refine ⟨_, _, pre16 _ ?_, hrun, hended, _, _, rfl, ?_, ⟨_, rfl⟩, hW, hsame.mono (by decide) (by decide)⟩
                  · show Steps p.tables e below (s₁.setTop (mkF m 76 #[.val (.ref a1), .val (.int i1)] [(.int w7)])) _
                    refine XS.ifNo X0.here hx rfl (hb hby own_d1_76) rfl (XT.i0_lt_f hl7) ?_
                    show Steps p.tables e below (s₁.setTop (mkF m 79 #[.val (.ref a1), .val (.int i1)] [])) _
                    refine XT.bipushV X0.here hx rfl (7 : Int32) (hb hby own_d1_79) rfl ?_
                    show Steps p.tables e below (s₁.setTop (mkF m 81 #[.val (.ref a1), .val (.int i1)] [(.int (7 : Int32))])) _
                    exact retOut X0 hx (t := .int) Bd.returns rfl (Or.inl ⟨rfl, Or.inl rfl, _, rfl⟩) (hb hby own_d1_81) hr
                  · show own_Q1 Z a1 i1 kc vs w0 w1 w2 w3 w4 w5 w6 w7 h0 n0 _ s₁.heap _
                    exact ⟨by unfold own_last; rw [if_pos hl0, if_pos hl1, if_pos hl2, if_pos hl3, if_pos hl4, if_pos hl5, if_pos hl6, if_neg hl7], N0, e0⟩
              · obtain ⟨fs, hr, hrun, hended, hW, hsame⟩ := X0.leave (v := some (.int (6 : Int32))) (fun h => by rw [Bd.returns] at h; cases h)
                refine ⟨_, _, pre14 _ ?_, hrun, hended, _, _, rfl, ?_, ⟨_, rfl⟩, hW, hsame.mono (by decide) (by decide)⟩
                · show Steps p.tables e below (s₁.setTop (mkF m 64 #[.val (.ref a1), .val (.int i1)] [(.int w6)])) _
                  refine XS.ifNo X0.here hx rfl (hb hby own_d1_64) rfl (XT.i0_lt_f hl6) ?_
                  show Steps p.tables e below (s₁.setTop (mkF m 67 #[.val (.ref a1), .val (.int i1)] [])) _
                  refine XT.bipushV X0.here hx rfl (6 : Int32) (hb hby own_d1_67) rfl ?_
                  show Steps p.tables e below (s₁.setTop (mkF m 69 #[.val (.ref a1), .val (.int i1)] [(.int (6 : Int32))])) _
                  exact retOut X0 hx (t := .int) Bd.returns rfl (Or.inl ⟨rfl, Or.inl rfl, _, rfl⟩) (hb hby own_d1_69) hr
                · show own_Q1 Z a1 i1 kc vs w0 w1 w2 w3 w4 w5 w6 w7 h0 n0 _ s₁.heap _
                  exact ⟨by unfold own_last; rw [if_pos hl0, if_pos hl1, if_pos hl2, if_pos hl3, if_pos hl4, if_pos hl5, if_neg hl6], N0, e0⟩
            · obtain ⟨fs, hr, hrun, hended, hW, hsame⟩ := X0.leave (v := some (.int (5 : Int32))) (fun h => by rw [Bd.returns] at h; cases h)
              refine ⟨_, _, pre12 _ ?_, hrun, hended, _, _, rfl, ?_, ⟨_, rfl⟩, hW, hsame.mono (by decide) (by decide)⟩
              · show Steps p.tables e below (s₁.setTop (mkF m 53 #[.val (.ref a1), .val (.int i1)] [(.int w5)])) _
                refine XS.ifNo X0.here hx rfl (hb hby own_d1_53) rfl (XT.i0_lt_f hl5) ?_
                show Steps p.tables e below (s₁.setTop (mkF m 56 #[.val (.ref a1), .val (.int i1)] [])) _
                refine XT.iconstV X0.here hx rfl (5 : Int32) (hb hby own_d1_56) rfl ?_
                show Steps p.tables e below (s₁.setTop (mkF m 57 #[.val (.ref a1), .val (.int i1)] [(.int (5 : Int32))])) _
                exact retOut X0 hx (t := .int) Bd.returns rfl (Or.inl ⟨rfl, Or.inl rfl, _, rfl⟩) (hb hby own_d1_57) hr
              · show own_Q1 Z a1 i1 kc vs w0 w1 w2 w3 w4 w5 w6 w7 h0 n0 _ s₁.heap _
                exact ⟨by unfold own_last; rw [if_pos hl0, if_pos hl1, if_pos hl2, if_pos hl3, if_pos hl4, if_neg hl5], N0, e0⟩
          · obtain ⟨fs, hr, hrun, hended, hW, hsame⟩ := X0.leave (v := some (.int (4 : Int32))) (fun h => by rw [Bd.returns] at h; cases h)
            refine ⟨_, _, pre10 _ ?_, hrun, hended, _, _, rfl, ?_, ⟨_, rfl⟩, hW, hsame.mono (by decide) (by decide)⟩
            · show Steps p.tables e below (s₁.setTop (mkF m 43 #[.val (.ref a1), .val (.int i1)] [(.int w4)])) _
              refine XS.ifNo X0.here hx rfl (hb hby own_d1_43) rfl (XT.i0_lt_f hl4) ?_
              show Steps p.tables e below (s₁.setTop (mkF m 46 #[.val (.ref a1), .val (.int i1)] [])) _
              refine XT.iconstV X0.here hx rfl (4 : Int32) (hb hby own_d1_46) rfl ?_
              show Steps p.tables e below (s₁.setTop (mkF m 47 #[.val (.ref a1), .val (.int i1)] [(.int (4 : Int32))])) _
              exact retOut X0 hx (t := .int) Bd.returns rfl (Or.inl ⟨rfl, Or.inl rfl, _, rfl⟩) (hb hby own_d1_47) hr
            · show own_Q1 Z a1 i1 kc vs w0 w1 w2 w3 w4 w5 w6 w7 h0 n0 _ s₁.heap _
              exact ⟨by unfold own_last; rw [if_pos hl0, if_pos hl1, if_pos hl2, if_pos hl3, if_neg hl4], N0, e0⟩
        · obtain ⟨fs, hr, hrun, hended, hW, hsame⟩ := X0.leave (v := some (.int (3 : Int32))) (fun h => by rw [Bd.returns] at h; cases h)
          refine ⟨_, _, pre8 _ ?_, hrun, hended, _, _, rfl, ?_, ⟨_, rfl⟩, hW, hsame.mono (by decide) (by decide)⟩
          · show Steps p.tables e below (s₁.setTop (mkF m 33 #[.val (.ref a1), .val (.int i1)] [(.int w3)])) _
            refine XS.ifNo X0.here hx rfl (hb hby own_d1_33) rfl (XT.i0_lt_f hl3) ?_
            show Steps p.tables e below (s₁.setTop (mkF m 36 #[.val (.ref a1), .val (.int i1)] [])) _
            refine XT.iconstV X0.here hx rfl (3 : Int32) (hb hby own_d1_36) rfl ?_
            show Steps p.tables e below (s₁.setTop (mkF m 37 #[.val (.ref a1), .val (.int i1)] [(.int (3 : Int32))])) _
            exact retOut X0 hx (t := .int) Bd.returns rfl (Or.inl ⟨rfl, Or.inl rfl, _, rfl⟩) (hb hby own_d1_37) hr
          · show own_Q1 Z a1 i1 kc vs w0 w1 w2 w3 w4 w5 w6 w7 h0 n0 _ s₁.heap _
            exact ⟨by unfold own_last; rw [if_pos hl0, if_pos hl1, if_pos hl2, if_neg hl3], N0, e0⟩
      · obtain ⟨fs, hr, hrun, hended, hW, hsame⟩ := X0.leave (v := some (.int (2 : Int32))) (fun h => by rw [Bd.returns] at h; cases h)
        refine ⟨_, _, pre6 _ ?_, hrun, hended, _, _, rfl, ?_, ⟨_, rfl⟩, hW, hsame.mono (by decide) (by decide)⟩
        · show Steps p.tables e below (s₁.setTop (mkF m 23 #[.val (.ref a1), .val (.int i1)] [(.int w2)])) _
          refine XS.ifNo X0.here hx rfl (hb hby own_d1_23) rfl (XT.i0_lt_f hl2) ?_
          show Steps p.tables e below (s₁.setTop (mkF m 26 #[.val (.ref a1), .val (.int i1)] [])) _
          refine XT.iconstV X0.here hx rfl (2 : Int32) (hb hby own_d1_26) rfl ?_
          show Steps p.tables e below (s₁.setTop (mkF m 27 #[.val (.ref a1), .val (.int i1)] [(.int (2 : Int32))])) _
          exact retOut X0 hx (t := .int) Bd.returns rfl (Or.inl ⟨rfl, Or.inl rfl, _, rfl⟩) (hb hby own_d1_27) hr
        · show own_Q1 Z a1 i1 kc vs w0 w1 w2 w3 w4 w5 w6 w7 h0 n0 _ s₁.heap _
          exact ⟨by unfold own_last; rw [if_pos hl0, if_pos hl1, if_neg hl2], N0, e0⟩
    · obtain ⟨fs, hr, hrun, hended, hW, hsame⟩ := X0.leave (v := some (.int (1 : Int32))) (fun h => by rw [Bd.returns] at h; cases h)
      refine ⟨_, _, pre4 _ ?_, hrun, hended, _, _, rfl, ?_, ⟨_, rfl⟩, hW, hsame.mono (by decide) (by decide)⟩
      · show Steps p.tables e below (s₁.setTop (mkF m 13 #[.val (.ref a1), .val (.int i1)] [(.int w1)])) _
        refine XS.ifNo X0.here hx rfl (hb hby own_d1_13) rfl (XT.i0_lt_f hl1) ?_
        show Steps p.tables e below (s₁.setTop (mkF m 16 #[.val (.ref a1), .val (.int i1)] [])) _
        refine XT.iconstV X0.here hx rfl (1 : Int32) (hb hby own_d1_16) rfl ?_
        show Steps p.tables e below (s₁.setTop (mkF m 17 #[.val (.ref a1), .val (.int i1)] [(.int (1 : Int32))])) _
        exact retOut X0 hx (t := .int) Bd.returns rfl (Or.inl ⟨rfl, Or.inl rfl, _, rfl⟩) (hb hby own_d1_17) hr
      · show own_Q1 Z a1 i1 kc vs w0 w1 w2 w3 w4 w5 w6 w7 h0 n0 _ s₁.heap _
        exact ⟨by unfold own_last; rw [if_pos hl0, if_neg hl1], N0, e0⟩
  · obtain ⟨fs, hr, hrun, hended, hW, hsame⟩ := X0.leave (v := some (.int (0 : Int32))) (fun h => by rw [Bd.returns] at h; cases h)
    refine ⟨_, _, pre2 _ ?_, hrun, hended, _, _, rfl, ?_, ⟨_, rfl⟩, hW, hsame.mono (by decide) (by decide)⟩
    · show Steps p.tables e below (s₁.setTop (mkF m 3 #[.val (.ref a1), .val (.int i1)] [(.int w0)])) _
      refine XS.ifNo X0.here hx rfl (hb hby own_d1_3) rfl (XT.i0_lt_f hl0) ?_
      show Steps p.tables e below (s₁.setTop (mkF m 6 #[.val (.ref a1), .val (.int i1)] [])) _
      refine XT.iconstV X0.here hx rfl (0 : Int32) (hb hby own_d1_6) rfl ?_
      show Steps p.tables e below (s₁.setTop (mkF m 7 #[.val (.ref a1), .val (.int i1)] [(.int (0 : Int32))])) _
      exact retOut X0 hx (t := .int) Bd.returns rfl (Or.inl ⟨rfl, Or.inl rfl, _, rfl⟩) (hb hby own_d1_7) hr
    · show own_Q1 Z a1 i1 kc vs w0 w1 w2 w3 w4 w5 w6 w7 h0 n0 _ s₁.heap _
      exact ⟨by unfold own_last; rw [if_neg hl0], N0, e0⟩
theorem own_d2_0 : decode method_3_code 0 = .ok (.aload_n 0, 1) := by decide +kernel
theorem own_d2_1 : decode method_3_code 1 = .ok (.iload_n 1, 1) := by decide +kernel
theorem own_d2_2 : decode method_3_code 2 = .ok (.baload, 1) := by decide +kernel
theorem own_d2_3 : decode method_3_code 3 = .ok (.bipush 127, 2) := by decide +kernel
theorem own_d2_5 : decode method_3_code 5 = .ok (.iand, 1) := by decide +kernel
theorem own_d2_6 : decode method_3_code 6 = .ok (.i2l, 1) := by decide +kernel
theorem own_d2_7 : decode method_3_code 7 = .ok (.lreturn, 1) := by decide +kernel
theorem own_pn2 : plainName "com/example/plainsong/plainsong/PackedTextsReadNumberPinLaw" = true := by first | (simp [plainName, overriddenIn]; done) | decide +kernel
theorem own_ef2 (m : MethodId) (a1 : Addr) (i1 : Int32) : entryFrame m #[(.ref a1), (.int i1)] 2 = mkF m 0 #[.val (.ref a1), .val (.int i1)] [] := by first | (simp [entryFrame, mkF, argsToLocals, Value.category]; done) | rfl
def own_Q2 (Z : State) (a1 : Addr) (i1 : Int32) (kc : ClassId) (vs : List Value) (w0 : Int32) (h0 : Heap) (n0 : Nat) (v : Option Value) (h : Heap) (L : List Loc) : Prop := (v = some (.long (own_dg w0))) ∧ (Fr n0 L) ∧ (h = h0)
set_option maxRecDepth 65536 in
set_option maxHeartbeats 40000000 in
theorem own_rm2 (l : Launch) (Z : State) (a0 : Array Value) (hw : ∀ d ∈ tables_1, d.before a0 Z = true) (ws : List Jvm.Cond) (a1 : Addr) (i1 : Int32) (kc : ClassId) (vs : List Value) (w0 : Int32) (h0 : Heap) (n0 : Nat) (Z0 : n0 ≤ h0.size) (P_V_a1 : Arv Z h0 a1 kc .byte (12 : Int32) vs (.int (0 : Int32))) (hat0 : vs.getD (i1).toNatClampNeg (.int (0 : Int32)) = .int w0) (hin0 : ¬ i1 < 0 ∧ i1 < (12 : Int32)) :
    MetFree l (⟨"com/example/plainsong/plainsong/PackedTextsReadNumberPinLaw", "d", "([BI)J"⟩ : MethodName) (head1 (Jvm.Cond.code (⟨"com/example/plainsong/plainsong/PackedTextsReadNumberPinLaw", "d", "([BI)J"⟩ : MethodName) method_3_code 2 (some .long) :: ws) ({ frames := 0, cells := 0, slots := 0, locals := 0 } : Room)) (fun ar_ U_ => ar_ = #[(.ref a1), (.int i1)] ∧ Z.Warmed39 U_.vm ∧ U_.heap = h0) (fun _ _ _ _ _ => True) (fun _ U_ o_ U_' => ∃ v_ L_, o_ = .returned v_ ∧ own_Q2 Z a1 i1 kc vs w0 h0 n0 v_ U_'.heap L_ ∧ FrameEnd U_ o_ U_' L_ ({ frames := 0, cells := 0, slots := 0, locals := 0 } : Room).cells ({ frames := 0, cells := 0, slots := 0, locals := 0 } : Room).slots) := by
  refine MetFree.of_bodySF (plainFor_of_name own_pn2) hisR ?_
  intro p e s m args below meth c s₁ Bd hml0 hP hK
  obtain ⟨rfl, hZ, hh⟩ := hP
  have hx := Bd.exec
  have hby := Bd.bytes
  have hml : c.maxLocals = 2 := hml0
  have hown : s.vm.findClass "com/example/plainsong/plainsong/PackedTextsReadNumberPinLaw" = some m.cls := findClass_of_methodNamed Bd.named
  have hnm := (name_of_methodNamed Bd.named Bd.method).1
  have X0 : Stand p l e ({ frames := 0, cells := 0, slots := 0, locals := 0 } : Room) s m #[(.ref a1), (.int i1)] below meth c s₁ [] 0 0 := Stand.of_body Bd
  have e0 : s₁.heap = h0 := by rw [← hh, Bd.state]; rfl
  have N0 := Fr.nil n0
  have pre0 : ∀ t, Steps p.tables e below (s₁.setTop (mkF m 0 #[.val (.ref a1), .val (.int i1)] [])) t → Steps p.tables e below (s₁.setTop (entryFrame m #[(.ref a1), (.int i1)] 2)) t := fun t k => castTop (own_ef2 m a1 i1) k
  obtain ⟨cl1, Ar1, Q1, Sz1, Nn1, Ha1, Gf1⟩ := id P_V_a1
  have ghin1 : ¬ (i1 < 0 ∨ cl1.slots.size ≤ (i1).toNatClampNeg) := inb_of Sz1 hin0
  have ghat1 : cl1.slots[(i1).toNatClampNeg]? = some (.int w0) := Ha1.at ghin1 hat0
  obtain ⟨fs, hr, hrun, hended, hW, hsame⟩ := X0.leave (v := some (.long ((w0 &&& (127 : Int32)).toInt64))) (fun h => by rw [Bd.returns] at h; cases h)
  refine ⟨_, _, pre0 _ ?_, hrun, hended, _, _, rfl, ?_, ⟨_, rfl⟩, hW, hsame.mono (by decide) (by decide)⟩
  · show Steps p.tables e below (s₁.setTop (mkF m 0 #[.val (.ref a1), .val (.int i1)] [])) _
    refine XS.aloadN X0.here hx rfl (hb hby own_d2_0) rfl rfl ?_
    show Steps p.tables e below (s₁.setTop (mkF m 1 #[.val (.ref a1), .val (.int i1)] [(.ref a1)])) _
    refine XS.iloadN X0.here hx rfl (hb hby own_d2_1) rfl ?_
    show Steps p.tables e below (s₁.setTop (mkF m 2 #[.val (.ref a1), .val (.int i1)] [(.int i1), (.ref a1)])) _
    refine X0.baloadBytes hx (j := i1) (v := (.int w0)) (by rw [e0]; exact Ar1.1) (State.isArrayOf_alike hZ.alike Ar1.2.1) Ar1.2.2 ghin1 ghat1 (g := (mkF m 2 #[.val (.ref a1), .val (.int i1)] [(.int i1), (.ref a1)])) rfl rfl (hb hby own_d2_2) _ ?_
    show Steps p.tables e below (s₁.setTop (mkF m 3 #[.val (.ref a1), .val (.int i1)] [(.int w0)])) _
    refine XT.bipushV X0.here hx rfl (127 : Int32) (hb hby own_d2_3) rfl ?_
    show Steps p.tables e below (s₁.setTop (mkF m 5 #[.val (.ref a1), .val (.int i1)] [(.int (127 : Int32)), (.int w0)])) _
    refine XS.iand X0.here hx rfl (hb hby own_d2_5) rfl ?_
    show Steps p.tables e below (s₁.setTop (mkF m 6 #[.val (.ref a1), .val (.int i1)] [(.int (w0 &&& (127 : Int32)))])) _
    refine XT.i2l X0.here hx rfl (hb hby own_d2_6) rfl ?_
    show Steps p.tables e below (s₁.setTop (mkF m 7 #[.val (.ref a1), .val (.int i1)] [(.long ((w0 &&& (127 : Int32)).toInt64))])) _
    exact retOut X0 hx (t := .long) Bd.returns rfl (Or.inr (Or.inl ⟨rfl, rfl, _, rfl⟩)) (hb hby own_d2_7) hr
  · show own_Q2 Z a1 i1 kc vs w0 h0 n0 _ s₁.heap _
    exact ⟨rfl, N0, e0⟩
theorem own_d3_0 : decode prog_54_method_11_code 0 = .ok (.lconst 0, 1) := by decide +kernel
theorem own_d3_1 : decode prog_54_method_11_code 1 = .ok (.lstore_n 2, 1) := by decide +kernel
theorem own_d3_2 : decode prog_54_method_11_code 2 = .ok (.iconst 0, 1) := by decide +kernel
theorem own_d3_3 : decode prog_54_method_11_code 3 = .ok (.istore 4, 2) := by decide +kernel
theorem own_d3_5 : decode prog_54_method_11_code 5 = .ok (.iload_n 1, 1) := by decide +kernel
theorem own_d3_6 : decode prog_54_method_11_code 6 = .ok (.istore 5, 2) := by decide +kernel
theorem own_d3_8 : decode prog_54_method_11_code 8 = .ok (.aload_n 0, 1) := by decide +kernel
theorem own_d3_9 : decode prog_54_method_11_code 9 = .ok (.iload 5, 2) := by decide +kernel
theorem own_d3_11 : decode prog_54_method_11_code 11 = .ok (.iinc 5 1, 3) := by decide +kernel
theorem own_d3_14 : decode prog_54_method_11_code 14 = .ok (.baload, 1) := by decide +kernel
theorem own_d3_15 : decode prog_54_method_11_code 15 = .ok (.istore 6, 2) := by decide +kernel
theorem own_d3_17 : decode prog_54_method_11_code 17 = .ok (.lload_n 2, 1) := by decide +kernel
theorem own_d3_18 : decode prog_54_method_11_code 18 = .ok (.iload 6, 2) := by decide +kernel
theorem own_d3_20 : decode prog_54_method_11_code 20 = .ok (.bipush 127, 2) := by decide +kernel
theorem own_d3_22 : decode prog_54_method_11_code 22 = .ok (.iand, 1) := by decide +kernel
theorem own_d3_23 : decode prog_54_method_11_code 23 = .ok (.i2l, 1) := by decide +kernel
theorem own_d3_24 : decode prog_54_method_11_code 24 = .ok (.iload 4, 2) := by decide +kernel
theorem own_d3_26 : decode prog_54_method_11_code 26 = .ok (.lshl, 1) := by decide +kernel
theorem own_d3_27 : decode prog_54_method_11_code 27 = .ok (.lor, 1) := by decide +kernel
theorem own_d3_28 : decode prog_54_method_11_code 28 = .ok (.lstore_n 2, 1) := by decide +kernel
theorem own_d3_29 : decode prog_54_method_11_code 29 = .ok (.iinc 4 7, 3) := by decide +kernel
theorem own_d3_32 : decode prog_54_method_11_code 32 = .ok (.iload 6, 2) := by decide +kernel
theorem own_d3_34 : decode prog_54_method_11_code 34 = .ok (.ifCond .lt (-26), 3) := by decide +kernel
theorem own_d3_37 : decode prog_54_method_11_code 37 = .ok (.lload_n 2, 1) := by decide +kernel
theorem own_d3_38 : decode prog_54_method_11_code 38 = .ok (.lreturn, 1) := by decide +kernel
theorem own_pn3 : plainName "com/example/plainsong/plainsong/PackedTexts" = true := by first | (simp [plainName, overriddenIn]; done) | decide +kernel
theorem own_ef3 (m : MethodId) (a1 : Addr) (i1 : Int32) : entryFrame m #[(.ref a1), (.int i1)] 7 = mkF m 0 #[.val (.ref a1), .val (.int i1), .unset, .unset, .unset, .unset, .unset] [] := by first | (simp [entryFrame, mkF, argsToLocals, Value.category]; done) | rfl
def own_Q3 (Z : State) (a1 : Addr) (i1 : Int32) (kc : ClassId) (vs : List Value) (w0 : Int32) (w1 : Int32) (w2 : Int32) (w3 : Int32) (w4 : Int32) (w5 : Int32) (w6 : Int32) (w7 : Int32) (w8 : Int32) (h0 : Heap) (n0 : Nat) (v : Option Value) (h : Heap) (L : List Loc) : Prop := (v = some (.long (own_rd w0 w1 w2 w3 w4 w5 w6 w7 w8))) ∧ (Fr n0 L) ∧ (h = h0)
set_option maxRecDepth 65536 in
set_option maxHeartbeats 40000000 in
theorem own_rm3 (l : Launch) (Z : State) (a0 : Array Value) (hw : ∀ d ∈ tables_1, d.before a0 Z = true) (ws : List Jvm.Cond) (a1 : Addr) (i1 : Int32) (kc : ClassId) (vs : List Value) (w0 : Int32) (w1 : Int32) (w2 : Int32) (w3 : Int32) (w4 : Int32) (w5 : Int32) (w6 : Int32) (w7 : Int32) (w8 : Int32) (h0 : Heap) (n0 : Nat) (Z0 : n0 ≤ h0.size) (P_V_a1 : Arv Z h0 a1 kc .byte (12 : Int32) vs (.int (0 : Int32))) (hat0 : vs.getD (i1).toNatClampNeg (.int (0 : Int32)) = .int w0) (hin0 : ¬ i1 < 0 ∧ i1 < (12 : Int32)) (hat1 : vs.getD ((i1 + (1 : Int32))).toNatClampNeg (.int (0 : Int32)) = .int w1) (hin1 : ¬ (i1 + (1 : Int32)) < 0 ∧ (i1 + (1 : Int32)) < (12 : Int32)) (hat2 : vs.getD (((i1 + (1 : Int32)) + (1 : Int32))).toNatClampNeg (.int (0 : Int32)) = .int w2) (hin2 : ¬ ((i1 + (1 : Int32)) + (1 : Int32)) < 0 ∧ ((i1 + (1 : Int32)) + (1 : Int32)) < (12 : Int32)) (hat3 : vs.getD ((((i1 + (1 : Int32)) + (1 : Int32)) + (1 : Int32))).toNatClampNeg (.int (0 : Int32)) = .int w3) (hin3 : ¬ (((i1 + (1 : Int32)) + (1 : Int32)) + (1 : Int32)) < 0 ∧ (((i1 + (1 : Int32)) + (1 : Int32)) + (1 : Int32)) < (12 : Int32)) (hat4 : vs.getD (((((i1 + (1 : Int32)) + (1 : Int32)) + (1 : Int32)) + (1 : Int32))).toNatClampNeg (.int (0 : Int32)) = .int w4) (hin4 : ¬ ((((i1 + (1 : Int32)) + (1 : Int32)) + (1 : Int32)) + (1 : Int32)) < 0 ∧ ((((i1 + (1 : Int32)) + (1 : Int32)) + (1 : Int32)) + (1 : Int32)) < (12 : Int32)) (hat5 : vs.getD ((((((i1 + (1 : Int32)) + (1 : Int32)) + (1 : Int32)) + (1 : Int32)) + (1 : Int32))).toNatClampNeg (.int (0 : Int32)) = .int w5) (hin5 : ¬ (((((i1 + (1 : Int32)) + (1 : Int32)) + (1 : Int32)) + (1 : Int32)) + (1 : Int32)) < 0 ∧ (((((i1 + (1 : Int32)) + (1 : Int32)) + (1 : Int32)) + (1 : Int32)) + (1 : Int32)) < (12 : Int32)) (hat6 : vs.getD (((((((i1 + (1 : Int32)) + (1 : Int32)) + (1 : Int32)) + (1 : Int32)) + (1 : Int32)) + (1 : Int32))).toNatClampNeg (.int (0 : Int32)) = .int w6) (hin6 : ¬ ((((((i1 + (1 : Int32)) + (1 : Int32)) + (1 : Int32)) + (1 : Int32)) + (1 : Int32)) + (1 : Int32)) < 0 ∧ ((((((i1 + (1 : Int32)) + (1 : Int32)) + (1 : Int32)) + (1 : Int32)) + (1 : Int32)) + (1 : Int32)) < (12 : Int32)) (hat7 : vs.getD ((((((((i1 + (1 : Int32)) + (1 : Int32)) + (1 : Int32)) + (1 : Int32)) + (1 : Int32)) + (1 : Int32)) + (1 : Int32))).toNatClampNeg (.int (0 : Int32)) = .int w7) (hin7 : ¬ (((((((i1 + (1 : Int32)) + (1 : Int32)) + (1 : Int32)) + (1 : Int32)) + (1 : Int32)) + (1 : Int32)) + (1 : Int32)) < 0 ∧ (((((((i1 + (1 : Int32)) + (1 : Int32)) + (1 : Int32)) + (1 : Int32)) + (1 : Int32)) + (1 : Int32)) + (1 : Int32)) < (12 : Int32)) (hat8 : vs.getD (((((((((i1 + (1 : Int32)) + (1 : Int32)) + (1 : Int32)) + (1 : Int32)) + (1 : Int32)) + (1 : Int32)) + (1 : Int32)) + (1 : Int32))).toNatClampNeg (.int (0 : Int32)) = .int w8) (hin8 : ¬ ((((((((i1 + (1 : Int32)) + (1 : Int32)) + (1 : Int32)) + (1 : Int32)) + (1 : Int32)) + (1 : Int32)) + (1 : Int32)) + (1 : Int32)) < 0 ∧ ((((((((i1 + (1 : Int32)) + (1 : Int32)) + (1 : Int32)) + (1 : Int32)) + (1 : Int32)) + (1 : Int32)) + (1 : Int32)) + (1 : Int32)) < (12 : Int32)) (hl8 : ¬ w8 < 0) :
    MetFree l (⟨"com/example/plainsong/plainsong/PackedTexts", "readNumber", "([BI)J"⟩ : MethodName) (head1 (Jvm.Cond.code (⟨"com/example/plainsong/plainsong/PackedTexts", "readNumber", "([BI)J"⟩ : MethodName) prog_54_method_11_code 7 (some .long) :: ws) ({ frames := 0, cells := 0, slots := 0, locals := 0 } : Room)) (fun ar_ U_ => ar_ = #[(.ref a1), (.int i1)] ∧ Z.Warmed39 U_.vm ∧ U_.heap = h0) (fun _ _ _ _ _ => True) (fun _ U_ o_ U_' => ∃ v_ L_, o_ = .returned v_ ∧ own_Q3 Z a1 i1 kc vs w0 w1 w2 w3 w4 w5 w6 w7 w8 h0 n0 v_ U_'.heap L_ ∧ FrameEnd U_ o_ U_' L_ ({ frames := 0, cells := 0, slots := 0, locals := 0 } : Room).cells ({ frames := 0, cells := 0, slots := 0, locals := 0 } : Room).slots) := by
  refine MetFree.of_bodySF (plainFor_of_name own_pn3) hisR ?_
  intro p e s m args below meth c s₁ Bd hml0 hP hK
  obtain ⟨rfl, hZ, hh⟩ := hP
  have hx := Bd.exec
  have hby := Bd.bytes
  have hml : c.maxLocals = 7 := hml0
  have hown : s.vm.findClass "com/example/plainsong/plainsong/PackedTexts" = some m.cls := findClass_of_methodNamed Bd.named
  have hnm := (name_of_methodNamed Bd.named Bd.method).1
  have X0 : Stand p l e ({ frames := 0, cells := 0, slots := 0, locals := 0 } : Room) s m #[(.ref a1), (.int i1)] below meth c s₁ [] 0 0 := Stand.of_body Bd
  have e0 : s₁.heap = h0 := by rw [← hh, Bd.state]; rfl
  have N0 := Fr.nil n0
  have pre0 : ∀ t, Steps p.tables e below (s₁.setTop (mkF m 0 #[.val (.ref a1), .val (.int i1), .unset, .unset, .unset, .unset, .unset] [])) t → Steps p.tables e below (s₁.setTop (entryFrame m #[(.ref a1), (.int i1)] 7)) t := fun t k => castTop (own_ef3 m a1 i1) k
  obtain ⟨cl1, Ar1, Q1, Sz1, Nn1, Ha1, Gf1⟩ := id P_V_a1
  have ghin1 : ¬ (i1 < 0 ∨ cl1.slots.size ≤ (i1).toNatClampNeg) := inb_of Sz1 hin0
  have ghat1 : cl1.slots[(i1).toNatClampNeg]? = some (.int w0) := Ha1.at ghin1 hat0
  have pre2 : ∀ t, Steps p.tables e below (s₁.setTop (mkF m 34 #[.val (.ref a1), .val (.int i1), .val (.long (own_R0 w0)), .second, .val (.int (7 : Int32)), .val (.int (i1 + (1 : Int32))), .val (.int w0)] [(.int w0)])) t → Steps p.tables e below (s₁.setTop (entryFrame m #[(.ref a1), (.int i1)] 7)) t := fun t k => pre0 t (by
    show Steps p.tables e below (s₁.setTop (mkF m 0 #[.val (.ref a1), .val (.int i1), .unset, .unset, .unset, .unset, .unset] [])) _
    refine XT.lconstV X0.here hx rfl (0 : Int64) (hb hby own_d3_0) rfl ?_
    show Steps p.tables e below (s₁.setTop (mkF m 1 #[.val (.ref a1), .val (.int i1), .unset, .unset, .unset, .unset, .unset] [(.long (0 : Int64))])) _
    refine XT.lstoreN X0.here hx rfl (hb hby own_d3_1) rfl (l' := #[.val (.ref a1), .val (.int i1), .val (.long (0 : Int64)), .second, .unset, .unset, .unset]) rfl ?_
    show Steps p.tables e below (s₁.setTop (mkF m 2 #[.val (.ref a1), .val (.int i1), .val (.long (0 : Int64)), .second, .unset, .unset, .unset] [])) _
    refine XT.iconstV X0.here hx rfl (0 : Int32) (hb hby own_d3_2) rfl ?_
    show Steps p.tables e below (s₁.setTop (mkF m 3 #[.val (.ref a1), .val (.int i1), .val (.long (0 : Int64)), .second, .unset, .unset, .unset] [(.int (0 : Int32))])) _
    refine XS.istore X0.here hx rfl (hb hby own_d3_3) rfl (l' := #[.val (.ref a1), .val (.int i1), .val (.long (0 : Int64)), .second, .val (.int (0 : Int32)), .unset, .unset]) rfl ?_
    show Steps p.tables e below (s₁.setTop (mkF m 5 #[.val (.ref a1), .val (.int i1), .val (.long (0 : Int64)), .second, .val (.int (0 : Int32)), .unset, .unset] [])) _
    refine XS.iloadN X0.here hx rfl (hb hby own_d3_5) rfl ?_
    show Steps p.tables e below (s₁.setTop (mkF m 6 #[.val (.ref a1), .val (.int i1), .val (.long (0 : Int64)), .second, .val (.int (0 : Int32)), .unset, .unset] [(.int i1)])) _
    refine XS.istore X0.here hx rfl (hb hby own_d3_6) rfl (l' := #[.val (.ref a1), .val (.int i1), .val (.long (0 : Int64)), .second, .val (.int (0 : Int32)), .val (.int i1), .unset]) rfl ?_
    show Steps p.tables e below (s₁.setTop (mkF m 8 #[.val (.ref a1), .val (.int i1), .val (.long (0 : Int64)), .second, .val (.int (0 : Int32)), .val (.int i1), .unset] [])) _
    refine XS.aloadN X0.here hx rfl (hb hby own_d3_8) rfl rfl ?_
    show Steps p.tables e below (s₁.setTop (mkF m 9 #[.val (.ref a1), .val (.int i1), .val (.long (0 : Int64)), .second, .val (.int (0 : Int32)), .val (.int i1), .unset] [(.ref a1)])) _
    refine XS.iload X0.here hx rfl (hb hby own_d3_9) rfl ?_
    show Steps p.tables e below (s₁.setTop (mkF m 11 #[.val (.ref a1), .val (.int i1), .val (.long (0 : Int64)), .second, .val (.int (0 : Int32)), .val (.int i1), .unset] [(.int i1), (.ref a1)])) _
    refine XT.iincV X0.here hx rfl (1 : Int32) (hb hby own_d3_11) rfl rfl (l' := #[.val (.ref a1), .val (.int i1), .val (.long (0 : Int64)), .second, .val (.int (0 : Int32)), .val (.int (i1 + (1 : Int32))), .unset]) rfl ?_
    show Steps p.tables e below (s₁.setTop (mkF m 14 #[.val (.ref a1), .val (.int i1), .val (.long (0 : Int64)), .second, .val (.int (0 : Int32)), .val (.int (i1 + (1 : Int32))), .unset] [(.int i1), (.ref a1)])) _
    refine X0.baloadBytes hx (j := i1) (v := (.int w0)) (by rw [e0]; exact Ar1.1) (State.isArrayOf_alike hZ.alike Ar1.2.1) Ar1.2.2 ghin1 ghat1 (g := (mkF m 14 #[.val (.ref a1), .val (.int i1), .val (.long (0 : Int64)), .second, .val (.int (0 : Int32)), .val (.int (i1 + (1 : Int32))), .unset] [(.int i1), (.ref a1)])) rfl rfl (hb hby own_d3_14) _ ?_
    show Steps p.tables e below (s₁.setTop (mkF m 15 #[.val (.ref a1), .val (.int i1), .val (.long (0 : Int64)), .second, .val (.int (0 : Int32)), .val (.int (i1 + (1 : Int32))), .unset] [(.int w0)])) _
    refine XS.istore X0.here hx rfl (hb hby own_d3_15) rfl (l' := #[.val (.ref a1), .val (.int i1), .val (.long (0 : Int64)), .second, .val (.int (0 : Int32)), .val (.int (i1 + (1 : Int32))), .val (.int w0)]) rfl ?_
    show Steps p.tables e below (s₁.setTop (mkF m 17 #[.val (.ref a1), .val (.int i1), .val (.long (0 : Int64)), .second, .val (.int (0 : Int32)), .val (.int (i1 + (1 : Int32))), .val (.int w0)] [])) _
    refine XT.lloadN X0.here hx rfl (hb hby own_d3_17) rfl ?_
    show Steps p.tables e below (s₁.setTop (mkF m 18 #[.val (.ref a1), .val (.int i1), .val (.long (0 : Int64)), .second, .val (.int (0 : Int32)), .val (.int (i1 + (1 : Int32))), .val (.int w0)] [(.long (0 : Int64))])) _
    refine XS.iload X0.here hx rfl (hb hby own_d3_18) rfl ?_
    show Steps p.tables e below (s₁.setTop (mkF m 20 #[.val (.ref a1), .val (.int i1), .val (.long (0 : Int64)), .second, .val (.int (0 : Int32)), .val (.int (i1 + (1 : Int32))), .val (.int w0)] [(.int w0), (.long (0 : Int64))])) _
    refine XT.bipushV X0.here hx rfl (127 : Int32) (hb hby own_d3_20) rfl ?_
    show Steps p.tables e below (s₁.setTop (mkF m 22 #[.val (.ref a1), .val (.int i1), .val (.long (0 : Int64)), .second, .val (.int (0 : Int32)), .val (.int (i1 + (1 : Int32))), .val (.int w0)] [(.int (127 : Int32)), (.int w0), (.long (0 : Int64))])) _
    refine XS.iand X0.here hx rfl (hb hby own_d3_22) rfl ?_
    show Steps p.tables e below (s₁.setTop (mkF m 23 #[.val (.ref a1), .val (.int i1), .val (.long (0 : Int64)), .second, .val (.int (0 : Int32)), .val (.int (i1 + (1 : Int32))), .val (.int w0)] [(.int (w0 &&& (127 : Int32))), (.long (0 : Int64))])) _
    refine XT.i2l X0.here hx rfl (hb hby own_d3_23) rfl ?_
    show Steps p.tables e below (s₁.setTop (mkF m 24 #[.val (.ref a1), .val (.int i1), .val (.long (0 : Int64)), .second, .val (.int (0 : Int32)), .val (.int (i1 + (1 : Int32))), .val (.int w0)] [(.long ((w0 &&& (127 : Int32)).toInt64)), (.long (0 : Int64))])) _
    refine XS.iload X0.here hx rfl (hb hby own_d3_24) rfl ?_
    show Steps p.tables e below (s₁.setTop (mkF m 26 #[.val (.ref a1), .val (.int i1), .val (.long (0 : Int64)), .second, .val (.int (0 : Int32)), .val (.int (i1 + (1 : Int32))), .val (.int w0)] [(.int (0 : Int32)), (.long ((w0 &&& (127 : Int32)).toInt64)), (.long (0 : Int64))])) _
    refine XT.lshl X0.here hx rfl (hb hby own_d3_26) rfl ?_
    show Steps p.tables e below (s₁.setTop (mkF m 27 #[.val (.ref a1), .val (.int i1), .val (.long (0 : Int64)), .second, .val (.int (0 : Int32)), .val (.int (i1 + (1 : Int32))), .val (.int w0)] [(.long (((w0 &&& (127 : Int32)).toInt64) <<< ((0 : Int32).toInt64 &&& 63))), (.long (0 : Int64))])) _
    refine XT.lor X0.here hx rfl (hb hby own_d3_27) rfl ?_
    show Steps p.tables e below (s₁.setTop (mkF m 28 #[.val (.ref a1), .val (.int i1), .val (.long (0 : Int64)), .second, .val (.int (0 : Int32)), .val (.int (i1 + (1 : Int32))), .val (.int w0)] [(.long ((0 : Int64) ||| (((w0 &&& (127 : Int32)).toInt64) <<< ((0 : Int32).toInt64 &&& 63))))])) _
    refine XT.lstoreN X0.here hx rfl (hb hby own_d3_28) rfl (l' := #[.val (.ref a1), .val (.int i1), .val (.long ((0 : Int64) ||| (((w0 &&& (127 : Int32)).toInt64) <<< ((0 : Int32).toInt64 &&& 63)))), .second, .val (.int (0 : Int32)), .val (.int (i1 + (1 : Int32))), .val (.int w0)]) rfl ?_
    show Steps p.tables e below (s₁.setTop (mkF m 29 #[.val (.ref a1), .val (.int i1), .val (.long (own_R0 w0)), .second, .val (.int (0 : Int32)), .val (.int (i1 + (1 : Int32))), .val (.int w0)] [])) _
    refine XT.iincV X0.here hx rfl (7 : Int32) (hb hby own_d3_29) rfl rfl (l' := #[.val (.ref a1), .val (.int i1), .val (.long (own_R0 w0)), .second, .val (.int (7 : Int32)), .val (.int (i1 + (1 : Int32))), .val (.int w0)]) rfl ?_
    show Steps p.tables e below (s₁.setTop (mkF m 32 #[.val (.ref a1), .val (.int i1), .val (.long (own_R0 w0)), .second, .val (.int (7 : Int32)), .val (.int (i1 + (1 : Int32))), .val (.int w0)] [])) _
    refine XS.iload X0.here hx rfl (hb hby own_d3_32) rfl ?_
    exact k)
  by_cases hl0 : w0 < 0
  · obtain ⟨cl3, Ar3, Q3, Sz3, Nn3, Ha3, Gf3⟩ := id P_V_a1
    have ghin3 : ¬ ((i1 + (1 : Int32)) < 0 ∨ cl3.slots.size ≤ ((i1 + (1 : Int32))).toNatClampNeg) := inb_of Sz3 hin1
    have ghat3 : cl3.slots[((i1 + (1 : Int32))).toNatClampNeg]? = some (.int w1) := Ha3.at ghin3 hat1
    have pre4 : ∀ t, Steps p.tables e below (s₁.setTop (mkF m 34 #[.val (.ref a1), .val (.int i1), .val (.long (own_R1 w0 w1)), .second, .val (.int (14 : Int32)), .val (.int ((i1 + (1 : Int32)) + (1 : Int32))), .val (.int w1)] [(.int w1)])) t → Steps p.tables e below (s₁.setTop (entryFrame m #[(.ref a1), (.int i1)] 7)) t := fun t k => pre2 t (by
      show Steps p.tables e below (s₁.setTop (mkF m 34 #[.val (.ref a1), .val (.int i1), .val (.long (own_R0 w0)), .second, .val (.int (7 : Int32)), .val (.int (i1 + (1 : Int32))), .val (.int w0)] [(.int w0)])) _
      refine XS.ifYes X0.here hx rfl (pc0 := 34) (pc' := 8) rfl (hb hby own_d3_34) rfl (XT.i0_lt_t hl0) (by decide) (by decide) ?_
      show Steps p.tables e below (s₁.setTop (mkF m 8 #[.val (.ref a1), .val (.int i1), .val (.long (own_R0 w0)), .second, .val (.int (7 : Int32)), .val (.int (i1 + (1 : Int32))), .val (.int w0)] [])) _
      refine XS.aloadN X0.here hx rfl (hb hby own_d3_8) rfl rfl ?_
      show Steps p.tables e below (s₁.setTop (mkF m 9 #[.val (.ref a1), .val (.int i1), .val (.long (own_R0 w0)), .second, .val (.int (7 : Int32)), .val (.int (i1 + (1 : Int32))), .val (.int w0)] [(.ref a1)])) _
      refine XS.iload X0.here hx rfl (hb hby own_d3_9) rfl ?_
      show Steps p.tables e below (s₁.setTop (mkF m 11 #[.val (.ref a1), .val (.int i1), .val (.long (own_R0 w0)), .second, .val (.int (7 : Int32)), .val (.int (i1 + (1 : Int32))), .val (.int w0)] [(.int (i1 + (1 : Int32))), (.ref a1)])) _
      refine XT.iincV X0.here hx rfl (1 : Int32) (hb hby own_d3_11) rfl rfl (l' := #[.val (.ref a1), .val (.int i1), .val (.long (own_R0 w0)), .second, .val (.int (7 : Int32)), .val (.int ((i1 + (1 : Int32)) + (1 : Int32))), .val (.int w0)]) rfl ?_
      show Steps p.tables e below (s₁.setTop (mkF m 14 #[.val (.ref a1), .val (.int i1), .val (.long (own_R0 w0)), .second, .val (.int (7 : Int32)), .val (.int ((i1 + (1 : Int32)) + (1 : Int32))), .val (.int w0)] [(.int (i1 + (1 : Int32))), (.ref a1)])) _
      refine X0.baloadBytes hx (j := (i1 + (1 : Int32))) (v := (.int w1)) (by rw [e0]; exact Ar3.1) (State.isArrayOf_alike hZ.alike Ar3.2.1) Ar3.2.2 ghin3 ghat3 (g := (mkF m 14 #[.val (.ref a1), .val (.int i1), .val (.long (own_R0 w0)), .second, .val (.int (7 : Int32)), .val (.int ((i1 + (1 : Int32)) + (1 : Int32))), .val (.int w0)] [(.int (i1 + (1 : Int32))), (.ref a1)])) rfl rfl (hb hby own_d3_14) _ ?_
      show Steps p.tables e below (s₁.setTop (mkF m 15 #[.val (.ref a1), .val (.int i1), .val (.long (own_R0 w0)), .second, .val (.int (7 : Int32)), .val (.int ((i1 + (1 : Int32)) + (1 : Int32))), .val (.int w0)] [(.int w1)])) _
      refine XS.istore X0.here hx rfl (hb hby own_d3_15) rfl (l' := #[.val (.ref a1), .val (.int i1), .val (.long (own_R0 w0)), .second, .val (.int (7 : Int32)), .val (.int ((i1 + (1 : Int32)) + (1 : Int32))), .val (.int w1)]) rfl ?_
      show Steps p.tables e below (s₁.setTop (mkF m 17 #[.val (.ref a1), .val (.int i1), .val (.long (own_R0 w0)), .second, .val (.int (7 : Int32)), .val (.int ((i1 + (1 : Int32)) + (1 : Int32))), .val (.int w1)] [])) _
      refine XT.lloadN X0.here hx rfl (hb hby own_d3_17) rfl ?_
      show Steps p.tables e below (s₁.setTop (mkF m 18 #[.val (.ref a1), .val (.int i1), .val (.long (own_R0 w0)), .second, .val (.int (7 : Int32)), .val (.int ((i1 + (1 : Int32)) + (1 : Int32))), .val (.int w1)] [(.long (own_R0 w0))])) _
      refine XS.iload X0.here hx rfl (hb hby own_d3_18) rfl ?_
      show Steps p.tables e below (s₁.setTop (mkF m 20 #[.val (.ref a1), .val (.int i1), .val (.long (own_R0 w0)), .second, .val (.int (7 : Int32)), .val (.int ((i1 + (1 : Int32)) + (1 : Int32))), .val (.int w1)] [(.int w1), (.long (own_R0 w0))])) _
      refine XT.bipushV X0.here hx rfl (127 : Int32) (hb hby own_d3_20) rfl ?_
      show Steps p.tables e below (s₁.setTop (mkF m 22 #[.val (.ref a1), .val (.int i1), .val (.long (own_R0 w0)), .second, .val (.int (7 : Int32)), .val (.int ((i1 + (1 : Int32)) + (1 : Int32))), .val (.int w1)] [(.int (127 : Int32)), (.int w1), (.long (own_R0 w0))])) _
      refine XS.iand X0.here hx rfl (hb hby own_d3_22) rfl ?_
      show Steps p.tables e below (s₁.setTop (mkF m 23 #[.val (.ref a1), .val (.int i1), .val (.long (own_R0 w0)), .second, .val (.int (7 : Int32)), .val (.int ((i1 + (1 : Int32)) + (1 : Int32))), .val (.int w1)] [(.int (w1 &&& (127 : Int32))), (.long (own_R0 w0))])) _
      refine XT.i2l X0.here hx rfl (hb hby own_d3_23) rfl ?_
      show Steps p.tables e below (s₁.setTop (mkF m 24 #[.val (.ref a1), .val (.int i1), .val (.long (own_R0 w0)), .second, .val (.int (7 : Int32)), .val (.int ((i1 + (1 : Int32)) + (1 : Int32))), .val (.int w1)] [(.long ((w1 &&& (127 : Int32)).toInt64)), (.long (own_R0 w0))])) _
      refine XS.iload X0.here hx rfl (hb hby own_d3_24) rfl ?_
      show Steps p.tables e below (s₁.setTop (mkF m 26 #[.val (.ref a1), .val (.int i1), .val (.long (own_R0 w0)), .second, .val (.int (7 : Int32)), .val (.int ((i1 + (1 : Int32)) + (1 : Int32))), .val (.int w1)] [(.int (7 : Int32)), (.long ((w1 &&& (127 : Int32)).toInt64)), (.long (own_R0 w0))])) _
      refine XT.lshl X0.here hx rfl (hb hby own_d3_26) rfl ?_
      show Steps p.tables e below (s₁.setTop (mkF m 27 #[.val (.ref a1), .val (.int i1), .val (.long (own_R0 w0)), .second, .val (.int (7 : Int32)), .val (.int ((i1 + (1 : Int32)) + (1 : Int32))), .val (.int w1)] [(.long (((w1 &&& (127 : Int32)).toInt64) <<< ((7 : Int32).toInt64 &&& 63))), (.long (own_R0 w0))])) _
      refine XT.lor X0.here hx rfl (hb hby own_d3_27) rfl ?_
      show Steps p.tables e below (s₁.setTop (mkF m 28 #[.val (.ref a1), .val (.int i1), .val (.long (own_R0 w0)), .second, .val (.int (7 : Int32)), .val (.int ((i1 + (1 : Int32)) + (1 : Int32))), .val (.int w1)] [(.long ((own_R0 w0) ||| (((w1 &&& (127 : Int32)).toInt64) <<< ((7 : Int32).toInt64 &&& 63))))])) _
      refine XT.lstoreN X0.here hx rfl (hb hby own_d3_28) rfl (l' := #[.val (.ref a1), .val (.int i1), .val (.long ((own_R0 w0) ||| (((w1 &&& (127 : Int32)).toInt64) <<< ((7 : Int32).toInt64 &&& 63)))), .second, .val (.int (7 : Int32)), .val (.int ((i1 + (1 : Int32)) + (1 : Int32))), .val (.int w1)]) rfl ?_
      show Steps p.tables e below (s₁.setTop (mkF m 29 #[.val (.ref a1), .val (.int i1), .val (.long (own_R1 w0 w1)), .second, .val (.int (7 : Int32)), .val (.int ((i1 + (1 : Int32)) + (1 : Int32))), .val (.int w1)] [])) _
      refine XT.iincV X0.here hx rfl (7 : Int32) (hb hby own_d3_29) rfl rfl (l' := #[.val (.ref a1), .val (.int i1), .val (.long (own_R1 w0 w1)), .second, .val (.int (14 : Int32)), .val (.int ((i1 + (1 : Int32)) + (1 : Int32))), .val (.int w1)]) rfl ?_
      show Steps p.tables e below (s₁.setTop (mkF m 32 #[.val (.ref a1), .val (.int i1), .val (.long (own_R1 w0 w1)), .second, .val (.int (14 : Int32)), .val (.int ((i1 + (1 : Int32)) + (1 : Int32))), .val (.int w1)] [])) _
      refine XS.iload X0.here hx rfl (hb hby own_d3_32) rfl ?_
      exact k)
    by_cases hl1 : w1 < 0
    · obtain ⟨cl5, Ar5, Q5, Sz5, Nn5, Ha5, Gf5⟩ := id P_V_a1
      have ghin5 : ¬ (((i1 + (1 : Int32)) + (1 : Int32)) < 0 ∨ cl5.slots.size ≤ (((i1 + (1 : Int32)) + (1 : Int32))).toNatClampNeg) := inb_of Sz5 hin2
      have ghat5 : cl5.slots[(((i1 + (1 : Int32)) + (1 : Int32))).toNatClampNeg]? = some (.int w2) := Ha5.at ghin5 hat2
      have pre6 : ∀ t, Steps p.tables e below (s₁.setTop (mkF m 34 #[.val (.ref a1), .val (.int i1), .val (.long (own_R2 w0 w1 w2)), .second, .val (.int (21 : Int32)), .val (.int (((i1 + (1 : Int32)) + (1 : Int32)) + (1 : Int32))), .val (.int w2)] [(.int w2)])) t → Steps p.tables e below (s₁.setTop (entryFrame m #[(.ref a1), (.int i1)] 7)) t := fun t k => pre4 t (by
        show Steps p.tables e below (s₁.setTop (mkF m 34 #[.val (.ref a1), .val (.int i1), .val (.long (own_R1 w0 w1)), .second, .val (.int (14 : Int32)), .val (.int ((i1 + (1 : Int32)) + (1 : Int32))), .val (.int w1)] [(.int w1)])) _
        refine XS.ifYes X0.here hx rfl (pc0 := 34) (pc' := 8) rfl (hb hby own_d3_34) rfl (XT.i0_lt_t hl1) (by decide) (by decide) ?_
        show Steps p.tables e below (s₁.setTop (mkF m 8 #[.val (.ref a1), .val (.int i1), .val (.long (own_R1 w0 w1)), .second, .val (.int (14 : Int32)), .val (.int ((i1 + (1 : Int32)) + (1 : Int32))), .val (.int w1)] [])) _
        refine XS.aloadN X0.here hx rfl (hb hby own_d3_8) rfl rfl ?_
        show Steps p.tables e below (s₁.setTop (mkF m 9 #[.val (.ref a1), .val (.int i1), .val (.long (own_R1 w0 w1)), .second, .val (.int (14 : Int32)), .val (.int ((i1 + (1 : Int32)) + (1 : Int32))), .val (.int w1)] [(.ref a1)])) _
        refine XS.iload X0.here hx rfl (hb hby own_d3_9) rfl ?_
        show Steps p.tables e below (s₁.setTop (mkF m 11 #[.val (.ref a1), .val (.int i1), .val (.long (own_R1 w0 w1)), .second, .val (.int (14 : Int32)), .val (.int ((i1 + (1 : Int32)) + (1 : Int32))), .val (.int w1)] [(.int ((i1 + (1 : Int32)) + (1 : Int32))), (.ref a1)])) _
        refine XT.iincV X0.here hx rfl (1 : Int32) (hb hby own_d3_11) rfl rfl (l' := #[.val (.ref a1), .val (.int i1), .val (.long (own_R1 w0 w1)), .second, .val (.int (14 : Int32)), .val (.int (((i1 + (1 : Int32)) + (1 : Int32)) + (1 : Int32))), .val (.int w1)]) rfl ?_
        show Steps p.tables e below (s₁.setTop (mkF m 14 #[.val (.ref a1), .val (.int i1), .val (.long (own_R1 w0 w1)), .second, .val (.int (14 : Int32)), .val (.int (((i1 + (1 : Int32)) + (1 : Int32)) + (1 : Int32))), .val (.int w1)] [(.int ((i1 + (1 : Int32)) + (1 : Int32))), (.ref a1)])) _
        refine X0.baloadBytes hx (j := ((i1 + (1 : Int32)) + (1 : Int32))) (v := (.int w2)) (by rw [e0]; exact Ar5.1) (State.isArrayOf_alike hZ.alike Ar5.2.1) Ar5.2.2 ghin5 ghat5 (g := (mkF m 14 #[.val (.ref a1), .val (.int i1), .val (.long (own_R1 w0 w1)), .second, .val (.int (14 : Int32)), .val (.int (((i1 + (1 : Int32)) + (1 : Int32)) + (1 : Int32))), .val (.int w1)] [(.int ((i1 + (1 : Int32)) + (1 : Int32))), (.ref a1)])) rfl rfl (hb hby own_d3_14) _ ?_
        show Steps p.tables e below (s₁.setTop (mkF m 15 #[.val (.ref a1), .val (.int i1), .val (.long (own_R1 w0 w1)), .second, .val (.int (14 : Int32)), .val (.int (((i1 + (1 : Int32)) + (1 : Int32)) + (1 : Int32))), .val (.int w1)] [(.int w2)])) _
        refine XS.istore X0.here hx rfl (hb hby own_d3_15) rfl (l' := #[.val (.ref a1), .val (.int i1), .val (.long (own_R1 w0 w1)), .second, .val (.int (14 : Int32)), .val (.int (((i1 + (1 : Int32)) + (1 : Int32)) + (1 : Int32))), .val (.int w2)]) rfl ?_
        show Steps p.tables e below (s₁.setTop (mkF m 17 #[.val (.ref a1), .val (.int i1), .val (.long (own_R1 w0 w1)), .second, .val (.int (14 : Int32)), .val (.int (((i1 + (1 : Int32)) + (1 : Int32)) + (1 : Int32))), .val (.int w2)] [])) _
        refine XT.lloadN X0.here hx rfl (hb hby own_d3_17) rfl ?_
        show Steps p.tables e below (s₁.setTop (mkF m 18 #[.val (.ref a1), .val (.int i1), .val (.long (own_R1 w0 w1)), .second, .val (.int (14 : Int32)), .val (.int (((i1 + (1 : Int32)) + (1 : Int32)) + (1 : Int32))), .val (.int w2)] [(.long (own_R1 w0 w1))])) _
        refine XS.iload X0.here hx rfl (hb hby own_d3_18) rfl ?_
        show Steps p.tables e below (s₁.setTop (mkF m 20 #[.val (.ref a1), .val (.int i1), .val (.long (own_R1 w0 w1)), .second, .val (.int (14 : Int32)), .val (.int (((i1 + (1 : Int32)) + (1 : Int32)) + (1 : Int32))), .val (.int w2)] [(.int w2), (.long (own_R1 w0 w1))])) _
        refine XT.bipushV X0.here hx rfl (127 : Int32) (hb hby own_d3_20) rfl ?_
        show Steps p.tables e below (s₁.setTop (mkF m 22 #[.val (.ref a1), .val (.int i1), .val (.long (own_R1 w0 w1)), .second, .val (.int (14 : Int32)), .val (.int (((i1 + (1 : Int32)) + (1 : Int32)) + (1 : Int32))), .val (.int w2)] [(.int (127 : Int32)), (.int w2), (.long (own_R1 w0 w1))])) _
        refine XS.iand X0.here hx rfl (hb hby own_d3_22) rfl ?_
        show Steps p.tables e below (s₁.setTop (mkF m 23 #[.val (.ref a1), .val (.int i1), .val (.long (own_R1 w0 w1)), .second, .val (.int (14 : Int32)), .val (.int (((i1 + (1 : Int32)) + (1 : Int32)) + (1 : Int32))), .val (.int w2)] [(.int (w2 &&& (127 : Int32))), (.long (own_R1 w0 w1))])) _
        refine XT.i2l X0.here hx rfl (hb hby own_d3_23) rfl ?_
        show Steps p.tables e below (s₁.setTop (mkF m 24 #[.val (.ref a1), .val (.int i1), .val (.long (own_R1 w0 w1)), .second, .val (.int (14 : Int32)), .val (.int (((i1 + (1 : Int32)) + (1 : Int32)) + (1 : Int32))), .val (.int w2)] [(.long ((w2 &&& (127 : Int32)).toInt64)), (.long (own_R1 w0 w1))])) _
        refine XS.iload X0.here hx rfl (hb hby own_d3_24) rfl ?_
        show Steps p.tables e below (s₁.setTop (mkF m 26 #[.val (.ref a1), .val (.int i1), .val (.long (own_R1 w0 w1)), .second, .val (.int (14 : Int32)), .val (.int (((i1 + (1 : Int32)) + (1 : Int32)) + (1 : Int32))), .val (.int w2)] [(.int (14 : Int32)), (.long ((w2 &&& (127 : Int32)).toInt64)), (.long (own_R1 w0 w1))])) _
        refine XT.lshl X0.here hx rfl (hb hby own_d3_26) rfl ?_
        show Steps p.tables e below (s₁.setTop (mkF m 27 #[.val (.ref a1), .val (.int i1), .val (.long (own_R1 w0 w1)), .second, .val (.int (14 : Int32)), .val (.int (((i1 + (1 : Int32)) + (1 : Int32)) + (1 : Int32))), .val (.int w2)] [(.long (((w2 &&& (127 : Int32)).toInt64) <<< ((14 : Int32).toInt64 &&& 63))), (.long (own_R1 w0 w1))])) _
        refine XT.lor X0.here hx rfl (hb hby own_d3_27) rfl ?_
        show Steps p.tables e below (s₁.setTop (mkF m 28 #[.val (.ref a1), .val (.int i1), .val (.long (own_R1 w0 w1)), .second, .val (.int (14 : Int32)), .val (.int (((i1 + (1 : Int32)) + (1 : Int32)) + (1 : Int32))), .val (.int w2)] [(.long ((own_R1 w0 w1) ||| (((w2 &&& (127 : Int32)).toInt64) <<< ((14 : Int32).toInt64 &&& 63))))])) _
        refine XT.lstoreN X0.here hx rfl (hb hby own_d3_28) rfl (l' := #[.val (.ref a1), .val (.int i1), .val (.long ((own_R1 w0 w1) ||| (((w2 &&& (127 : Int32)).toInt64) <<< ((14 : Int32).toInt64 &&& 63)))), .second, .val (.int (14 : Int32)), .val (.int (((i1 + (1 : Int32)) + (1 : Int32)) + (1 : Int32))), .val (.int w2)]) rfl ?_
        show Steps p.tables e below (s₁.setTop (mkF m 29 #[.val (.ref a1), .val (.int i1), .val (.long (own_R2 w0 w1 w2)), .second, .val (.int (14 : Int32)), .val (.int (((i1 + (1 : Int32)) + (1 : Int32)) + (1 : Int32))), .val (.int w2)] [])) _
        refine XT.iincV X0.here hx rfl (7 : Int32) (hb hby own_d3_29) rfl rfl (l' := #[.val (.ref a1), .val (.int i1), .val (.long (own_R2 w0 w1 w2)), .second, .val (.int (21 : Int32)), .val (.int (((i1 + (1 : Int32)) + (1 : Int32)) + (1 : Int32))), .val (.int w2)]) rfl ?_
        show Steps p.tables e below (s₁.setTop (mkF m 32 #[.val (.ref a1), .val (.int i1), .val (.long (own_R2 w0 w1 w2)), .second, .val (.int (21 : Int32)), .val (.int (((i1 + (1 : Int32)) + (1 : Int32)) + (1 : Int32))), .val (.int w2)] [])) _
        refine XS.iload X0.here hx rfl (hb hby own_d3_32) rfl ?_
        exact k)
      by_cases hl2 : w2 < 0
      · obtain ⟨cl7, Ar7, Q7, Sz7, Nn7, Ha7, Gf7⟩ := id P_V_a1
        have ghin7 : ¬ ((((i1 + (1 : Int32)) + (1 : Int32)) + (1 : Int32)) < 0 ∨ cl7.slots.size ≤ ((((i1 + (1 : Int32)) + (1 : Int32)) + (1 : Int32))).toNatClampNeg) := inb_of Sz7 hin3
        have ghat7 : cl7.slots[((((i1 + (1 : Int32)) + (1 : Int32)) + (1 : Int32))).toNatClampNeg]? = some (.int w3) := Ha7.at ghin7 hat3
        have pre8 : ∀ t, Steps p.tables e below (s₁.setTop (mkF m 34 #[.val (.ref a1), .val (.int i1), .val (.long (own_R3 w0 w1 w2 w3)), .second, .val (.int (28 : Int32)), .val (.int ((((i1 + (1 : Int32)) + (1 : Int32)) + (1 : Int32)) + (1 : Int32))), .val (.int w3)] [(.int w3)])) t → Steps p.tables e below (s₁.setTop (entryFrame m #[(.ref a1), (.int i1)] 7)) t := fun t k => pre6 t (by
          show Steps p.tables e below (s₁.setTop (mkF m 34 #[.val (.ref a1), .val (.int i1), .val (.long (own_R2 w0 w1 w2)), .second, .val (.int (21 : Int32)), .val (.int (((i1 + (1 : Int32)) + (1 : Int32)) + (1 : Int32))), .val (.int w2)] [(.int w2)])) _
          refine XS.ifYes X0.here hx rfl (pc0 := 34) (pc' := 8) rfl (hb hby own_d3_34) rfl (XT.i0_lt_t hl2) (by decide) (by decide) ?_
          show Steps p.tables e below (s₁.setTop (mkF m 8 #[.val (.ref a1), .val (.int i1), .val (.long (own_R2 w0 w1 w2)), .second, .val (.int (21 : Int32)), .val (.int (((i1 + (1 : Int32)) + (1 : Int32)) + (1 : Int32))), .val (.int w2)] [])) _
          refine XS.aloadN X0.here hx rfl (hb hby own_d3_8) rfl rfl ?_
          show Steps p.tables e below (s₁.setTop (mkF m 9 #[.val (.ref a1), .val (.int i1), .val (.long (own_R2 w0 w1 w2)), .second, .val (.int (21 : Int32)), .val (.int (((i1 + (1 : Int32)) + (1 : Int32)) + (1 : Int32))), .val (.int w2)] [(.ref a1)])) _
          refine XS.iload X0.here hx rfl (hb hby own_d3_9) rfl ?_
          show Steps p.tables e below (s₁.setTop (mkF m 11 #[.val (.ref a1), .val (.int i1), .val (.long (own_R2 w0 w1 w2)), .second, .val (.int (21 : Int32)), .val (.int (((i1 + (1 : Int32)) + (1 : Int32)) + (1 : Int32))), .val (.int w2)] [(.int (((i1 + (1 : Int32)) + (1 : Int32)) + (1 : Int32))), (.ref a1)])) _
          refine XT.iincV X0.here hx rfl (1 : Int32) (hb hby own_d3_11) rfl rfl (l' := #[.val (.ref a1), .val (.int i1), .val (.long (own_R2 w0 w1 w2)), .second, .val (.int (21 : Int32)), .val (.int ((((i1 + (1 : Int32)) + (1 : Int32)) + (1 : Int32)) + (1 : Int32))), .val (.int w2)]) rfl ?_
          show Steps p.tables e below (s₁.setTop (mkF m 14 #[.val (.ref a1), .val (.int i1), .val (.long (own_R2 w0 w1 w2)), .second, .val (.int (21 : Int32)), .val (.int ((((i1 + (1 : Int32)) + (1 : Int32)) + (1 : Int32)) + (1 : Int32))), .val (.int w2)] [(.int (((i1 + (1 : Int32)) + (1 : Int32)) + (1 : Int32))), (.ref a1)])) _
          refine X0.baloadBytes hx (j := (((i1 + (1 : Int32)) + (1 : Int32)) + (1 : Int32))) (v := (.int w3)) (by rw [e0]; exact Ar7.1) (State.isArrayOf_alike hZ.alike Ar7.2.1) Ar7.2.2 ghin7 ghat7 (g := (mkF m 14 #[.val (.ref a1), .val (.int i1), .val (.long (own_R2 w0 w1 w2)), .second, .val (.int (21 : Int32)), .val (.int ((((i1 + (1 : Int32)) + (1 : Int32)) + (1 : Int32)) + (1 : Int32))), .val (.int w2)] [(.int (((i1 + (1 : Int32)) + (1 : Int32)) + (1 : Int32))), (.ref a1)])) rfl rfl (hb hby own_d3_14) _ ?_
          show Steps p.tables e below (s₁.setTop (mkF m 15 #[.val (.ref a1), .val (.int i1), .val (.long (own_R2 w0 w1 w2)), .second, .val (.int (21 : Int32)), .val (.int ((((i1 + (1 : Int32)) + (1 : Int32)) + (1 : Int32)) + (1 : Int32))), .val (.int w2)] [(.int w3)])) _
          refine XS.istore X0.here hx rfl (hb hby own_d3_15) rfl (l' := #[.val (.ref a1), .val (.int i1), .val (.long (own_R2 w0 w1 w2)), .second, .val (.int (21 : Int32)), .val (.int ((((i1 + (1 : Int32)) + (1 : Int32)) + (1 : Int32)) + (1 : Int32))), .val (.int w3)]) rfl ?_
          show Steps p.tables e below (s₁.setTop (mkF m 17 #[.val (.ref a1), .val (.int i1), .val (.long (own_R2 w0 w1 w2)), .second, .val (.int (21 : Int32)), .val (.int ((((i1 + (1 : Int32)) + (1 : Int32)) + (1 : Int32)) + (1 : Int32))), .val (.int w3)] [])) _
          refine XT.lloadN X0.here hx rfl (hb hby own_d3_17) rfl ?_
          show Steps p.tables e below (s₁.setTop (mkF m 18 #[.val (.ref a1), .val (.int i1), .val (.long (own_R2 w0 w1 w2)), .second, .val (.int (21 : Int32)), .val (.int ((((i1 + (1 : Int32)) + (1 : Int32)) + (1 : Int32)) + (1 : Int32))), .val (.int w3)] [(.long (own_R2 w0 w1 w2))])) _
          refine XS.iload X0.here hx rfl (hb hby own_d3_18) rfl ?_
          show Steps p.tables e below (s₁.setTop (mkF m 20 #[.val (.ref a1), .val (.int i1), .val (.long (own_R2 w0 w1 w2)), .second, .val (.int (21 : Int32)), .val (.int ((((i1 + (1 : Int32)) + (1 : Int32)) + (1 : Int32)) + (1 : Int32))), .val (.int w3)] [(.int w3), (.long (own_R2 w0 w1 w2))])) _
          refine XT.bipushV X0.here hx rfl (127 : Int32) (hb hby own_d3_20) rfl ?_
          show Steps p.tables e below (s₁.setTop (mkF m 22 #[.val (.ref a1), .val (.int i1), .val (.long (own_R2 w0 w1 w2)), .second, .val (.int (21 : Int32)), .val (.int ((((i1 + (1 : Int32)) + (1 : Int32)) + (1 : Int32)) + (1 : Int32))), .val (.int w3)] [(.int (127 : Int32)), (.int w3), (.long (own_R2 w0 w1 w2))])) _
          refine XS.iand X0.here hx rfl (hb hby own_d3_22) rfl ?_
          show Steps p.tables e below (s₁.setTop (mkF m 23 #[.val (.ref a1), .val (.int i1), .val (.long (own_R2 w0 w1 w2)), .second, .val (.int (21 : Int32)), .val (.int ((((i1 + (1 : Int32)) + (1 : Int32)) + (1 : Int32)) + (1 : Int32))), .val (.int w3)] [(.int (w3 &&& (127 : Int32))), (.long (own_R2 w0 w1 w2))])) _
          refine XT.i2l X0.here hx rfl (hb hby own_d3_23) rfl ?_
          show Steps p.tables e below (s₁.setTop (mkF m 24 #[.val (.ref a1), .val (.int i1), .val (.long (own_R2 w0 w1 w2)), .second, .val (.int (21 : Int32)), .val (.int ((((i1 + (1 : Int32)) + (1 : Int32)) + (1 : Int32)) + (1 : Int32))), .val (.int w3)] [(.long ((w3 &&& (127 : Int32)).toInt64)), (.long (own_R2 w0 w1 w2))])) _
          refine XS.iload X0.here hx rfl (hb hby own_d3_24) rfl ?_
          show Steps p.tables e below (s₁.setTop (mkF m 26 #[.val (.ref a1), .val (.int i1), .val (.long (own_R2 w0 w1 w2)), .second, .val (.int (21 : Int32)), .val (.int ((((i1 + (1 : Int32)) + (1 : Int32)) + (1 : Int32)) + (1 : Int32))), .val (.int w3)] [(.int (21 : Int32)), (.long ((w3 &&& (127 : Int32)).toInt64)), (.long (own_R2 w0 w1 w2))])) _
          refine XT.lshl X0.here hx rfl (hb hby own_d3_26) rfl ?_
          show Steps p.tables e below (s₁.setTop (mkF m 27 #[.val (.ref a1), .val (.int i1), .val (.long (own_R2 w0 w1 w2)), .second, .val (.int (21 : Int32)), .val (.int ((((i1 + (1 : Int32)) + (1 : Int32)) + (1 : Int32)) + (1 : Int32))), .val (.int w3)] [(.long (((w3 &&& (127 : Int32)).toInt64) <<< ((21 : Int32).toInt64 &&& 63))), (.long (own_R2 w0 w1 w2))])) _
          refine XT.lor X0.here hx rfl (hb hby own_d3_27) rfl ?_
          show Steps p.tables e below (s₁.setTop (mkF m 28 #[.val (.ref a1), .val (.int i1), .val (.long (own_R2 w0 w1 w2)), .second, .val (.int (21 : Int32)), .val (.int ((((i1 + (1 : Int32)) + (1 : Int32)) + (1 : Int32)) + (1 : Int32))), .val (.int w3)] [(.long ((own_R2 w0 w1 w2) ||| (((w3 &&& (127 : Int32)).toInt64) <<< ((21 : Int32).toInt64 &&& 63))))])) _
          refine XT.lstoreN X0.here hx rfl (hb hby own_d3_28) rfl (l' := #[.val (.ref a1), .val (.int i1), .val (.long ((own_R2 w0 w1 w2) ||| (((w3 &&& (127 : Int32)).toInt64) <<< ((21 : Int32).toInt64 &&& 63)))), .second, .val (.int (21 : Int32)), .val (.int ((((i1 + (1 : Int32)) + (1 : Int32)) + (1 : Int32)) + (1 : Int32))), .val (.int w3)]) rfl ?_
          show Steps p.tables e below (s₁.setTop (mkF m 29 #[.val (.ref a1), .val (.int i1), .val (.long (own_R3 w0 w1 w2 w3)), .second, .val (.int (21 : Int32)), .val (.int ((((i1 + (1 : Int32)) + (1 : Int32)) + (1 : Int32)) + (1 : Int32))), .val (.int w3)] [])) _
          refine XT.iincV X0.here hx rfl (7 : Int32) (hb hby own_d3_29) rfl rfl (l' := #[.val (.ref a1), .val (.int i1), .val (.long (own_R3 w0 w1 w2 w3)), .second, .val (.int (28 : Int32)), .val (.int ((((i1 + (1 : Int32)) + (1 : Int32)) + (1 : Int32)) + (1 : Int32))), .val (.int w3)]) rfl ?_
          show Steps p.tables e below (s₁.setTop (mkF m 32 #[.val (.ref a1), .val (.int i1), .val (.long (own_R3 w0 w1 w2 w3)), .second, .val (.int (28 : Int32)), .val (.int ((((i1 + (1 : Int32)) + (1 : Int32)) + (1 : Int32)) + (1 : Int32))), .val (.int w3)] [])) _
          refine XS.iload X0.here hx rfl (hb hby own_d3_32) rfl ?_
          exact k)
        by_cases hl3 : w3 < 0
        · obtain ⟨cl9, Ar9, Q9, Sz9, Nn9, Ha9, Gf9⟩ := id P_V_a1
          have ghin9 : ¬ (((((i1 + (1 : Int32)) + (1 : Int32)) + (1 : Int32)) + (1 : Int32)) < 0 ∨ cl9.slots.size ≤ (((((i1 + (1 : Int32)) + (1 : Int32)) + (1 : Int32)) + (1 : Int32))).toNatClampNeg) := inb_of Sz9 hin4
          have ghat9 : cl9.slots[(((((i1 + (1 : Int32)) + (1 : Int32)) + (1 : Int32)) + (1 : Int32))).toNatClampNeg]? = some (.int w4) := Ha9.at ghin9 hat4
          have pre10 : ∀ t, Steps p.tables e below (s₁.setTop (mkF m 34 #[.val (.ref a1), .val (.int i1), .val (.long (own_R4 w0 w1 w2 w3 w4)), .second, .val (.int (35 : Int32)), .val (.int (((((i1 + (1 : Int32)) + (1 : Int32)) + (1 : Int32)) + (1 : Int32)) + (1 : Int32))), .val (.int w4)] [(.int w4)])) t → Steps p.tables e below (s₁.setTop (entryFrame m #[(.ref a1), (.int i1)] 7)) t := fun t k => pre8 t (by
            show Steps p.tables e below (s₁.setTop (mkF m 34 #[.val (.ref a1), .val (.int i1), .val (.long (own_R3 w0 w1 w2 w3)), .second, .val (.int (28 : Int32)), .val (.int ((((i1 + (1 : Int32)) + (1 : Int32)) + (1 : Int32)) + (1 : Int32))), .val (.int w3)] [(.int w3)])) _
            refine XS.ifYes X0.here hx rfl (pc0 := 34) (pc' := 8) rfl (hb hby own_d3_34) rfl (XT.i0_lt_t hl3) (by decide) (by decide) ?_
            show Steps p.tables e below (s₁.setTop (mkF m 8 #[.val (.ref a1), .val (.int i1), .val (.long (own_R3 w0 w1 w2 w3)), .second, .val (.int (28 : Int32)), .val (.int ((((i1 + (1 : Int32)) + (1 : Int32)) + (1 : Int32)) + (1 : Int32))), .val (.int w3)] [])) _
            refine XS.aloadN X0.here hx rfl (hb hby own_d3_8) rfl rfl ?_
            show Steps p.tables e below (s₁.setTop (mkF m 9 #[.val (.ref a1), .val (.int i1), .val (.long (own_R3 w0 w1 w2 w3)), .second, .val (.int (28 : Int32)), .val (.int ((((i1 + (1 : Int32)) + (1 : Int32)) + (1 : Int32)) + (1 : Int32))), .val (.int w3)] [(.ref a1)])) _
            refine XS.iload X0.here hx rfl (hb hby own_d3_9) rfl ?_
            show Steps p.tables e below (s₁.setTop (mkF m 11 #[.val (.ref a1), .val (.int i1), .val (.long (own_R3 w0 w1 w2 w3)), .second, .val (.int (28 : Int32)), .val (.int ((((i1 + (1 : Int32)) + (1 : Int32)) + (1 : Int32)) + (1 : Int32))), .val (.int w3)] [(.int ((((i1 + (1 : Int32)) + (1 : Int32)) + (1 : Int32)) + (1 : Int32))), (.ref a1)])) _
            refine XT.iincV X0.here hx rfl (1 : Int32) (hb hby own_d3_11) rfl rfl (l' := #[.val (.ref a1), .val (.int i1), .val (.long (own_R3 w0 w1 w2 w3)), .second, .val (.int (28 : Int32)), .val (.int (((((i1 + (1 : Int32)) + (1 : Int32)) + (1 : Int32)) + (1 : Int32)) + (1 : Int32))), .val (.int w3)]) rfl ?_
            show Steps p.tables e below (s₁.setTop (mkF m 14 #[.val (.ref a1), .val (.int i1), .val (.long (own_R3 w0 w1 w2 w3)), .second, .val (.int (28 : Int32)), .val (.int (((((i1 + (1 : Int32)) + (1 : Int32)) + (1 : Int32)) + (1 : Int32)) + (1 : Int32))), .val (.int w3)] [(.int ((((i1 + (1 : Int32)) + (1 : Int32)) + (1 : Int32)) + (1 : Int32))), (.ref a1)])) _
            refine X0.baloadBytes hx (j := ((((i1 + (1 : Int32)) + (1 : Int32)) + (1 : Int32)) + (1 : Int32))) (v := (.int w4)) (by rw [e0]; exact Ar9.1) (State.isArrayOf_alike hZ.alike Ar9.2.1) Ar9.2.2 ghin9 ghat9 (g := (mkF m 14 #[.val (.ref a1), .val (.int i1), .val (.long (own_R3 w0 w1 w2 w3)), .second, .val (.int (28 : Int32)), .val (.int (((((i1 + (1 : Int32)) + (1 : Int32)) + (1 : Int32)) + (1 : Int32)) + (1 : Int32))), .val (.int w3)] [(.int ((((i1 + (1 : Int32)) + (1 : Int32)) + (1 : Int32)) + (1 : Int32))), (.ref a1)])) rfl rfl (hb hby own_d3_14) _ ?_
            show Steps p.tables e below (s₁.setTop (mkF m 15 #[.val (.ref a1), .val (.int i1), .val (.long (own_R3 w0 w1 w2 w3)), .second, .val (.int (28 : Int32)), .val (.int (((((i1 + (1 : Int32)) + (1 : Int32)) + (1 : Int32)) + (1 : Int32)) + (1 : Int32))), .val (.int w3)] [(.int w4)])) _
            refine XS.istore X0.here hx rfl (hb hby own_d3_15) rfl (l' := #[.val (.ref a1), .val (.int i1), .val (.long (own_R3 w0 w1 w2 w3)), .second, .val (.int (28 : Int32)), .val (.int (((((i1 + (1 : Int32)) + (1 : Int32)) + (1 : Int32)) + (1 : Int32)) + (1 : Int32))), .val (.int w4)]) rfl ?_
            show Steps p.tables e below (s₁.setTop (mkF m 17 #[.val (.ref a1), .val (.int i1), .val (.long (own_R3 w0 w1 w2 w3)), .second, .val (.int (28 : Int32)), .val (.int (((((i1 + (1 : Int32)) + (1 : Int32)) + (1 : Int32)) + (1 : Int32)) + (1 : Int32))), .val (.int w4)] [])) _
            refine XT.lloadN X0.here hx rfl (hb hby own_d3_17) rfl ?_
            show Steps p.tables e below (s₁.setTop (mkF m 18 #[.val (.ref a1), .val (.int i1), .val (.long (own_R3 w0 w1 w2 w3)), .second, .val (.int (28 : Int32)), .val (.int (((((i1 + (1 : Int32)) + (1 : Int32)) + (1 : Int32)) + (1 : Int32)) + (1 : Int32))), .val (.int w4)] [(.long (own_R3 w0 w1 w2 w3))])) _
            refine XS.iload X0.here hx rfl (hb hby own_d3_18) rfl ?_
            show Steps p.tables e below (s₁.setTop (mkF m 20 #[.val (.ref a1), .val (.int i1), .val (.long (own_R3 w0 w1 w2 w3)), .second, .val (.int (28 : Int32)), .val (.int (((((i1 + (1 : Int32)) + (1 : Int32)) + (1 : Int32)) + (1 : Int32)) + (1 : Int32))), .val (.int w4)] [(.int w4), (.long (own_R3 w0 w1 w2 w3))])) _
            refine XT.bipushV X0.here hx rfl (127 : Int32) (hb hby own_d3_20) rfl ?_
            show Steps p.tables e below (s₁.setTop (mkF m 22 #[.val (.ref a1), .val (.int i1), .val (.long (own_R3 w0 w1 w2 w3)), .second, .val (.int (28 : Int32)), .val (.int (((((i1 + (1 : Int32)) + (1 : Int32)) + (1 : Int32)) + (1 : Int32)) + (1 : Int32))), .val (.int w4)] [(.int (127 : Int32)), (.int w4), (.long (own_R3 w0 w1 w2 w3))])) _
            refine XS.iand X0.here hx rfl (hb hby own_d3_22) rfl ?_
            show Steps p.tables e below (s₁.setTop (mkF m 23 #[.val (.ref a1), .val (.int i1), .val (.long (own_R3 w0 w1 w2 w3)), .second, .val (.int (28 : Int32)), .val (.int (((((i1 + (1 : Int32)) + (1 : Int32)) + (1 : Int32)) + (1 : Int32)) + (1 : Int32))), .val (.int w4)] [(.int (w4 &&& (127 : Int32))), (.long (own_R3 w0 w1 w2 w3))])) _
            refine XT.i2l X0.here hx rfl (hb hby own_d3_23) rfl ?_
            show Steps p.tables e below (s₁.setTop (mkF m 24 #[.val (.ref a1), .val (.int i1), .val (.long (own_R3 w0 w1 w2 w3)), .second, .val (.int (28 : Int32)), .val (.int (((((i1 + (1 : Int32)) + (1 : Int32)) + (1 : Int32)) + (1 : Int32)) + (1 : Int32))), .val (.int w4)] [(.long ((w4 &&& (127 : Int32)).toInt64)), (.long (own_R3 w0 w1 w2 w3))])) _
            refine XS.iload X0.here hx rfl (hb hby own_d3_24) rfl ?_
            show Steps p.tables e below (s₁.setTop (mkF m 26 #[.val (.ref a1), .val (.int i1), .val (.long (own_R3 w0 w1 w2 w3)), .second, .val (.int (28 : Int32)), .val (.int (((((i1 + (1 : Int32)) + (1 : Int32)) + (1 : Int32)) + (1 : Int32)) + (1 : Int32))), .val (.int w4)] [(.int (28 : Int32)), (.long ((w4 &&& (127 : Int32)).toInt64)), (.long (own_R3 w0 w1 w2 w3))])) _
            refine XT.lshl X0.here hx rfl (hb hby own_d3_26) rfl ?_
            show Steps p.tables e below (s₁.setTop (mkF m 27 #[.val (.ref a1), .val (.int i1), .val (.long (own_R3 w0 w1 w2 w3)), .second, .val (.int (28 : Int32)), .val (.int (((((i1 + (1 : Int32)) + (1 : Int32)) + (1 : Int32)) + (1 : Int32)) + (1 : Int32))), .val (.int w4)] [(.long (((w4 &&& (127 : Int32)).toInt64) <<< ((28 : Int32).toInt64 &&& 63))), (.long (own_R3 w0 w1 w2 w3))])) _
            refine XT.lor X0.here hx rfl (hb hby own_d3_27) rfl ?_
            show Steps p.tables e below (s₁.setTop (mkF m 28 #[.val (.ref a1), .val (.int i1), .val (.long (own_R3 w0 w1 w2 w3)), .second, .val (.int (28 : Int32)), .val (.int (((((i1 + (1 : Int32)) + (1 : Int32)) + (1 : Int32)) + (1 : Int32)) + (1 : Int32))), .val (.int w4)] [(.long ((own_R3 w0 w1 w2 w3) ||| (((w4 &&& (127 : Int32)).toInt64) <<< ((28 : Int32).toInt64 &&& 63))))])) _
            refine XT.lstoreN X0.here hx rfl (hb hby own_d3_28) rfl (l' := #[.val (.ref a1), .val (.int i1), .val (.long ((own_R3 w0 w1 w2 w3) ||| (((w4 &&& (127 : Int32)).toInt64) <<< ((28 : Int32).toInt64 &&& 63)))), .second, .val (.int (28 : Int32)), .val (.int (((((i1 + (1 : Int32)) + (1 : Int32)) + (1 : Int32)) + (1 : Int32)) + (1 : Int32))), .val (.int w4)]) rfl ?_
            show Steps p.tables e below (s₁.setTop (mkF m 29 #[.val (.ref a1), .val (.int i1), .val (.long (own_R4 w0 w1 w2 w3 w4)), .second, .val (.int (28 : Int32)), .val (.int (((((i1 + (1 : Int32)) + (1 : Int32)) + (1 : Int32)) + (1 : Int32)) + (1 : Int32))), .val (.int w4)] [])) _
            refine XT.iincV X0.here hx rfl (7 : Int32) (hb hby own_d3_29) rfl rfl (l' := #[.val (.ref a1), .val (.int i1), .val (.long (own_R4 w0 w1 w2 w3 w4)), .second, .val (.int (35 : Int32)), .val (.int (((((i1 + (1 : Int32)) + (1 : Int32)) + (1 : Int32)) + (1 : Int32)) + (1 : Int32))), .val (.int w4)]) rfl ?_
            show Steps p.tables e below (s₁.setTop (mkF m 32 #[.val (.ref a1), .val (.int i1), .val (.long (own_R4 w0 w1 w2 w3 w4)), .second, .val (.int (35 : Int32)), .val (.int (((((i1 + (1 : Int32)) + (1 : Int32)) + (1 : Int32)) + (1 : Int32)) + (1 : Int32))), .val (.int w4)] [])) _
            refine XS.iload X0.here hx rfl (hb hby own_d3_32) rfl ?_
            exact k)
          by_cases hl4 : w4 < 0
          · obtain ⟨cl11, Ar11, Q11, Sz11, Nn11, Ha11, Gf11⟩ := id P_V_a1
            have ghin11 : ¬ ((((((i1 + (1 : Int32)) + (1 : Int32)) + (1 : Int32)) + (1 : Int32)) + (1 : Int32)) < 0 ∨ cl11.slots.size ≤ ((((((i1 + (1 : Int32)) + (1 : Int32)) + (1 : Int32)) + (1 : Int32)) + (1 : Int32))).toNatClampNeg) := inb_of Sz11 hin5
            have ghat11 : cl11.slots[((((((i1 + (1 : Int32)) + (1 : Int32)) + (1 : Int32)) + (1 : Int32)) + (1 : Int32))).toNatClampNeg]? = some (.int w5) := Ha11.at ghin11 hat5
            have pre12 : ∀ t, Steps p.tables e below (s₁.setTop (mkF m 34 #[.val (.ref a1), .val (.int i1), .val (.long (own_R5 w0 w1 w2 w3 w4 w5)), .second, .val (.int (42 : Int32)), .val (.int ((((((i1 + (1 : Int32)) + (1 : Int32)) + (1 : Int32)) + (1 : Int32)) + (1 : Int32)) + (1 : Int32))), .val (.int w5)] [(.int w5)])) t → Steps p.tables e below (s₁.setTop (entryFrame m #[(.ref a1), (.int i1)] 7)) t := fun t k => pre10 t (by
              show Steps p.tables e below (s₁.setTop (mkF m 34 #[.val (.ref a1), .val (.int i1), .val (.long (own_R4 w0 w1 w2 w3 w4)), .second, .val (.int (35 : Int32)), .val (.int (((((i1 + (1 : Int32)) + (1 : Int32)) + (1 : Int32)) + (1 : Int32)) + (1 : Int32))), .val (.int w4)] [(.int w4)])) _
              refine XS.ifYes X0.here hx rfl (pc0 := 34) (pc' := 8) rfl (hb hby own_d3_34) rfl (XT.i0_lt_t hl4) (by decide) (by decide) ?_
              show Steps p.tables e below (s₁.setTop (mkF m 8 #[.val (.ref a1), .val (.int i1), .val (.long (own_R4 w0 w1 w2 w3 w4)), .second, .val (.int (35 : Int32)), .val (.int (((((i1 + (1 : Int32)) + (1 : Int32)) + (1 : Int32)) + (1 : Int32)) + (1 : Int32))), .val (.int w4)] [])) _
              refine XS.aloadN X0.here hx rfl (hb hby own_d3_8) rfl rfl ?_
              show Steps p.tables e below (s₁.setTop (mkF m 9 #[.val (.ref a1), .val (.int i1), .val (.long (own_R4 w0 w1 w2 w3 w4)), .second, .val (.int (35 : Int32)), .val (.int (((((i1 + (1 : Int32)) + (1 : Int32)) + (1 : Int32)) + (1 : Int32)) + (1 : Int32))), .val (.int w4)] [(.ref a1)])) _
              refine XS.iload X0.here hx rfl (hb hby own_d3_9) rfl ?_
              show Steps p.tables e below (s₁.setTop (mkF m 11 #[.val (.ref a1), .val (.int i1), .val (.long (own_R4 w0 w1 w2 w3 w4)), .second, .val (.int (35 : Int32)), .val (.int (((((i1 + (1 : Int32)) + (1 : Int32)) + (1 : Int32)) + (1 : Int32)) + (1 : Int32))), .val (.int w4)] [(.int (((((i1 + (1 : Int32)) + (1 : Int32)) + (1 : Int32)) + (1 : Int32)) + (1 : Int32))), (.ref a1)])) _
              refine XT.iincV X0.here hx rfl (1 : Int32) (hb hby own_d3_11) rfl rfl (l' := #[.val (.ref a1), .val (.int i1), .val (.long (own_R4 w0 w1 w2 w3 w4)), .second, .val (.int (35 : Int32)), .val (.int ((((((i1 + (1 : Int32)) + (1 : Int32)) + (1 : Int32)) + (1 : Int32)) + (1 : Int32)) + (1 : Int32))), .val (.int w4)]) rfl ?_
              show Steps p.tables e below (s₁.setTop (mkF m 14 #[.val (.ref a1), .val (.int i1), .val (.long (own_R4 w0 w1 w2 w3 w4)), .second, .val (.int (35 : Int32)), .val (.int ((((((i1 + (1 : Int32)) + (1 : Int32)) + (1 : Int32)) + (1 : Int32)) + (1 : Int32)) + (1 : Int32))), .val (.int w4)] [(.int (((((i1 + (1 : Int32)) + (1 : Int32)) + (1 : Int32)) + (1 : Int32)) + (1 : Int32))), (.ref a1)])) _
              refine X0.baloadBytes hx (j := (((((i1 + (1 : Int32)) + (1 : Int32)) + (1 : Int32)) + (1 : Int32)) + (1 : Int32))) (v := (.int w5)) (by rw [e0]; exact Ar11.1) (State.isArrayOf_alike hZ.alike Ar11.2.1) Ar11.2.2 ghin11 ghat11 (g := (mkF m 14 #[.val (.ref a1), .val (.int i1), .val (.long (own_R4 w0 w1 w2 w3 w4)), .second, .val (.int (35 : Int32)), .val (.int ((((((i1 + (1 : Int32)) + (1 : Int32)) + (1 : Int32)) + (1 : Int32)) + (1 : Int32)) + (1 : Int32))), .val (.int w4)] [(.int (((((i1 + (1 : Int32)) + (1 : Int32)) + (1 : Int32)) + (1 : Int32)) + (1 : Int32))), (.ref a1)])) rfl rfl (hb hby own_d3_14) _ ?_
              show Steps p.tables e below (s₁.setTop (mkF m 15 #[.val (.ref a1), .val (.int i1), .val (.long (own_R4 w0 w1 w2 w3 w4)), .second, .val (.int (35 : Int32)), .val (.int ((((((i1 + (1 : Int32)) + (1 : Int32)) + (1 : Int32)) + (1 : Int32)) + (1 : Int32)) + (1 : Int32))), .val (.int w4)] [(.int w5)])) _
              refine XS.istore X0.here hx rfl (hb hby own_d3_15) rfl (l' := #[.val (.ref a1), .val (.int i1), .val (.long (own_R4 w0 w1 w2 w3 w4)), .second, .val (.int (35 : Int32)), .val (.int ((((((i1 + (1 : Int32)) + (1 : Int32)) + (1 : Int32)) + (1 : Int32)) + (1 : Int32)) + (1 : Int32))), .val (.int w5)]) rfl ?_
              show Steps p.tables e below (s₁.setTop (mkF m 17 #[.val (.ref a1), .val (.int i1), .val (.long (own_R4 w0 w1 w2 w3 w4)), .second, .val (.int (35 : Int32)), .val (.int ((((((i1 + (1 : Int32)) + (1 : Int32)) + (1 : Int32)) + (1 : Int32)) + (1 : Int32)) + (1 : Int32))), .val (.int w5)] [])) _
              refine XT.lloadN X0.here hx rfl (hb hby own_d3_17) rfl ?_
              show Steps p.tables e below (s₁.setTop (mkF m 18 #[.val (.ref a1), .val (.int i1), .val (.long (own_R4 w0 w1 w2 w3 w4)), .second, .val (.int (35 : Int32)), .val (.int ((((((i1 + (1 : Int32)) + (1 : Int32)) + (1 : Int32)) + (1 : Int32)) + (1 : Int32)) + (1 : Int32))), .val (.int w5)] [(.long (own_R4 w0 w1 w2 w3 w4))])) _
              refine XS.iload X0.here hx rfl (hb hby own_d3_18) rfl ?_
              show Steps p.tables e below (s₁.setTop (mkF m 20 #[.val (.ref a1), .val (.int i1), .val (.long (own_R4 w0 w1 w2 w3 w4)), .second, .val (.int (35 : Int32)), .val (.int ((((((i1 + (1 : Int32)) + (1 : Int32)) + (1 : Int32)) + (1 : Int32)) + (1 : Int32)) + (1 : Int32))), .val (.int w5)] [(.int w5), (.long (own_R4 w0 w1 w2 w3 w4))])) _
              refine XT.bipushV X0.here hx rfl (127 : Int32) (hb hby own_d3_20) rfl ?_
              show Steps p.tables e below (s₁.setTop (mkF m 22 #[.val (.ref a1), .val (.int i1), .val (.long (own_R4 w0 w1 w2 w3 w4)), .second, .val (.int (35 : Int32)), .val (.int ((((((i1 + (1 : Int32)) + (1 : Int32)) + (1 : Int32)) + (1 : Int32)) + (1 : Int32)) + (1 : Int32))), .val (.int w5)] [(.int (127 : Int32)), (.int w5), (.long (own_R4 w0 w1 w2 w3 w4))])) _
              refine XS.iand X0.here hx rfl (hb hby own_d3_22) rfl ?_
              show Steps p.tables e below (s₁.setTop (mkF m 23 #[.val (.ref a1), .val (.int i1), .val (.long (own_R4 w0 w1 w2 w3 w4)), .second, .val (.int (35 : Int32)), .val (.int ((((((i1 + (1 : Int32)) + (1 : Int32)) + (1 : Int32)) + (1 : Int32)) + (1 : Int32)) + (1 : Int32))), .val (.int w5)] [(.int (w5 &&& (127 : Int32))), (.long (own_R4 w0 w1 w2 w3 w4))])) _
              refine XT.i2l X0.here hx rfl (hb hby own_d3_23) rfl ?_
              show Steps p.tables e below (s₁.setTop (mkF m 24 #[.val (.ref a1), .val (.int i1), .val (.long (own_R4 w0 w1 w2 w3 w4)), .second, .val (.int (35 : Int32)), .val (.int ((((((i1 + (1 : Int32)) + (1 : Int32)) + (1 : Int32)) + (1 : Int32)) + (1 : Int32)) + (1 : Int32))), .val (.int w5)] [(.long ((w5 &&& (127 : Int32)).toInt64)), (.long (own_R4 w0 w1 w2 w3 w4))])) _
              refine XS.iload X0.here hx rfl (hb hby own_d3_24) rfl ?_
              show Steps p.tables e below (s₁.setTop (mkF m 26 #[.val (.ref a1), .val (.int i1), .val (.long (own_R4 w0 w1 w2 w3 w4)), .second, .val (.int (35 : Int32)), .val (.int ((((((i1 + (1 : Int32)) + (1 : Int32)) + (1 : Int32)) + (1 : Int32)) + (1 : Int32)) + (1 : Int32))), .val (.int w5)] [(.int (35 : Int32)), (.long ((w5 &&& (127 : Int32)).toInt64)), (.long (own_R4 w0 w1 w2 w3 w4))])) _
              refine XT.lshl X0.here hx rfl (hb hby own_d3_26) rfl ?_
              show Steps p.tables e below (s₁.setTop (mkF m 27 #[.val (.ref a1), .val (.int i1), .val (.long (own_R4 w0 w1 w2 w3 w4)), .second, .val (.int (35 : Int32)), .val (.int ((((((i1 + (1 : Int32)) + (1 : Int32)) + (1 : Int32)) + (1 : Int32)) + (1 : Int32)) + (1 : Int32))), .val (.int w5)] [(.long (((w5 &&& (127 : Int32)).toInt64) <<< ((35 : Int32).toInt64 &&& 63))), (.long (own_R4 w0 w1 w2 w3 w4))])) _
              refine XT.lor X0.here hx rfl (hb hby own_d3_27) rfl ?_
              show Steps p.tables e below (s₁.setTop (mkF m 28 #[.val (.ref a1), .val (.int i1), .val (.long (own_R4 w0 w1 w2 w3 w4)), .second, .val (.int (35 : Int32)), .val (.int ((((((i1 + (1 : Int32)) + (1 : Int32)) + (1 : Int32)) + (1 : Int32)) + (1 : Int32)) + (1 : Int32))), .val (.int w5)] [(.long ((own_R4 w0 w1 w2 w3 w4) ||| (((w5 &&& (127 : Int32)).toInt64) <<< ((35 : Int32).toInt64 &&& 63))))])) _
              refine XT.lstoreN X0.here hx rfl (hb hby own_d3_28) rfl (l' := #[.val (.ref a1), .val (.int i1), .val (.long ((own_R4 w0 w1 w2 w3 w4) ||| (((w5 &&& (127 : Int32)).toInt64) <<< ((35 : Int32).toInt64 &&& 63)))), .second, .val (.int (35 : Int32)), .val (.int ((((((i1 + (1 : Int32)) + (1 : Int32)) + (1 : Int32)) + (1 : Int32)) + (1 : Int32)) + (1 : Int32))), .val (.int w5)]) rfl ?_
              show Steps p.tables e below (s₁.setTop (mkF m 29 #[.val (.ref a1), .val (.int i1), .val (.long (own_R5 w0 w1 w2 w3 w4 w5)), .second, .val (.int (35 : Int32)), .val (.int ((((((i1 + (1 : Int32)) + (1 : Int32)) + (1 : Int32)) + (1 : Int32)) + (1 : Int32)) + (1 : Int32))), .val (.int w5)] [])) _
              refine XT.iincV X0.here hx rfl (7 : Int32) (hb hby own_d3_29) rfl rfl (l' := #[.val (.ref a1), .val (.int i1), .val (.long (own_R5 w0 w1 w2 w3 w4 w5)), .second, .val (.int (42 : Int32)), .val (.int ((((((i1 + (1 : Int32)) + (1 : Int32)) + (1 : Int32)) + (1 : Int32)) + (1 : Int32)) + (1 : Int32))), .val (.int w5)]) rfl ?_
              show Steps p.tables e below (s₁.setTop (mkF m 32 #[.val (.ref a1), .val (.int i1), .val (.long (own_R5 w0 w1 w2 w3 w4 w5)), .second, .val (.int (42 : Int32)), .val (.int ((((((i1 + (1 : Int32)) + (1 : Int32)) + (1 : Int32)) + (1 : Int32)) + (1 : Int32)) + (1 : Int32))), .val (.int w5)] [])) _
              refine XS.iload X0.here hx rfl (hb hby own_d3_32) rfl ?_
              exact k)
            by_cases hl5 : w5 < 0
            · obtain ⟨cl13, Ar13, Q13, Sz13, Nn13, Ha13, Gf13⟩ := id P_V_a1
              have ghin13 : ¬ (((((((i1 + (1 : Int32)) + (1 : Int32)) + (1 : Int32)) + (1 : Int32)) + (1 : Int32)) + (1 : Int32)) < 0 ∨ cl13.slots.size ≤ (((((((i1 + (1 : Int32)) + (1 : Int32)) + (1 : Int32)) + (1 : Int32)) + (1 : Int32)) + (1 : Int32))).toNatClampNeg) := inb_of Sz13 hin6
              have ghat13 : cl13.slots[(((((((i1 + (1 : Int32)) + (1 : Int32)) + (1 : Int32)) + (1 : Int32)) + (1 : Int32)) + (1 : Int32))).toNatClampNeg]? = some (.int w6) := Ha13.at ghin13 hat6
              have pre14 : ∀ t, Steps p.tables e below (s₁.setTop (mkF m 34 #[.val (.ref a1), .val (.int i1), .val (.long (own_R6 w0 w1 w2 w3 w4 w5 w6)), .second, .val (.int (49 : Int32)), .val (.int (((((((i1 + (1 : Int32)) + (1 : Int32)) + (1 : Int32)) + (1 : Int32)) + (1 : Int32)) + (1 : Int32)) + (1 : Int32))), .val (.int w6)] [(.int w6)])) t → Steps p.tables e below (s₁.setTop (entryFrame m #[(.ref a1), (.int i1)] 7)) t := fun t k => pre12 t (by
                show Steps p.tables e below (s₁.setTop (mkF m 34 #[.val (.ref a1), .val (.int i1), .val (.long (own_R5 w0 w1 w2 w3 w4 w5)), .second, .val (.int (42 : Int32)), .val (.int ((((((i1 + (1 : Int32)) + (1 : Int32)) + (1 : Int32)) + (1 : Int32)) + (1 : Int32)) + (1 : Int32))), .val (.int w5)] [(.int w5)])) _
                refine XS.ifYes X0.here hx rfl (pc0 := 34) (pc' := 8) rfl (hb hby own_d3_34) rfl (XT.i0_lt_t hl5) (by decide) (by decide) ?_
                show Steps p.tables e below (s₁.setTop (mkF m 8 #[.val (.ref a1), .val (.int i1), .val (.long (own_R5 w0 w1 w2 w3 w4 w5)), .second, .val (.int (42 : Int32)), .val (.int ((((((i1 + (1 : Int32)) + (1 : Int32)) + (1 : Int32)) + (1 : Int32)) + (1 : Int32)) + (1 : Int32))), .val (.int w5)] [])) _
                refine XS.aloadN X0.here hx rfl (hb hby own_d3_8) rfl rfl ?_
                show Steps p.tables e below (s₁.setTop (mkF m 9 #[.val (.ref a1), .val (.int i1), .val (.long (own_R5 w0 w1 w2 w3 w4 w5)), .second, .val (.int (42 : Int32)), .val (.int ((((((i1 + (1 : Int32)) + (1 : Int32)) + (1 : Int32)) + (1 : Int32)) + (1 : Int32)) + (1 : Int32))), .val (.int w5)] [(.ref a1)])) _
                refine XS.iload X0.here hx rfl (hb hby own_d3_9) rfl ?_
                show Steps p.tables e below (s₁.setTop (mkF m 11 #[.val (.ref a1), .val (.int i1), .val (.long (own_R5 w0 w1 w2 w3 w4 w5)), .second, .val (.int (42 : Int32)), .val (.int ((((((i1 + (1 : Int32)) + (1 : Int32)) + (1 : Int32)) + (1 : Int32)) + (1 : Int32)) + (1 : Int32))), .val (.int w5)] [(.int ((((((i1 + (1 : Int32)) + (1 : Int32)) + (1 : Int32)) + (1 : Int32)) + (1 : Int32)) + (1 : Int32))), (.ref a1)])) _
                refine XT.iincV X0.here hx rfl (1 : Int32) (hb hby own_d3_11) rfl rfl (l' := #[.val (.ref a1), .val (.int i1), .val (.long (own_R5 w0 w1 w2 w3 w4 w5)), .second, .val (.int (42 : Int32)), .val (.int (((((((i1 + (1 : Int32)) + (1 : Int32)) + (1 : Int32)) + (1 : Int32)) + (1 : Int32)) + (1 : Int32)) + (1 : Int32))), .val (.int w5)]) rfl ?_
                show Steps p.tables e below (s₁.setTop (mkF m 14 #[.val (.ref a1), .val (.int i1), .val (.long (own_R5 w0 w1 w2 w3 w4 w5)), .second, .val (.int (42 : Int32)), .val (.int (((((((i1 + (1 : Int32)) + (1 : Int32)) + (1 : Int32)) + (1 : Int32)) + (1 : Int32)) + (1 : Int32)) + (1 : Int32))), .val (.int w5)] [(.int ((((((i1 + (1 : Int32)) + (1 : Int32)) + (1 : Int32)) + (1 : Int32)) + (1 : Int32)) + (1 : Int32))), (.ref a1)])) _
                refine X0.baloadBytes hx (j := ((((((i1 + (1 : Int32)) + (1 : Int32)) + (1 : Int32)) + (1 : Int32)) + (1 : Int32)) + (1 : Int32))) (v := (.int w6)) (by rw [e0]; exact Ar13.1) (State.isArrayOf_alike hZ.alike Ar13.2.1) Ar13.2.2 ghin13 ghat13 (g := (mkF m 14 #[.val (.ref a1), .val (.int i1), .val (.long (own_R5 w0 w1 w2 w3 w4 w5)), .second, .val (.int (42 : Int32)), .val (.int (((((((i1 + (1 : Int32)) + (1 : Int32)) + (1 : Int32)) + (1 : Int32)) + (1 : Int32)) + (1 : Int32)) + (1 : Int32))), .val (.int w5)] [(.int ((((((i1 + (1 : Int32)) + (1 : Int32)) + (1 : Int32)) + (1 : Int32)) + (1 : Int32)) + (1 : Int32))), (.ref a1)])) rfl rfl (hb hby own_d3_14) _ ?_
                show Steps p.tables e below (s₁.setTop (mkF m 15 #[.val (.ref a1), .val (.int i1), .val (.long (own_R5 w0 w1 w2 w3 w4 w5)), .second, .val (.int (42 : Int32)), .val (.int (((((((i1 + (1 : Int32)) + (1 : Int32)) + (1 : Int32)) + (1 : Int32)) + (1 : Int32)) + (1 : Int32)) + (1 : Int32))), .val (.int w5)] [(.int w6)])) _
                refine XS.istore X0.here hx rfl (hb hby own_d3_15) rfl (l' := #[.val (.ref a1), .val (.int i1), .val (.long (own_R5 w0 w1 w2 w3 w4 w5)), .second, .val (.int (42 : Int32)), .val (.int (((((((i1 + (1 : Int32)) + (1 : Int32)) + (1 : Int32)) + (1 : Int32)) + (1 : Int32)) + (1 : Int32)) + (1 : Int32))), .val (.int w6)]) rfl ?_
                show Steps p.tables e below (s₁.setTop (mkF m 17 #[.val (.ref a1), .val (.int i1), .val (.long (own_R5 w0 w1 w2 w3 w4 w5)), .second, .val (.int (42 : Int32)), .val (.int (((((((i1 + (1 : Int32)) + (1 : Int32)) + (1 : Int32)) + (1 : Int32)) + (1 : Int32)) + (1 : Int32)) + (1 : Int32))), .val (.int w6)] [])) _
                refine XT.lloadN X0.here hx rfl (hb hby own_d3_17) rfl ?_
                show Steps p.tables e below (s₁.setTop (mkF m 18 #[.val (.ref a1), .val (.int i1), .val (.long (own_R5 w0 w1 w2 w3 w4 w5)), .second, .val (.int (42 : Int32)), .val (.int (((((((i1 + (1 : Int32)) + (1 : Int32)) + (1 : Int32)) + (1 : Int32)) + (1 : Int32)) + (1 : Int32)) + (1 : Int32))), .val (.int w6)] [(.long (own_R5 w0 w1 w2 w3 w4 w5))])) _
                refine XS.iload X0.here hx rfl (hb hby own_d3_18) rfl ?_
                show Steps p.tables e below (s₁.setTop (mkF m 20 #[.val (.ref a1), .val (.int i1), .val (.long (own_R5 w0 w1 w2 w3 w4 w5)), .second, .val (.int (42 : Int32)), .val (.int (((((((i1 + (1 : Int32)) + (1 : Int32)) + (1 : Int32)) + (1 : Int32)) + (1 : Int32)) + (1 : Int32)) + (1 : Int32))), .val (.int w6)] [(.int w6), (.long (own_R5 w0 w1 w2 w3 w4 w5))])) _
                refine XT.bipushV X0.here hx rfl (127 : Int32) (hb hby own_d3_20) rfl ?_
                show Steps p.tables e below (s₁.setTop (mkF m 22 #[.val (.ref a1), .val (.int i1), .val (.long (own_R5 w0 w1 w2 w3 w4 w5)), .second, .val (.int (42 : Int32)), .val (.int (((((((i1 + (1 : Int32)) + (1 : Int32)) + (1 : Int32)) + (1 : Int32)) + (1 : Int32)) + (1 : Int32)) + (1 : Int32))), .val (.int w6)] [(.int (127 : Int32)), (.int w6), (.long (own_R5 w0 w1 w2 w3 w4 w5))])) _
                refine XS.iand X0.here hx rfl (hb hby own_d3_22) rfl ?_
                show Steps p.tables e below (s₁.setTop (mkF m 23 #[.val (.ref a1), .val (.int i1), .val (.long (own_R5 w0 w1 w2 w3 w4 w5)), .second, .val (.int (42 : Int32)), .val (.int (((((((i1 + (1 : Int32)) + (1 : Int32)) + (1 : Int32)) + (1 : Int32)) + (1 : Int32)) + (1 : Int32)) + (1 : Int32))), .val (.int w6)] [(.int (w6 &&& (127 : Int32))), (.long (own_R5 w0 w1 w2 w3 w4 w5))])) _
                refine XT.i2l X0.here hx rfl (hb hby own_d3_23) rfl ?_
                show Steps p.tables e below (s₁.setTop (mkF m 24 #[.val (.ref a1), .val (.int i1), .val (.long (own_R5 w0 w1 w2 w3 w4 w5)), .second, .val (.int (42 : Int32)), .val (.int (((((((i1 + (1 : Int32)) + (1 : Int32)) + (1 : Int32)) + (1 : Int32)) + (1 : Int32)) + (1 : Int32)) + (1 : Int32))), .val (.int w6)] [(.long ((w6 &&& (127 : Int32)).toInt64)), (.long (own_R5 w0 w1 w2 w3 w4 w5))])) _
                refine XS.iload X0.here hx rfl (hb hby own_d3_24) rfl ?_
                show Steps p.tables e below (s₁.setTop (mkF m 26 #[.val (.ref a1), .val (.int i1), .val (.long (own_R5 w0 w1 w2 w3 w4 w5)), .second, .val (.int (42 : Int32)), .val (.int (((((((i1 + (1 : Int32)) + (1 : Int32)) + (1 : Int32)) + (1 : Int32)) + (1 : Int32)) + (1 : Int32)) + (1 : Int32))), .val (.int w6)] [(.int (42 : Int32)), (.long ((w6 &&& (127 : Int32)).toInt64)), (.long (own_R5 w0 w1 w2 w3 w4 w5))])) _
                refine XT.lshl X0.here hx rfl (hb hby own_d3_26) rfl ?_
                show Steps p.tables e below (s₁.setTop (mkF m 27 #[.val (.ref a1), .val (.int i1), .val (.long (own_R5 w0 w1 w2 w3 w4 w5)), .second, .val (.int (42 : Int32)), .val (.int (((((((i1 + (1 : Int32)) + (1 : Int32)) + (1 : Int32)) + (1 : Int32)) + (1 : Int32)) + (1 : Int32)) + (1 : Int32))), .val (.int w6)] [(.long (((w6 &&& (127 : Int32)).toInt64) <<< ((42 : Int32).toInt64 &&& 63))), (.long (own_R5 w0 w1 w2 w3 w4 w5))])) _
                refine XT.lor X0.here hx rfl (hb hby own_d3_27) rfl ?_
                show Steps p.tables e below (s₁.setTop (mkF m 28 #[.val (.ref a1), .val (.int i1), .val (.long (own_R5 w0 w1 w2 w3 w4 w5)), .second, .val (.int (42 : Int32)), .val (.int (((((((i1 + (1 : Int32)) + (1 : Int32)) + (1 : Int32)) + (1 : Int32)) + (1 : Int32)) + (1 : Int32)) + (1 : Int32))), .val (.int w6)] [(.long ((own_R5 w0 w1 w2 w3 w4 w5) ||| (((w6 &&& (127 : Int32)).toInt64) <<< ((42 : Int32).toInt64 &&& 63))))])) _
                refine XT.lstoreN X0.here hx rfl (hb hby own_d3_28) rfl (l' := #[.val (.ref a1), .val (.int i1), .val (.long ((own_R5 w0 w1 w2 w3 w4 w5) ||| (((w6 &&& (127 : Int32)).toInt64) <<< ((42 : Int32).toInt64 &&& 63)))), .second, .val (.int (42 : Int32)), .val (.int (((((((i1 + (1 : Int32)) + (1 : Int32)) + (1 : Int32)) + (1 : Int32)) + (1 : Int32)) + (1 : Int32)) + (1 : Int32))), .val (.int w6)]) rfl ?_
                show Steps p.tables e below (s₁.setTop (mkF m 29 #[.val (.ref a1), .val (.int i1), .val (.long (own_R6 w0 w1 w2 w3 w4 w5 w6)), .second, .val (.int (42 : Int32)), .val (.int (((((((i1 + (1 : Int32)) + (1 : Int32)) + (1 : Int32)) + (1 : Int32)) + (1 : Int32)) + (1 : Int32)) + (1 : Int32))), .val (.int w6)] [])) _
                refine XT.iincV X0.here hx rfl (7 : Int32) (hb hby own_d3_29) rfl rfl (l' := #[.val (.ref a1), .val (.int i1), .val (.long (own_R6 w0 w1 w2 w3 w4 w5 w6)), .second, .val (.int (49 : Int32)), .val (.int (((((((i1 + (1 : Int32)) + (1 : Int32)) + (1 : Int32)) + (1 : Int32)) + (1 : Int32)) + (1 : Int32)) + (1 : Int32))), .val (.int w6)]) rfl ?_
                show Steps p.tables e below (s₁.setTop (mkF m 32 #[.val (.ref a1), .val (.int i1), .val (.long (own_R6 w0 w1 w2 w3 w4 w5 w6)), .second, .val (.int (49 : Int32)), .val (.int (((((((i1 + (1 : Int32)) + (1 : Int32)) + (1 : Int32)) + (1 : Int32)) + (1 : Int32)) + (1 : Int32)) + (1 : Int32))), .val (.int w6)] [])) _
                refine XS.iload X0.here hx rfl (hb hby own_d3_32) rfl ?_
                exact k)
              by_cases hl6 : w6 < 0
              · obtain ⟨cl15, Ar15, Q15, Sz15, Nn15, Ha15, Gf15⟩ := id P_V_a1
                have ghin15 : ¬ ((((((((i1 + (1 : Int32)) + (1 : Int32)) + (1 : Int32)) + (1 : Int32)) + (1 : Int32)) + (1 : Int32)) + (1 : Int32)) < 0 ∨ cl15.slots.size ≤ ((((((((i1 + (1 : Int32)) + (1 : Int32)) + (1 : Int32)) + (1 : Int32)) + (1 : Int32)) + (1 : Int32)) + (1 : Int32))).toNatClampNeg) := inb_of Sz15 hin7
                have ghat15 : cl15.slots[((((((((i1 + (1 : Int32)) + (1 : Int32)) + (1 : Int32)) + (1 : Int32)) + (1 : Int32)) + (1 : Int32)) + (1 : Int32))).toNatClampNeg]? = some (.int w7) := Ha15.at ghin15 hat7
                have pre16 : ∀ t, Steps p.tables e below (s₁.setTop (mkF m 34 #[.val (.ref a1), .val (.int i1), .val (.long (own_R7 w0 w1 w2 w3 w4 w5 w6 w7)), .second, .val (.int (56 : Int32)), .val (.int ((((((((i1 + (1 : Int32)) + (1 : Int32)) + (1 : Int32)) + (1 : Int32)) + (1 : Int32)) + (1 : Int32)) + (1 : Int32)) + (1 : Int32))), .val (.int w7)] [(.int w7)])) t → Steps p.tables e below (s₁.setTop (entryFrame m #[(.ref a1), (.int i1)] 7)) t := fun t k => pre14 t (by
                  show Steps p.tables e below (s₁.setTop (mkF m 34 #[.val (.ref a1), .val (.int i1), .val (.long (own_R6 w0 w1 w2 w3 w4 w5 w6)), .second, .val (.int (49 : Int32)), .val (.int (((((((i1 + (1 : Int32)) + (1 : Int32)) + (1 : Int32)) + (1 : Int32)) + (1 : Int32)) + (1 : Int32)) + (1 : Int32))), .val (.int w6)] [(.int w6)])) _
                  refine XS.ifYes X0.here hx rfl (pc0 := 34) (pc' := 8) rfl (hb hby own_d3_34) rfl (XT.i0_lt_t hl6) (by decide) (by decide) ?_
                  show Steps p.tables e below (s₁.setTop (mkF m 8 #[.val (.ref a1), .val (.int i1), .val (.long (own_R6 w0 w1 w2 w3 w4 w5 w6)), .second, .val (.int (49 : Int32)), .val (.int (((((((i1 + (1 : Int32)) + (1 : Int32)) + (1 : Int32)) + (1 : Int32)) + (1 : Int32)) + (1 : Int32)) + (1 : Int32))), .val (.int w6)] [])) _
                  refine XS.aloadN X0.here hx rfl (hb hby own_d3_8) rfl rfl ?_
                  show Steps p.tables e below (s₁.setTop (mkF m 9 #[.val (.ref a1), .val (.int i1), .val (.long (own_R6 w0 w1 w2 w3 w4 w5 w6)), .second, .val (.int (49 : Int32)), .val (.int (((((((i1 + (1 : Int32)) + (1 : Int32)) + (1 : Int32)) + (1 : Int32)) + (1 : Int32)) + (1 : Int32)) + (1 : Int32))), .val (.int w6)] [(.ref a1)])) _
                  refine XS.iload X0.here hx rfl (hb hby own_d3_9) rfl ?_
                  show Steps p.tables e below (s₁.setTop (mkF m 11 #[.val (.ref a1), .val (.int i1), .val (.long (own_R6 w0 w1 w2 w3 w4 w5 w6)), .second, .val (.int (49 : Int32)), .val (.int (((((((i1 + (1 : Int32)) + (1 : Int32)) + (1 : Int32)) + (1 : Int32)) + (1 : Int32)) + (1 : Int32)) + (1 : Int32))), .val (.int w6)] [(.int (((((((i1 + (1 : Int32)) + (1 : Int32)) + (1 : Int32)) + (1 : Int32)) + (1 : Int32)) + (1 : Int32)) + (1 : Int32))), (.ref a1)])) _
                  refine XT.iincV X0.here hx rfl (1 : Int32) (hb hby own_d3_11) rfl rfl (l' := #[.val (.ref a1), .val (.int i1), .val (.long (own_R6 w0 w1 w2 w3 w4 w5 w6)), .second, .val (.int (49 : Int32)), .val (.int ((((((((i1 + (1 : Int32)) + (1 : Int32)) + (1 : Int32)) + (1 : Int32)) + (1 : Int32)) + (1 : Int32)) + (1 : Int32)) + (1 : Int32))), .val (.int w6)]) rfl ?_
                  show Steps p.tables e below (s₁.setTop (mkF m 14 #[.val (.ref a1), .val (.int i1), .val (.long (own_R6 w0 w1 w2 w3 w4 w5 w6)), .second, .val (.int (49 : Int32)), .val (.int ((((((((i1 + (1 : Int32)) + (1 : Int32)) + (1 : Int32)) + (1 : Int32)) + (1 : Int32)) + (1 : Int32)) + (1 : Int32)) + (1 : Int32))), .val (.int w6)] [(.int (((((((i1 + (1 : Int32)) + (1 : Int32)) + (1 : Int32)) + (1 : Int32)) + (1 : Int32)) + (1 : Int32)) + (1 : Int32))), (.ref a1)])) _
                  refine X0.baloadBytes hx (j := (((((((i1 + (1 : Int32)) + (1 : Int32)) + (1 : Int32)) + (1 : Int32)) + (1 : Int32)) + (1 : Int32)) + (1 : Int32))) (v := (.int w7)) (by rw [e0]; exact Ar15.1) (State.isArrayOf_alike hZ.alike Ar15.2.1) Ar15.2.2 ghin15 ghat15 (g := (mkF m 14 #[.val (.ref a1), .val (.int i1), .val (.long (own_R6 w0 w1 w2 w3 w4 w5 w6)), .second, .val (.int (49 : Int32)), .val (.int ((((((((i1 + (1 : Int32)) + (1 : Int32)) + (1 : Int32)) + (1 : Int32)) + (1 : Int32)) + (1 : Int32)) + (1 : Int32)) + (1 : Int32))), .val (.int w6)] [(.int (((((((i1 + (1 : Int32)) + (1 : Int32)) + (1 : Int32)) + (1 : Int32)) + (1 : Int32)) + (1 : Int32)) + (1 : Int32))), (.ref a1)])) rfl rfl (hb hby own_d3_14) _ ?_
                  show Steps p.tables e below (s₁.setTop (mkF m 15 #[.val (.ref a1), .val (.int i1), .val (.long (own_R6 w0 w1 w2 w3 w4 w5 w6)), .second, .val (.int (49 : Int32)), .val (.int ((((((((i1 + (1 : Int32)) + (1 : Int32)) + (1 : Int32)) + (1 : Int32)) + (1 : Int32)) + (1 : Int32)) + (1 : Int32)) + (1 : Int32))), .val (.int w6)] [(.int w7)])) _
                  refine XS.istore X0.here hx rfl (hb hby own_d3_15) rfl (l' := #[.val (.ref a1), .val (.int i1), .val (.long (own_R6 w0 w1 w2 w3 w4 w5 w6)), .second, .val (.int (49 : Int32)), .val (.int ((((((((i1 + (1 : Int32)) + (1 : Int32)) + (1 : Int32)) + (1 : Int32)) + (1 : Int32)) + (1 : Int32)) + (1 : Int32)) + (1 : Int32))), .val (.int w7)]) rfl ?_
                  show Steps p.tables e below (s₁.setTop (mkF m 17 #[.val (.ref a1), .val (.int i1), .val (.long (own_R6 w0 w1 w2 w3 w4 w5 w6)), .second, .val (.int (49 : Int32)), .val (.int ((((((((i1 + (1 : Int32)) + (1 : Int32)) + (1 : Int32)) + (1 : Int32)) + (1 : Int32)) + (1 : Int32)) + (1 : Int32)) + (1 : Int32))), .val (.int w7)] [])) _
                  refine XT.lloadN X0.here hx rfl (hb hby own_d3_17) rfl ?_
                  show Steps p.tables e below (s₁.setTop (mkF m 18 #[.val (.ref a1), .val (.int i1), .val (.long (own_R6 w0 w1 w2 w3 w4 w5 w6)), .second, .val (.int (49 : Int32)), .val (.int ((((((((i1 + (1 : Int32)) + (1 : Int32)) + (1 : Int32)) + (1 : Int32)) + (1 : Int32)) + (1 : Int32)) + (1 : Int32)) + (1 : Int32))), .val (.int w7)] [(.long (own_R6 w0 w1 w2 w3 w4 w5 w6))])) _
                  refine XS.iload X0.here hx rfl (hb hby own_d3_18) rfl ?_
                  show Steps p.tables e below (s₁.setTop (mkF m 20 #[.val (.ref a1), .val (.int i1), .val (.long (own_R6 w0 w1 w2 w3 w4 w5 w6)), .second, .val (.int (49 : Int32)), .val (.int ((((((((i1 + (1 : Int32)) + (1 : Int32)) + (1 : Int32)) + (1 : Int32)) + (1 : Int32)) + (1 : Int32)) + (1 : Int32)) + (1 : Int32))), .val (.int w7)] [(.int w7), (.long (own_R6 w0 w1 w2 w3 w4 w5 w6))])) _
                  refine XT.bipushV X0.here hx rfl (127 : Int32) (hb hby own_d3_20) rfl ?_
                  show Steps p.tables e below (s₁.setTop (mkF m 22 #[.val (.ref a1), .val (.int i1), .val (.long (own_R6 w0 w1 w2 w3 w4 w5 w6)), .second, .val (.int (49 : Int32)), .val (.int ((((((((i1 + (1 : Int32)) + (1 : Int32)) + (1 : Int32)) + (1 : Int32)) + (1 : Int32)) + (1 : Int32)) + (1 : Int32)) + (1 : Int32))), .val (.int w7)] [(.int (127 : Int32)), (.int w7), (.long (own_R6 w0 w1 w2 w3 w4 w5 w6))])) _
                  refine XS.iand X0.here hx rfl (hb hby own_d3_22) rfl ?_
                  show Steps p.tables e below (s₁.setTop (mkF m 23 #[.val (.ref a1), .val (.int i1), .val (.long (own_R6 w0 w1 w2 w3 w4 w5 w6)), .second, .val (.int (49 : Int32)), .val (.int ((((((((i1 + (1 : Int32)) + (1 : Int32)) + (1 : Int32)) + (1 : Int32)) + (1 : Int32)) + (1 : Int32)) + (1 : Int32)) + (1 : Int32))), .val (.int w7)] [(.int (w7 &&& (127 : Int32))), (.long (own_R6 w0 w1 w2 w3 w4 w5 w6))])) _
                  refine XT.i2l X0.here hx rfl (hb hby own_d3_23) rfl ?_
                  show Steps p.tables e below (s₁.setTop (mkF m 24 #[.val (.ref a1), .val (.int i1), .val (.long (own_R6 w0 w1 w2 w3 w4 w5 w6)), .second, .val (.int (49 : Int32)), .val (.int ((((((((i1 + (1 : Int32)) + (1 : Int32)) + (1 : Int32)) + (1 : Int32)) + (1 : Int32)) + (1 : Int32)) + (1 : Int32)) + (1 : Int32))), .val (.int w7)] [(.long ((w7 &&& (127 : Int32)).toInt64)), (.long (own_R6 w0 w1 w2 w3 w4 w5 w6))])) _
                  refine XS.iload X0.here hx rfl (hb hby own_d3_24) rfl ?_
                  show Steps p.tables e below (s₁.setTop (mkF m 26 #[.val (.ref a1), .val (.int i1), .val (.long (own_R6 w0 w1 w2 w3 w4 w5 w6)), .second, .val (.int (49 : Int32)), .val (.int ((((((((i1 + (1 : Int32)) + (1 : Int32)) + (1 : Int32)) + (1 : Int32)) + (1 : Int32)) + (1 : Int32)) + (1 : Int32)) + (1 : Int32))), .val (.int w7)] [(.int (49 : Int32)), (.long ((w7 &&& (127 : Int32)).toInt64)), (.long (own_R6 w0 w1 w2 w3 w4 w5 w6))])) _
                  refine XT.lshl X0.here hx rfl (hb hby own_d3_26) rfl ?_
                  show Steps p.tables e below (s₁.setTop (mkF m 27 #[.val (.ref a1), .val (.int i1), .val (.long (own_R6 w0 w1 w2 w3 w4 w5 w6)), .second, .val (.int (49 : Int32)), .val (.int ((((((((i1 + (1 : Int32)) + (1 : Int32)) + (1 : Int32)) + (1 : Int32)) + (1 : Int32)) + (1 : Int32)) + (1 : Int32)) + (1 : Int32))), .val (.int w7)] [(.long (((w7 &&& (127 : Int32)).toInt64) <<< ((49 : Int32).toInt64 &&& 63))), (.long (own_R6 w0 w1 w2 w3 w4 w5 w6))])) _
                  refine XT.lor X0.here hx rfl (hb hby own_d3_27) rfl ?_
                  show Steps p.tables e below (s₁.setTop (mkF m 28 #[.val (.ref a1), .val (.int i1), .val (.long (own_R6 w0 w1 w2 w3 w4 w5 w6)), .second, .val (.int (49 : Int32)), .val (.int ((((((((i1 + (1 : Int32)) + (1 : Int32)) + (1 : Int32)) + (1 : Int32)) + (1 : Int32)) + (1 : Int32)) + (1 : Int32)) + (1 : Int32))), .val (.int w7)] [(.long ((own_R6 w0 w1 w2 w3 w4 w5 w6) ||| (((w7 &&& (127 : Int32)).toInt64) <<< ((49 : Int32).toInt64 &&& 63))))])) _
                  refine XT.lstoreN X0.here hx rfl (hb hby own_d3_28) rfl (l' := #[.val (.ref a1), .val (.int i1), .val (.long ((own_R6 w0 w1 w2 w3 w4 w5 w6) ||| (((w7 &&& (127 : Int32)).toInt64) <<< ((49 : Int32).toInt64 &&& 63)))), .second, .val (.int (49 : Int32)), .val (.int ((((((((i1 + (1 : Int32)) + (1 : Int32)) + (1 : Int32)) + (1 : Int32)) + (1 : Int32)) + (1 : Int32)) + (1 : Int32)) + (1 : Int32))), .val (.int w7)]) rfl ?_
                  show Steps p.tables e below (s₁.setTop (mkF m 29 #[.val (.ref a1), .val (.int i1), .val (.long (own_R7 w0 w1 w2 w3 w4 w5 w6 w7)), .second, .val (.int (49 : Int32)), .val (.int ((((((((i1 + (1 : Int32)) + (1 : Int32)) + (1 : Int32)) + (1 : Int32)) + (1 : Int32)) + (1 : Int32)) + (1 : Int32)) + (1 : Int32))), .val (.int w7)] [])) _
                  refine XT.iincV X0.here hx rfl (7 : Int32) (hb hby own_d3_29) rfl rfl (l' := #[.val (.ref a1), .val (.int i1), .val (.long (own_R7 w0 w1 w2 w3 w4 w5 w6 w7)), .second, .val (.int (56 : Int32)), .val (.int ((((((((i1 + (1 : Int32)) + (1 : Int32)) + (1 : Int32)) + (1 : Int32)) + (1 : Int32)) + (1 : Int32)) + (1 : Int32)) + (1 : Int32))), .val (.int w7)]) rfl ?_
                  show Steps p.tables e below (s₁.setTop (mkF m 32 #[.val (.ref a1), .val (.int i1), .val (.long (own_R7 w0 w1 w2 w3 w4 w5 w6 w7)), .second, .val (.int (56 : Int32)), .val (.int ((((((((i1 + (1 : Int32)) + (1 : Int32)) + (1 : Int32)) + (1 : Int32)) + (1 : Int32)) + (1 : Int32)) + (1 : Int32)) + (1 : Int32))), .val (.int w7)] [])) _
                  refine XS.iload X0.here hx rfl (hb hby own_d3_32) rfl ?_
                  exact k)
                by_cases hl7 : w7 < 0
                · obtain ⟨cl17, Ar17, Q17, Sz17, Nn17, Ha17, Gf17⟩ := id P_V_a1
                  have ghin17 : ¬ (((((((((i1 + (1 : Int32)) + (1 : Int32)) + (1 : Int32)) + (1 : Int32)) + (1 : Int32)) + (1 : Int32)) + (1 : Int32)) + (1 : Int32)) < 0 ∨ cl17.slots.size ≤ (((((((((i1 + (1 : Int32)) + (1 : Int32)) + (1 : Int32)) + (1 : Int32)) + (1 : Int32)) + (1 : Int32)) + (1 : Int32)) + (1 : Int32))).toNatClampNeg) := inb_of Sz17 hin8
                  have ghat17 : cl17.slots[(((((((((i1 + (1 : Int32)) + (1 : Int32)) + (1 : Int32)) + (1 : Int32)) + (1 : Int32)) + (1 : Int32)) + (1 : Int32)) + (1 : Int32))).toNatClampNeg]? = some (.int w8) := Ha17.at ghin17 hat8
                  obtain ⟨fs, hr, hrun, hended, hW, hsame⟩ := X0.leave (v := some (.long (own_R8 w0 w1 w2 w3 w4 w5 w6 w7 w8))) (fun h => by rw [Bd.returns] at h; cases h)
                  refine ⟨_, _, pre16 _ ?_, hrun, hended, _, _, rfl, ?_, ⟨_, rfl⟩, hW, hsame.mono (by decide) (by decide)⟩
                  · show Steps p.tables e below (s₁.setTop (mkF m 34 #[.val (.ref a1), .val (.int i1), .val (.long (own_R7 w0 w1 w2 w3 w4 w5 w6 w7)), .second, .val (.int (56 : Int32)), .val (.int ((((((((i1 + (1 : Int32)) + (1 : Int32)) + (1 : Int32)) + (1 : Int32)) + (1 : Int32)) + (1 : Int32)) + (1 : Int32)) + (1 : Int32))), .val (.int w7)] [(.int w7)])) _
                    refine XS.ifYes X0.here hx rfl (pc0 := 34) (pc' := 8) rfl (hb hby own_d3_34) rfl (XT.i0_lt_t hl7) (by decide) (by decide) ?_
                    show Steps p.tables e below (s₁.setTop (mkF m 8 #[.val (.ref a1), .val (.int i1), .val (.long (own_R7 w0 w1 w2 w3 w4 w5 w6 w7)), .second, .val (.int (56 : Int32)), .val (.int ((((((((i1 + (1 : Int32)) + (1 : Int32)) + (1 : Int32)) + (1 : Int32)) + (1 : Int32)) + (1 : Int32)) + (1 : Int32)) + (1 : Int32))), .val (.int w7)] [])) _
                    refine XS.aloadN X0.here hx rfl (hb hby own_d3_8) rfl rfl ?_
                    show Steps p.tables e below (s₁.setTop (mkF m 9 #[.val (.ref a1), .val (.int i1), .val (.long (own_R7 w0 w1 w2 w3 w4 w5 w6 w7)), .second, .val (.int (56 : Int32)), .val (.int ((((((((i1 + (1 : Int32)) + (1 : Int32)) + (1 : Int32)) + (1 : Int32)) + (1 : Int32)) + (1 : Int32)) + (1 : Int32)) + (1 : Int32))), .val (.int w7)] [(.ref a1)])) _
                    refine XS.iload X0.here hx rfl (hb hby own_d3_9) rfl ?_
                    show Steps p.tables e below (s₁.setTop (mkF m 11 #[.val (.ref a1), .val (.int i1), .val (.long (own_R7 w0 w1 w2 w3 w4 w5 w6 w7)), .second, .val (.int (56 : Int32)), .val (.int ((((((((i1 + (1 : Int32)) + (1 : Int32)) + (1 : Int32)) + (1 : Int32)) + (1 : Int32)) + (1 : Int32)) + (1 : Int32)) + (1 : Int32))), .val (.int w7)] [(.int ((((((((i1 + (1 : Int32)) + (1 : Int32)) + (1 : Int32)) + (1 : Int32)) + (1 : Int32)) + (1 : Int32)) + (1 : Int32)) + (1 : Int32))), (.ref a1)])) _
                    refine XT.iincV X0.here hx rfl (1 : Int32) (hb hby own_d3_11) rfl rfl (l' := #[.val (.ref a1), .val (.int i1), .val (.long (own_R7 w0 w1 w2 w3 w4 w5 w6 w7)), .second, .val (.int (56 : Int32)), .val (.int (((((((((i1 + (1 : Int32)) + (1 : Int32)) + (1 : Int32)) + (1 : Int32)) + (1 : Int32)) + (1 : Int32)) + (1 : Int32)) + (1 : Int32)) + (1 : Int32))), .val (.int w7)]) rfl ?_
                    show Steps p.tables e below (s₁.setTop (mkF m 14 #[.val (.ref a1), .val (.int i1), .val (.long (own_R7 w0 w1 w2 w3 w4 w5 w6 w7)), .second, .val (.int (56 : Int32)), .val (.int (((((((((i1 + (1 : Int32)) + (1 : Int32)) + (1 : Int32)) + (1 : Int32)) + (1 : Int32)) + (1 : Int32)) + (1 : Int32)) + (1 : Int32)) + (1 : Int32))), .val (.int w7)] [(.int ((((((((i1 + (1 : Int32)) + (1 : Int32)) + (1 : Int32)) + (1 : Int32)) + (1 : Int32)) + (1 : Int32)) + (1 : Int32)) + (1 : Int32))), (.ref a1)])) _
                    refine X0.baloadBytes hx (j := ((((((((i1 + (1 : Int32)) + (1 : Int32)) + (1 : Int32)) + (1 : Int32)) + (1 : Int32)) + (1 : Int32)) + (1 : Int32)) + (1 : Int32))) (v := (.int w8)) (by rw [e0]; exact Ar17.1) (State.isArrayOf_alike hZ.alike Ar17.2.1) Ar17.2.2 ghin17 ghat17 (g := (mkF m 14 #[.val (.ref a1), .val (.int i1), .val (.long (own_R7 w0 w1 w2 w3 w4 w5 w6 w7)), .second, .val (.int (56 : Int32)), .val (.int (((((((((i1 + (1 : Int32)) + (1 : Int32)) + (1 : Int32)) + (1 : Int32)) + (1 : Int32)) + (1 : Int32)) + (1 : Int32)) + (1 : Int32)) + (1 : Int32))), .val (.int w7)] [(.int ((((((((i1 + (1 : Int32)) + (1 : Int32)) + (1 : Int32)) + (1 : Int32)) + (1 : Int32)) + (1 : Int32)) + (1 : Int32)) + (1 : Int32))), (.ref a1)])) rfl rfl (hb hby own_d3_14) _ ?_
                    show Steps p.tables e below (s₁.setTop (mkF m 15 #[.val (.ref a1), .val (.int i1), .val (.long (own_R7 w0 w1 w2 w3 w4 w5 w6 w7)), .second, .val (.int (56 : Int32)), .val (.int (((((((((i1 + (1 : Int32)) + (1 : Int32)) + (1 : Int32)) + (1 : Int32)) + (1 : Int32)) + (1 : Int32)) + (1 : Int32)) + (1 : Int32)) + (1 : Int32))), .val (.int w7)] [(.int w8)])) _
                    refine XS.istore X0.here hx rfl (hb hby own_d3_15) rfl (l' := #[.val (.ref a1), .val (.int i1), .val (.long (own_R7 w0 w1 w2 w3 w4 w5 w6 w7)), .second, .val (.int (56 : Int32)), .val (.int (((((((((i1 + (1 : Int32)) + (1 : Int32)) + (1 : Int32)) + (1 : Int32)) + (1 : Int32)) + (1 : Int32)) + (1 : Int32)) + (1 : Int32)) + (1 : Int32))), .val (.int w8)]) rfl ?_
                    show Steps p.tables e below (s₁.setTop (mkF m 17 #[.val (.ref a1), .val (.int i1), .val (.long (own_R7 w0 w1 w2 w3 w4 w5 w6 w7)), .second, .val (.int (56 : Int32)), .val (.int (((((((((i1 + (1 : Int32)) + (1 : Int32)) + (1 : Int32)) + (1 : Int32)) + (1 : Int32)) + (1 : Int32)) + (1 : Int32)) + (1 : Int32)) + (1 : Int32))), .val (.int w8)] [])) _
                    refine XT.lloadN X0.here hx rfl (hb hby own_d3_17) rfl ?_
                    show Steps p.tables e below (s₁.setTop (mkF m 18 #[.val (.ref a1), .val (.int i1), .val (.long (own_R7 w0 w1 w2 w3 w4 w5 w6 w7)), .second, .val (.int (56 : Int32)), .val (.int (((((((((i1 + (1 : Int32)) + (1 : Int32)) + (1 : Int32)) + (1 : Int32)) + (1 : Int32)) + (1 : Int32)) + (1 : Int32)) + (1 : Int32)) + (1 : Int32))), .val (.int w8)] [(.long (own_R7 w0 w1 w2 w3 w4 w5 w6 w7))])) _
                    refine XS.iload X0.here hx rfl (hb hby own_d3_18) rfl ?_
                    show Steps p.tables e below (s₁.setTop (mkF m 20 #[.val (.ref a1), .val (.int i1), .val (.long (own_R7 w0 w1 w2 w3 w4 w5 w6 w7)), .second, .val (.int (56 : Int32)), .val (.int (((((((((i1 + (1 : Int32)) + (1 : Int32)) + (1 : Int32)) + (1 : Int32)) + (1 : Int32)) + (1 : Int32)) + (1 : Int32)) + (1 : Int32)) + (1 : Int32))), .val (.int w8)] [(.int w8), (.long (own_R7 w0 w1 w2 w3 w4 w5 w6 w7))])) _
                    refine XT.bipushV X0.here hx rfl (127 : Int32) (hb hby own_d3_20) rfl ?_
                    show Steps p.tables e below (s₁.setTop (mkF m 22 #[.val (.ref a1), .val (.int i1), .val (.long (own_R7 w0 w1 w2 w3 w4 w5 w6 w7)), .second, .val (.int (56 : Int32)), .val (.int (((((((((i1 + (1 : Int32)) + (1 : Int32)) + (1 : Int32)) + (1 : Int32)) + (1 : Int32)) + (1 : Int32)) + (1 : Int32)) + (1 : Int32)) + (1 : Int32))), .val (.int w8)] [(.int (127 : Int32)), (.int w8), (.long (own_R7 w0 w1 w2 w3 w4 w5 w6 w7))])) _
                    refine XS.iand X0.here hx rfl (hb hby own_d3_22) rfl ?_
                    show Steps p.tables e below (s₁.setTop (mkF m 23 #[.val (.ref a1), .val (.int i1), .val (.long (own_R7 w0 w1 w2 w3 w4 w5 w6 w7)), .second, .val (.int (56 : Int32)), .val (.int (((((((((i1 + (1 : Int32)) + (1 : Int32)) + (1 : Int32)) + (1 : Int32)) + (1 : Int32)) + (1 : Int32)) + (1 : Int32)) + (1 : Int32)) + (1 : Int32))), .val (.int w8)] [(.int (w8 &&& (127 : Int32))), (.long (own_R7 w0 w1 w2 w3 w4 w5 w6 w7))])) _
                    refine XT.i2l X0.here hx rfl (hb hby own_d3_23) rfl ?_
                    show Steps p.tables e below (s₁.setTop (mkF m 24 #[.val (.ref a1), .val (.int i1), .val (.long (own_R7 w0 w1 w2 w3 w4 w5 w6 w7)), .second, .val (.int (56 : Int32)), .val (.int (((((((((i1 + (1 : Int32)) + (1 : Int32)) + (1 : Int32)) + (1 : Int32)) + (1 : Int32)) + (1 : Int32)) + (1 : Int32)) + (1 : Int32)) + (1 : Int32))), .val (.int w8)] [(.long ((w8 &&& (127 : Int32)).toInt64)), (.long (own_R7 w0 w1 w2 w3 w4 w5 w6 w7))])) _
                    refine XS.iload X0.here hx rfl (hb hby own_d3_24) rfl ?_
                    show Steps p.tables e below (s₁.setTop (mkF m 26 #[.val (.ref a1), .val (.int i1), .val (.long (own_R7 w0 w1 w2 w3 w4 w5 w6 w7)), .second, .val (.int (56 : Int32)), .val (.int (((((((((i1 + (1 : Int32)) + (1 : Int32)) + (1 : Int32)) + (1 : Int32)) + (1 : Int32)) + (1 : Int32)) + (1 : Int32)) + (1 : Int32)) + (1 : Int32))), .val (.int w8)] [(.int (56 : Int32)), (.long ((w8 &&& (127 : Int32)).toInt64)), (.long (own_R7 w0 w1 w2 w3 w4 w5 w6 w7))])) _
                    refine XT.lshl X0.here hx rfl (hb hby own_d3_26) rfl ?_
                    show Steps p.tables e below (s₁.setTop (mkF m 27 #[.val (.ref a1), .val (.int i1), .val (.long (own_R7 w0 w1 w2 w3 w4 w5 w6 w7)), .second, .val (.int (56 : Int32)), .val (.int (((((((((i1 + (1 : Int32)) + (1 : Int32)) + (1 : Int32)) + (1 : Int32)) + (1 : Int32)) + (1 : Int32)) + (1 : Int32)) + (1 : Int32)) + (1 : Int32))), .val (.int w8)] [(.long (((w8 &&& (127 : Int32)).toInt64) <<< ((56 : Int32).toInt64 &&& 63))), (.long (own_R7 w0 w1 w2 w3 w4 w5 w6 w7))])) _
                    refine XT.lor X0.here hx rfl (hb hby own_d3_27) rfl ?_
                    show Steps p.tables e below (s₁.setTop (mkF m 28 #[.val (.ref a1), .val (.int i1), .val (.long (own_R7 w0 w1 w2 w3 w4 w5 w6 w7)), .second, .val (.int (56 : Int32)), .val (.int (((((((((i1 + (1 : Int32)) + (1 : Int32)) + (1 : Int32)) + (1 : Int32)) + (1 : Int32)) + (1 : Int32)) + (1 : Int32)) + (1 : Int32)) + (1 : Int32))), .val (.int w8)] [(.long ((own_R7 w0 w1 w2 w3 w4 w5 w6 w7) ||| (((w8 &&& (127 : Int32)).toInt64) <<< ((56 : Int32).toInt64 &&& 63))))])) _
                    refine XT.lstoreN X0.here hx rfl (hb hby own_d3_28) rfl (l' := #[.val (.ref a1), .val (.int i1), .val (.long ((own_R7 w0 w1 w2 w3 w4 w5 w6 w7) ||| (((w8 &&& (127 : Int32)).toInt64) <<< ((56 : Int32).toInt64 &&& 63)))), .second, .val (.int (56 : Int32)), .val (.int (((((((((i1 + (1 : Int32)) + (1 : Int32)) + (1 : Int32)) + (1 : Int32)) + (1 : Int32)) + (1 : Int32)) + (1 : Int32)) + (1 : Int32)) + (1 : Int32))), .val (.int w8)]) rfl ?_
                    show Steps p.tables e below (s₁.setTop (mkF m 29 #[.val (.ref a1), .val (.int i1), .val (.long (own_R8 w0 w1 w2 w3 w4 w5 w6 w7 w8)), .second, .val (.int (56 : Int32)), .val (.int (((((((((i1 + (1 : Int32)) + (1 : Int32)) + (1 : Int32)) + (1 : Int32)) + (1 : Int32)) + (1 : Int32)) + (1 : Int32)) + (1 : Int32)) + (1 : Int32))), .val (.int w8)] [])) _
                    refine XT.iincV X0.here hx rfl (7 : Int32) (hb hby own_d3_29) rfl rfl (l' := #[.val (.ref a1), .val (.int i1), .val (.long (own_R8 w0 w1 w2 w3 w4 w5 w6 w7 w8)), .second, .val (.int (63 : Int32)), .val (.int (((((((((i1 + (1 : Int32)) + (1 : Int32)) + (1 : Int32)) + (1 : Int32)) + (1 : Int32)) + (1 : Int32)) + (1 : Int32)) + (1 : Int32)) + (1 : Int32))), .val (.int w8)]) rfl ?_
                    show Steps p.tables e below (s₁.setTop (mkF m 32 #[.val (.ref a1), .val (.int i1), .val (.long (own_R8 w0 w1 w2 w3 w4 w5 w6 w7 w8)), .second, .val (.int (63 : Int32)), .val (.int (((((((((i1 + (1 : Int32)) + (1 : Int32)) + (1 : Int32)) + (1 : Int32)) + (1 : Int32)) + (1 : Int32)) + (1 : Int32)) + (1 : Int32)) + (1 : Int32))), .val (.int w8)] [])) _
                    refine XS.iload X0.here hx rfl (hb hby own_d3_32) rfl ?_
                    show Steps p.tables e below (s₁.setTop (mkF m 34 #[.val (.ref a1), .val (.int i1), .val (.long (own_R8 w0 w1 w2 w3 w4 w5 w6 w7 w8)), .second, .val (.int (63 : Int32)), .val (.int (((((((((i1 + (1 : Int32)) + (1 : Int32)) + (1 : Int32)) + (1 : Int32)) + (1 : Int32)) + (1 : Int32)) + (1 : Int32)) + (1 : Int32)) + (1 : Int32))), .val (.int w8)] [(.int w8)])) _
                    refine XS.ifNo X0.here hx rfl (hb hby own_d3_34) rfl (XT.i0_lt_f hl8) ?_
                    show Steps p.tables e below (s₁.setTop (mkF m 37 #[.val (.ref a1), .val (.int i1), .val (.long (own_R8 w0 w1 w2 w3 w4 w5 w6 w7 w8)), .second, .val (.int (63 : Int32)), .val (.int (((((((((i1 + (1 : Int32)) + (1 : Int32)) + (1 : Int32)) + (1 : Int32)) + (1 : Int32)) + (1 : Int32)) + (1 : Int32)) + (1 : Int32)) + (1 : Int32))), .val (.int w8)] [])) _
                    refine XT.lloadN X0.here hx rfl (hb hby own_d3_37) rfl ?_
                    show Steps p.tables e below (s₁.setTop (mkF m 38 #[.val (.ref a1), .val (.int i1), .val (.long (own_R8 w0 w1 w2 w3 w4 w5 w6 w7 w8)), .second, .val (.int (63 : Int32)), .val (.int (((((((((i1 + (1 : Int32)) + (1 : Int32)) + (1 : Int32)) + (1 : Int32)) + (1 : Int32)) + (1 : Int32)) + (1 : Int32)) + (1 : Int32)) + (1 : Int32))), .val (.int w8)] [(.long (own_R8 w0 w1 w2 w3 w4 w5 w6 w7 w8))])) _
                    exact retOut X0 hx (t := .long) Bd.returns rfl (Or.inr (Or.inl ⟨rfl, rfl, _, rfl⟩)) (hb hby own_d3_38) hr
                  · show own_Q3 Z a1 i1 kc vs w0 w1 w2 w3 w4 w5 w6 w7 w8 h0 n0 _ s₁.heap _
                    exact ⟨by unfold own_rd; rw [if_pos hl0, if_pos hl1, if_pos hl2, if_pos hl3, if_pos hl4, if_pos hl5, if_pos hl6, if_pos hl7], N0, e0⟩
                · obtain ⟨fs, hr, hrun, hended, hW, hsame⟩ := X0.leave (v := some (.long (own_R7 w0 w1 w2 w3 w4 w5 w6 w7))) (fun h => by rw [Bd.returns] at h; cases h)
                  refine ⟨_, _, pre16 _ ?_, hrun, hended, _, _, rfl, ?_, ⟨_, rfl⟩, hW, hsame.mono (by decide) (by decide)⟩
                  · show Steps p.tables e below (s₁.setTop (mkF m 34 #[.val (.ref a1), .val (.int i1), .val (.long (own_R7 w0 w1 w2 w3 w4 w5 w6 w7)), .second, .val (.int (56 : Int32)), .val (.int ((((((((i1 + (1 : Int32)) + (1 : Int32)) + (1 : Int32)) + (1 : Int32)) + (1 : Int32)) + (1 : Int32)) + (1 : Int32)) + (1 : Int32))), .val (.int w7)] [(.int w7)])) _
                    refine XS.ifNo X0.here hx rfl (hb hby own_d3_34) rfl (XT.i0_lt_f hl7) ?_
                    show Steps p.tables e below (s₁.setTop (mkF m 37 #[.val (.ref a1), .val (.int i1), .val (.long (own_R7 w0 w1 w2 w3 w4 w5 w6 w7)), .second, .val (.int (56 : Int32)), .val (.int ((((((((i1 + (1 : Int32)) + (1 : Int32)) + (1 : Int32)) + (1 : Int32)) + (1 : Int32)) + (1 : Int32)) + (1 : Int32)) + (1 : Int32))), .val (.int w7)] [])) _
                    refine XT.lloadN X0.here hx rfl (hb hby own_d3_37) rfl ?_
                    show Steps p.tables e below (s₁.setTop (mkF m 38 #[.val (.ref a1), .val (.int i1), .val (.long (own_R7 w0 w1 w2 w3 w4 w5 w6 w7)), .second, .val (.int (56 : Int32)), .val (.int ((((((((i1 + (1 : Int32)) + (1 : Int32)) + (1 : Int32)) + (1 : Int32)) + (1 : Int32)) + (1 : Int32)) + (1 : Int32)) + (1 : Int32))), .val (.int w7)] [(.long (own_R7 w0 w1 w2 w3 w4 w5 w6 w7))])) _
                    exact retOut X0 hx (t := .long) Bd.returns rfl (Or.inr (Or.inl ⟨rfl, rfl, _, rfl⟩)) (hb hby own_d3_38) hr
                  · show own_Q3 Z a1 i1 kc vs w0 w1 w2 w3 w4 w5 w6 w7 w8 h0 n0 _ s₁.heap _
                    exact ⟨by unfold own_rd; rw [if_pos hl0, if_pos hl1, if_pos hl2, if_pos hl3, if_pos hl4, if_pos hl5, if_pos hl6, if_neg hl7], N0, e0⟩
              · obtain ⟨fs, hr, hrun, hended, hW, hsame⟩ := X0.leave (v := some (.long (own_R6 w0 w1 w2 w3 w4 w5 w6))) (fun h => by rw [Bd.returns] at h; cases h)
                refine ⟨_, _, pre14 _ ?_, hrun, hended, _, _, rfl, ?_, ⟨_, rfl⟩, hW, hsame.mono (by decide) (by decide)⟩
                · show Steps p.tables e below (s₁.setTop (mkF m 34 #[.val (.ref a1), .val (.int i1), .val (.long (own_R6 w0 w1 w2 w3 w4 w5 w6)), .second, .val (.int (49 : Int32)), .val (.int (((((((i1 + (1 : Int32)) + (1 : Int32)) + (1 : Int32)) + (1 : Int32)) + (1 : Int32)) + (1 : Int32)) + (1 : Int32))), .val (.int w6)] [(.int w6)])) _
                  refine XS.ifNo X0.here hx rfl (hb hby own_d3_34) rfl (XT.i0_lt_f hl6) ?_
                  show Steps p.tables e below (s₁.setTop (mkF m 37 #[.val (.ref a1), .val (.int i1), .val (.long (own_R6 w0 w1 w2 w3 w4 w5 w6)), .second, .val (.int (49 : Int32)), .val (.int (((((((i1 + (1 : Int32)) + (1 : Int32)) + (1 : Int32)) + (1 : Int32)) + (1 : Int32)) + (1 : Int32)) + (1 : Int32))), .val (.int w6)] [])) _
                  refine XT.lloadN X0.here hx rfl (hb hby own_d3_37) rfl ?_
                  show Steps p.tables e below (s₁.setTop (mkF m 38 #[.val (.ref a1), .val (.int i1), .val (.long (own_R6 w0 w1 w2 w3 w4 w5 w6)), .second, .val (.int (49 : Int32)), .val (.int (((((((i1 + (1 : Int32)) + (1 : Int32)) + (1 : Int32)) + (1 : Int32)) + (1 : Int32)) + (1 : Int32)) + (1 : Int32))), .val (.int w6)] [(.long (own_R6 w0 w1 w2 w3 w4 w5 w6))])) _
                  exact retOut X0 hx (t := .long) Bd.returns rfl (Or.inr (Or.inl ⟨rfl, rfl, _, rfl⟩)) (hb hby own_d3_38) hr
                · show own_Q3 Z a1 i1 kc vs w0 w1 w2 w3 w4 w5 w6 w7 w8 h0 n0 _ s₁.heap _
                  exact ⟨by unfold own_rd; rw [if_pos hl0, if_pos hl1, if_pos hl2, if_pos hl3, if_pos hl4, if_pos hl5, if_neg hl6], N0, e0⟩
            · obtain ⟨fs, hr, hrun, hended, hW, hsame⟩ := X0.leave (v := some (.long (own_R5 w0 w1 w2 w3 w4 w5))) (fun h => by rw [Bd.returns] at h; cases h)
              refine ⟨_, _, pre12 _ ?_, hrun, hended, _, _, rfl, ?_, ⟨_, rfl⟩, hW, hsame.mono (by decide) (by decide)⟩
              · show Steps p.tables e below (s₁.setTop (mkF m 34 #[.val (.ref a1), .val (.int i1), .val (.long (own_R5 w0 w1 w2 w3 w4 w5)), .second, .val (.int (42 : Int32)), .val (.int ((((((i1 + (1 : Int32)) + (1 : Int32)) + (1 : Int32)) + (1 : Int32)) + (1 : Int32)) + (1 : Int32))), .val (.int w5)] [(.int w5)])) _
                refine XS.ifNo X0.here hx rfl (hb hby own_d3_34) rfl (XT.i0_lt_f hl5) ?_
                show Steps p.tables e below (s₁.setTop (mkF m 37 #[.val (.ref a1), .val (.int i1), .val (.long (own_R5 w0 w1 w2 w3 w4 w5)), .second, .val (.int (42 : Int32)), .val (.int ((((((i1 + (1 : Int32)) + (1 : Int32)) + (1 : Int32)) + (1 : Int32)) + (1 : Int32)) + (1 : Int32))), .val (.int w5)] [])) _
                refine XT.lloadN X0.here hx rfl (hb hby own_d3_37) rfl ?_
                show Steps p.tables e below (s₁.setTop (mkF m 38 #[.val (.ref a1), .val (.int i1), .val (.long (own_R5 w0 w1 w2 w3 w4 w5)), .second, .val (.int (42 : Int32)), .val (.int ((((((i1 + (1 : Int32)) + (1 : Int32)) + (1 : Int32)) + (1 : Int32)) + (1 : Int32)) + (1 : Int32))), .val (.int w5)] [(.long (own_R5 w0 w1 w2 w3 w4 w5))])) _
                exact retOut X0 hx (t := .long) Bd.returns rfl (Or.inr (Or.inl ⟨rfl, rfl, _, rfl⟩)) (hb hby own_d3_38) hr
              · show own_Q3 Z a1 i1 kc vs w0 w1 w2 w3 w4 w5 w6 w7 w8 h0 n0 _ s₁.heap _
                exact ⟨by unfold own_rd; rw [if_pos hl0, if_pos hl1, if_pos hl2, if_pos hl3, if_pos hl4, if_neg hl5], N0, e0⟩
          · obtain ⟨fs, hr, hrun, hended, hW, hsame⟩ := X0.leave (v := some (.long (own_R4 w0 w1 w2 w3 w4))) (fun h => by rw [Bd.returns] at h; cases h)
            refine ⟨_, _, pre10 _ ?_, hrun, hended, _, _, rfl, ?_, ⟨_, rfl⟩, hW, hsame.mono (by decide) (by decide)⟩
            · show Steps p.tables e below (s₁.setTop (mkF m 34 #[.val (.ref a1), .val (.int i1), .val (.long (own_R4 w0 w1 w2 w3 w4)), .second, .val (.int (35 : Int32)), .val (.int (((((i1 + (1 : Int32)) + (1 : Int32)) + (1 : Int32)) + (1 : Int32)) + (1 : Int32))), .val (.int w4)] [(.int w4)])) _
              refine XS.ifNo X0.here hx rfl (hb hby own_d3_34) rfl (XT.i0_lt_f hl4) ?_
              show Steps p.tables e below (s₁.setTop (mkF m 37 #[.val (.ref a1), .val (.int i1), .val (.long (own_R4 w0 w1 w2 w3 w4)), .second, .val (.int (35 : Int32)), .val (.int (((((i1 + (1 : Int32)) + (1 : Int32)) + (1 : Int32)) + (1 : Int32)) + (1 : Int32))), .val (.int w4)] [])) _
              refine XT.lloadN X0.here hx rfl (hb hby own_d3_37) rfl ?_
              show Steps p.tables e below (s₁.setTop (mkF m 38 #[.val (.ref a1), .val (.int i1), .val (.long (own_R4 w0 w1 w2 w3 w4)), .second, .val (.int (35 : Int32)), .val (.int (((((i1 + (1 : Int32)) + (1 : Int32)) + (1 : Int32)) + (1 : Int32)) + (1 : Int32))), .val (.int w4)] [(.long (own_R4 w0 w1 w2 w3 w4))])) _
              exact retOut X0 hx (t := .long) Bd.returns rfl (Or.inr (Or.inl ⟨rfl, rfl, _, rfl⟩)) (hb hby own_d3_38) hr
            · show own_Q3 Z a1 i1 kc vs w0 w1 w2 w3 w4 w5 w6 w7 w8 h0 n0 _ s₁.heap _
              exact ⟨by unfold own_rd; rw [if_pos hl0, if_pos hl1, if_pos hl2, if_pos hl3, if_neg hl4], N0, e0⟩
        · obtain ⟨fs, hr, hrun, hended, hW, hsame⟩ := X0.leave (v := some (.long (own_R3 w0 w1 w2 w3))) (fun h => by rw [Bd.returns] at h; cases h)
          refine ⟨_, _, pre8 _ ?_, hrun, hended, _, _, rfl, ?_, ⟨_, rfl⟩, hW, hsame.mono (by decide) (by decide)⟩
          · show Steps p.tables e below (s₁.setTop (mkF m 34 #[.val (.ref a1), .val (.int i1), .val (.long (own_R3 w0 w1 w2 w3)), .second, .val (.int (28 : Int32)), .val (.int ((((i1 + (1 : Int32)) + (1 : Int32)) + (1 : Int32)) + (1 : Int32))), .val (.int w3)] [(.int w3)])) _
            refine XS.ifNo X0.here hx rfl (hb hby own_d3_34) rfl (XT.i0_lt_f hl3) ?_
            show Steps p.tables e below (s₁.setTop (mkF m 37 #[.val (.ref a1), .val (.int i1), .val (.long (own_R3 w0 w1 w2 w3)), .second, .val (.int (28 : Int32)), .val (.int ((((i1 + (1 : Int32)) + (1 : Int32)) + (1 : Int32)) + (1 : Int32))), .val (.int w3)] [])) _
            refine XT.lloadN X0.here hx rfl (hb hby own_d3_37) rfl ?_
            show Steps p.tables e below (s₁.setTop (mkF m 38 #[.val (.ref a1), .val (.int i1), .val (.long (own_R3 w0 w1 w2 w3)), .second, .val (.int (28 : Int32)), .val (.int ((((i1 + (1 : Int32)) + (1 : Int32)) + (1 : Int32)) + (1 : Int32))), .val (.int w3)] [(.long (own_R3 w0 w1 w2 w3))])) _
            exact retOut X0 hx (t := .long) Bd.returns rfl (Or.inr (Or.inl ⟨rfl, rfl, _, rfl⟩)) (hb hby own_d3_38) hr
          · show own_Q3 Z a1 i1 kc vs w0 w1 w2 w3 w4 w5 w6 w7 w8 h0 n0 _ s₁.heap _
            exact ⟨by unfold own_rd; rw [if_pos hl0, if_pos hl1, if_pos hl2, if_neg hl3], N0, e0⟩
      · obtain ⟨fs, hr, hrun, hended, hW, hsame⟩ := X0.leave (v := some (.long (own_R2 w0 w1 w2))) (fun h => by rw [Bd.returns] at h; cases h)
        refine ⟨_, _, pre6 _ ?_, hrun, hended, _, _, rfl, ?_, ⟨_, rfl⟩, hW, hsame.mono (by decide) (by decide)⟩
        · show Steps p.tables e below (s₁.setTop (mkF m 34 #[.val (.ref a1), .val (.int i1), .val (.long (own_R2 w0 w1 w2)), .second, .val (.int (21 : Int32)), .val (.int (((i1 + (1 : Int32)) + (1 : Int32)) + (1 : Int32))), .val (.int w2)] [(.int w2)])) _
          refine XS.ifNo X0.here hx rfl (hb hby own_d3_34) rfl (XT.i0_lt_f hl2) ?_
          show Steps p.tables e below (s₁.setTop (mkF m 37 #[.val (.ref a1), .val (.int i1), .val (.long (own_R2 w0 w1 w2)), .second, .val (.int (21 : Int32)), .val (.int (((i1 + (1 : Int32)) + (1 : Int32)) + (1 : Int32))), .val (.int w2)] [])) _
          refine XT.lloadN X0.here hx rfl (hb hby own_d3_37) rfl ?_
          show Steps p.tables e below (s₁.setTop (mkF m 38 #[.val (.ref a1), .val (.int i1), .val (.long (own_R2 w0 w1 w2)), .second, .val (.int (21 : Int32)), .val (.int (((i1 + (1 : Int32)) + (1 : Int32)) + (1 : Int32))), .val (.int w2)] [(.long (own_R2 w0 w1 w2))])) _
          exact retOut X0 hx (t := .long) Bd.returns rfl (Or.inr (Or.inl ⟨rfl, rfl, _, rfl⟩)) (hb hby own_d3_38) hr
        · show own_Q3 Z a1 i1 kc vs w0 w1 w2 w3 w4 w5 w6 w7 w8 h0 n0 _ s₁.heap _
          exact ⟨by unfold own_rd; rw [if_pos hl0, if_pos hl1, if_neg hl2], N0, e0⟩
    · obtain ⟨fs, hr, hrun, hended, hW, hsame⟩ := X0.leave (v := some (.long (own_R1 w0 w1))) (fun h => by rw [Bd.returns] at h; cases h)
      refine ⟨_, _, pre4 _ ?_, hrun, hended, _, _, rfl, ?_, ⟨_, rfl⟩, hW, hsame.mono (by decide) (by decide)⟩
      · show Steps p.tables e below (s₁.setTop (mkF m 34 #[.val (.ref a1), .val (.int i1), .val (.long (own_R1 w0 w1)), .second, .val (.int (14 : Int32)), .val (.int ((i1 + (1 : Int32)) + (1 : Int32))), .val (.int w1)] [(.int w1)])) _
        refine XS.ifNo X0.here hx rfl (hb hby own_d3_34) rfl (XT.i0_lt_f hl1) ?_
        show Steps p.tables e below (s₁.setTop (mkF m 37 #[.val (.ref a1), .val (.int i1), .val (.long (own_R1 w0 w1)), .second, .val (.int (14 : Int32)), .val (.int ((i1 + (1 : Int32)) + (1 : Int32))), .val (.int w1)] [])) _
        refine XT.lloadN X0.here hx rfl (hb hby own_d3_37) rfl ?_
        show Steps p.tables e below (s₁.setTop (mkF m 38 #[.val (.ref a1), .val (.int i1), .val (.long (own_R1 w0 w1)), .second, .val (.int (14 : Int32)), .val (.int ((i1 + (1 : Int32)) + (1 : Int32))), .val (.int w1)] [(.long (own_R1 w0 w1))])) _
        exact retOut X0 hx (t := .long) Bd.returns rfl (Or.inr (Or.inl ⟨rfl, rfl, _, rfl⟩)) (hb hby own_d3_38) hr
      · show own_Q3 Z a1 i1 kc vs w0 w1 w2 w3 w4 w5 w6 w7 w8 h0 n0 _ s₁.heap _
        exact ⟨by unfold own_rd; rw [if_pos hl0, if_neg hl1], N0, e0⟩
  · obtain ⟨fs, hr, hrun, hended, hW, hsame⟩ := X0.leave (v := some (.long (own_R0 w0))) (fun h => by rw [Bd.returns] at h; cases h)
    refine ⟨_, _, pre2 _ ?_, hrun, hended, _, _, rfl, ?_, ⟨_, rfl⟩, hW, hsame.mono (by decide) (by decide)⟩
    · show Steps p.tables e below (s₁.setTop (mkF m 34 #[.val (.ref a1), .val (.int i1), .val (.long (own_R0 w0)), .second, .val (.int (7 : Int32)), .val (.int (i1 + (1 : Int32))), .val (.int w0)] [(.int w0)])) _
      refine XS.ifNo X0.here hx rfl (hb hby own_d3_34) rfl (XT.i0_lt_f hl0) ?_
      show Steps p.tables e below (s₁.setTop (mkF m 37 #[.val (.ref a1), .val (.int i1), .val (.long (own_R0 w0)), .second, .val (.int (7 : Int32)), .val (.int (i1 + (1 : Int32))), .val (.int w0)] [])) _
      refine XT.lloadN X0.here hx rfl (hb hby own_d3_37) rfl ?_
      show Steps p.tables e below (s₁.setTop (mkF m 38 #[.val (.ref a1), .val (.int i1), .val (.long (own_R0 w0)), .second, .val (.int (7 : Int32)), .val (.int (i1 + (1 : Int32))), .val (.int w0)] [(.long (own_R0 w0))])) _
      exact retOut X0 hx (t := .long) Bd.returns rfl (Or.inr (Or.inl ⟨rfl, rfl, _, rfl⟩)) (hb hby own_d3_38) hr
    · show own_Q3 Z a1 i1 kc vs w0 w1 w2 w3 w4 w5 w6 w7 w8 h0 n0 _ s₁.heap _
      exact ⟨by unfold own_rd; rw [if_neg hl0], N0, e0⟩
theorem own_pn0 : plainName "com/example/plainsong/plainsong/PackedTextsReadNumberPinLaw" = true := by first | (simp [plainName, overriddenIn]; done) | decide +kernel
theorem own_ef0 (m : MethodId) (jl : Int64) (jh : Int64) (at0 : Int32) : entryFrame m #[(.long jl), (.long jh), (.int at0)] maxLocals = mkF m 0 #[.val (.long jl), .second, .val (.long jh), .second, .val (.int at0), .unset, .unset, .unset, .unset, .unset, .unset, .unset] [] := by first | (simp [entryFrame, mkF, argsToLocals, Value.category, maxLocals]; done) | rfl
def own_Q0 (Z : State) (jl : Int64) (jh : Int64) (at0 : Int32) (h0 : Heap) (n0 : Nat) (v : Option Value) (h : Heap) (L : List Loc) : Prop := (v = some (.int (1 : Int32))) ∧ (Fr n0 L)
set_option maxRecDepth 65536 in
set_option maxHeartbeats 40000000 in
theorem own_rm0 (l : Launch) (Z : State) (a0 : Array Value) (hw : ∀ d ∈ tables_1, d.before a0 Z = true) (ws : List Jvm.Cond) (jl : Int64) (jh : Int64) (at0 : Int32) (h0 : Heap) (n0 : Nat) (Z0 : n0 ≤ h0.size)  :
    MetFree l x (head1 (Jvm.Cond.code x code maxLocals ret :: ws) room_1) (fun ar_ U_ => ar_ = #[(.long jl), (.long jh), (.int at0)] ∧ Z.Warmed39 U_.vm ∧ U_.heap = h0) (fun _ _ _ _ _ => True) (fun _ U_ o_ U_' => ∃ v_ L_, o_ = .returned v_ ∧ own_Q0 Z jl jh at0 h0 n0 v_ U_'.heap L_ ∧ FrameEnd U_ o_ U_' L_ room_1.cells room_1.slots) := by
  refine MetFree.of_bodySF (plainFor_of_name own_pn0) hisR ?_
  intro p e s m args below meth c s₁ Bd hml0 hP hK
  obtain ⟨rfl, hZ, hh⟩ := hP
  have hx := Bd.exec
  have hby := Bd.bytes
  have hml : c.maxLocals = 12 := hml0
  have hown : s.vm.findClass "com/example/plainsong/plainsong/PackedTextsReadNumberPinLaw" = some m.cls := findClass_of_methodNamed Bd.named
  have hnm := (name_of_methodNamed Bd.named Bd.method).1
  have X0 : Stand p l e room_1 s m #[(.long jl), (.long jh), (.int at0)] below meth c s₁ [] 0 0 := Stand.of_body Bd
  have e0 : s₁.heap = h0 := by rw [← hh, Bd.state]; rfl
  have N0 := Fr.nil n0
  have pre0 : ∀ t, Steps p.tables e below (s₁.setTop (mkF m 0 #[.val (.long jl), .second, .val (.long jh), .second, .val (.int at0), .unset, .unset, .unset, .unset, .unset, .unset, .unset] [])) t → Steps p.tables e below (s₁.setTop (entryFrame m #[(.long jl), (.long jh), (.int at0)] maxLocals)) t := fun t k => castTop (own_ef0 m jl jh at0) k
  obtain ⟨T1, h1, kc1, X1, e1, E1, A1, st1⟩ := newP X0 hx hZ (hw _ (List.mem_of_getElem? (i := 0) rfl)) e0 (g := (mkF m 2 #[.val (.long jl), .second, .val (.long jh), .second, .val (.int at0), .unset, .unset, .unset, .unset, .unset, .unset, .unset] [(.int (12 : Int32))])) rfl (hb hby at_2) rfl (by decide) (cap := 12) (by decide) (by decide) (by decide) (by decide)
  obtain ⟨ob1, g1⟩ : ∃ z, z = h0.size := ⟨_, rfl⟩
  rw [← g1] at A1 st1
  have sz1 : n0 ≤ h1.size := Nat.le_trans Z0 E1.1
  have gn_ob1 : n0 ≤ ob1 := Nat.le_trans Z0 (Nat.le_of_eq g1.symm)
  have bo_ob1 : h0.size ≤ ob1 := Nat.le_trans (Keep.refl h0 []).1 (Nat.le_of_eq g1.symm)
  have K1 : Keep h0 h1 [] := (Keep.refl h0 []).ext E1
  have V_ob1 : Arv Z h1 ob1 kc1 .byte (12 : Int32) [(.int (0 : Int32)), (.int (0 : Int32)), (.int (0 : Int32)), (.int (0 : Int32)), (.int (0 : Int32)), (.int (0 : Int32)), (.int (0 : Int32)), (.int (0 : Int32)), (.int (0 : Int32)), (.int (0 : Int32)), (.int (0 : Int32)), (.int (0 : Int32))] (.int (0 : Int32)) := (Arv.new A1 (by decide)).pad (pad_rep [] (.int (0 : Int32)) 12)
  obtain ⟨cl2, Ar2, Q2, Sz2, Nn2, Ha2, Gf2⟩ := id V_ob1
  have ghin2 : ¬ ((0 : Int32) < 0 ∨ cl2.slots.size ≤ ((0 : Int32)).toNatClampNeg) := inb_of Sz2 ⟨by decide, by decide⟩
  obtain ⟨T3, h3, X3, e3, W3, st3⟩ := stB X1 hx hZ e1 Ar2 (j := (0 : Int32)) ghin2 (g := (mkF m 12 #[.val (.long jl), .second, .val (.long jh), .second, .val (.int at0), .val (.ref ob1), .unset, .unset, .unset, .unset, .unset, .unset] [(.int ((jl.toInt32).toInt8.toInt32)), (.int (0 : Int32)), (.ref ob1)])) rfl rfl (hb hby at_12)
  have V3 : Arv Z h3 ob1 kc1 .byte (12 : Int32) [(.int (((jl.toInt32).toInt8.toInt32).toInt8.toInt32)), (.int (0 : Int32)), (.int (0 : Int32)), (.int (0 : Int32)), (.int (0 : Int32)), (.int (0 : Int32)), (.int (0 : Int32)), (.int (0 : Int32)), (.int (0 : Int32)), (.int (0 : Int32)), (.int (0 : Int32)), (.int (0 : Int32))] (.int (0 : Int32)) := Arv.set Ar2 Q2 Sz2 Nn2 Ha2 Gf2 (fits_nar_byte _) W3 0 rfl (Nat.le_of_ble_eq_true rfl)
  have K3 : Keep h0 h3 [] := K1.wr W3 (Or.inr bo_ob1)
  have N3 := Fr.snoc X3 N0 gn_ob1
  obtain ⟨cl4, Ar4, Q4, Sz4, Nn4, Ha4, Gf4⟩ := id V3
  have ghin4 : ¬ ((1 : Int32) < 0 ∨ cl4.slots.size ≤ ((1 : Int32)).toNatClampNeg) := inb_of Sz4 ⟨by decide, by decide⟩
  obtain ⟨T5, h5, X5, e5, W5, st5⟩ := stB X3 hx hZ e3 Ar4 (j := (1 : Int32)) ghin4 (g := (mkF m 22 #[.val (.long jl), .second, .val (.long jh), .second, .val (.int at0), .val (.ref ob1), .unset, .unset, .unset, .unset, .unset, .unset] [(.int (((XT.ushrL jl (8 : Int32)).toInt32).toInt8.toInt32)), (.int (1 : Int32)), (.ref ob1)])) rfl rfl (hb hby at_22)
  have V5 : Arv Z h5 ob1 kc1 .byte (12 : Int32) [(.int (((jl.toInt32).toInt8.toInt32).toInt8.toInt32)), (.int ((((XT.ushrL jl (8 : Int32)).toInt32).toInt8.toInt32).toInt8.toInt32)), (.int (0 : Int32)), (.int (0 : Int32)), (.int (0 : Int32)), (.int (0 : Int32)), (.int (0 : Int32)), (.int (0 : Int32)), (.int (0 : Int32)), (.int (0 : Int32)), (.int (0 : Int32)), (.int (0 : Int32))] (.int (0 : Int32)) := Arv.set Ar4 Q4 Sz4 Nn4 Ha4 Gf4 (fits_nar_byte _) W5 1 rfl (Nat.le_of_ble_eq_true rfl)
  have K5 : Keep h0 h5 [] := K3.wr W5 (Or.inr bo_ob1)
  have N5 := Fr.snoc X5 N3 gn_ob1
  obtain ⟨cl6, Ar6, Q6, Sz6, Nn6, Ha6, Gf6⟩ := id V5
  have ghin6 : ¬ ((2 : Int32) < 0 ∨ cl6.slots.size ≤ ((2 : Int32)).toNatClampNeg) := inb_of Sz6 ⟨by decide, by decide⟩
  obtain ⟨T7, h7, X7, e7, W7, st7⟩ := stB X5 hx hZ e5 Ar6 (j := (2 : Int32)) ghin6 (g := (mkF m 32 #[.val (.long jl), .second, .val (.long jh), .second, .val (.int at0), .val (.ref ob1), .unset, .unset, .unset, .unset, .unset, .unset] [(.int (((XT.ushrL jl (16 : Int32)).toInt32).toInt8.toInt32)), (.int (2 : Int32)), (.ref ob1)])) rfl rfl (hb hby at_32)
  have V7 : Arv Z h7 ob1 kc1 .byte (12 : Int32) [(.int (((jl.toInt32).toInt8.toInt32).toInt8.toInt32)), (.int ((((XT.ushrL jl (8 : Int32)).toInt32).toInt8.toInt32).toInt8.toInt32)), (.int ((((XT.ushrL jl (16 : Int32)).toInt32).toInt8.toInt32).toInt8.toInt32)), (.int (0 : Int32)), (.int (0 : Int32)), (.int (0 : Int32)), (.int (0 : Int32)), (.int (0 : Int32)), (.int (0 : Int32)), (.int (0 : Int32)), (.int (0 : Int32)), (.int (0 : Int32))] (.int (0 : Int32)) := Arv.set Ar6 Q6 Sz6 Nn6 Ha6 Gf6 (fits_nar_byte _) W7 2 rfl (Nat.le_of_ble_eq_true rfl)
  have K7 : Keep h0 h7 [] := K5.wr W7 (Or.inr bo_ob1)
  have N7 := Fr.snoc X7 N5 gn_ob1
  obtain ⟨cl8, Ar8, Q8, Sz8, Nn8, Ha8, Gf8⟩ := id V7
  have ghin8 : ¬ ((3 : Int32) < 0 ∨ cl8.slots.size ≤ ((3 : Int32)).toNatClampNeg) := inb_of Sz8 ⟨by decide, by decide⟩
  obtain ⟨T9, h9, X9, e9, W9, st9⟩ := stB X7 hx hZ e7 Ar8 (j := (3 : Int32)) ghin8 (g := (mkF m 42 #[.val (.long jl), .second, .val (.long jh), .second, .val (.int at0), .val (.ref ob1), .unset, .unset, .unset, .unset, .unset, .unset] [(.int (((XT.ushrL jl (24 : Int32)).toInt32).toInt8.toInt32)), (.int (3 : Int32)), (.ref ob1)])) rfl rfl (hb hby at_42)
  have V9 : Arv Z h9 ob1 kc1 .byte (12 : Int32) [(.int (((jl.toInt32).toInt8.toInt32).toInt8.toInt32)), (.int ((((XT.ushrL jl (8 : Int32)).toInt32).toInt8.toInt32).toInt8.toInt32)), (.int ((((XT.ushrL jl (16 : Int32)).toInt32).toInt8.toInt32).toInt8.toInt32)), (.int ((((XT.ushrL jl (24 : Int32)).toInt32).toInt8.toInt32).toInt8.toInt32)), (.int (0 : Int32)), (.int (0 : Int32)), (.int (0 : Int32)), (.int (0 : Int32)), (.int (0 : Int32)), (.int (0 : Int32)), (.int (0 : Int32)), (.int (0 : Int32))] (.int (0 : Int32)) := Arv.set Ar8 Q8 Sz8 Nn8 Ha8 Gf8 (fits_nar_byte _) W9 3 rfl (Nat.le_of_ble_eq_true rfl)
  have K9 : Keep h0 h9 [] := K7.wr W9 (Or.inr bo_ob1)
  have N9 := Fr.snoc X9 N7 gn_ob1
  obtain ⟨cl10, Ar10, Q10, Sz10, Nn10, Ha10, Gf10⟩ := id V9
  have ghin10 : ¬ ((4 : Int32) < 0 ∨ cl10.slots.size ≤ ((4 : Int32)).toNatClampNeg) := inb_of Sz10 ⟨by decide, by decide⟩
  obtain ⟨T11, h11, X11, e11, W11, st11⟩ := stB X9 hx hZ e9 Ar10 (j := (4 : Int32)) ghin10 (g := (mkF m 52 #[.val (.long jl), .second, .val (.long jh), .second, .val (.int at0), .val (.ref ob1), .unset, .unset, .unset, .unset, .unset, .unset] [(.int (((XT.ushrL jl (32 : Int32)).toInt32).toInt8.toInt32)), (.int (4 : Int32)), (.ref ob1)])) rfl rfl (hb hby at_52)
  have V11 : Arv Z h11 ob1 kc1 .byte (12 : Int32) [(.int (((jl.toInt32).toInt8.toInt32).toInt8.toInt32)), (.int ((((XT.ushrL jl (8 : Int32)).toInt32).toInt8.toInt32).toInt8.toInt32)), (.int ((((XT.ushrL jl (16 : Int32)).toInt32).toInt8.toInt32).toInt8.toInt32)), (.int ((((XT.ushrL jl (24 : Int32)).toInt32).toInt8.toInt32).toInt8.toInt32)), (.int ((((XT.ushrL jl (32 : Int32)).toInt32).toInt8.toInt32).toInt8.toInt32)), (.int (0 : Int32)), (.int (0 : Int32)), (.int (0 : Int32)), (.int (0 : Int32)), (.int (0 : Int32)), (.int (0 : Int32)), (.int (0 : Int32))] (.int (0 : Int32)) := Arv.set Ar10 Q10 Sz10 Nn10 Ha10 Gf10 (fits_nar_byte _) W11 4 rfl (Nat.le_of_ble_eq_true rfl)
  have K11 : Keep h0 h11 [] := K9.wr W11 (Or.inr bo_ob1)
  have N11 := Fr.snoc X11 N9 gn_ob1
  obtain ⟨cl12, Ar12, Q12, Sz12, Nn12, Ha12, Gf12⟩ := id V11
  have ghin12 : ¬ ((5 : Int32) < 0 ∨ cl12.slots.size ≤ ((5 : Int32)).toNatClampNeg) := inb_of Sz12 ⟨by decide, by decide⟩
  obtain ⟨T13, h13, X13, e13, W13, st13⟩ := stB X11 hx hZ e11 Ar12 (j := (5 : Int32)) ghin12 (g := (mkF m 62 #[.val (.long jl), .second, .val (.long jh), .second, .val (.int at0), .val (.ref ob1), .unset, .unset, .unset, .unset, .unset, .unset] [(.int (((XT.ushrL jl (40 : Int32)).toInt32).toInt8.toInt32)), (.int (5 : Int32)), (.ref ob1)])) rfl rfl (hb hby at_62)
  have V13 : Arv Z h13 ob1 kc1 .byte (12 : Int32) [(.int (((jl.toInt32).toInt8.toInt32).toInt8.toInt32)), (.int ((((XT.ushrL jl (8 : Int32)).toInt32).toInt8.toInt32).toInt8.toInt32)), (.int ((((XT.ushrL jl (16 : Int32)).toInt32).toInt8.toInt32).toInt8.toInt32)), (.int ((((XT.ushrL jl (24 : Int32)).toInt32).toInt8.toInt32).toInt8.toInt32)), (.int ((((XT.ushrL jl (32 : Int32)).toInt32).toInt8.toInt32).toInt8.toInt32)), (.int ((((XT.ushrL jl (40 : Int32)).toInt32).toInt8.toInt32).toInt8.toInt32)), (.int (0 : Int32)), (.int (0 : Int32)), (.int (0 : Int32)), (.int (0 : Int32)), (.int (0 : Int32)), (.int (0 : Int32))] (.int (0 : Int32)) := Arv.set Ar12 Q12 Sz12 Nn12 Ha12 Gf12 (fits_nar_byte _) W13 5 rfl (Nat.le_of_ble_eq_true rfl)
  have K13 : Keep h0 h13 [] := K11.wr W13 (Or.inr bo_ob1)
  have N13 := Fr.snoc X13 N11 gn_ob1
  obtain ⟨cl14, Ar14, Q14, Sz14, Nn14, Ha14, Gf14⟩ := id V13
  have ghin14 : ¬ ((6 : Int32) < 0 ∨ cl14.slots.size ≤ ((6 : Int32)).toNatClampNeg) := inb_of Sz14 ⟨by decide, by decide⟩
  obtain ⟨T15, h15, X15, e15, W15, st15⟩ := stB X13 hx hZ e13 Ar14 (j := (6 : Int32)) ghin14 (g := (mkF m 73 #[.val (.long jl), .second, .val (.long jh), .second, .val (.int at0), .val (.ref ob1), .unset, .unset, .unset, .unset, .unset, .unset] [(.int (((XT.ushrL jl (48 : Int32)).toInt32).toInt8.toInt32)), (.int (6 : Int32)), (.ref ob1)])) rfl rfl (hb hby at_73)
  have V15 : Arv Z h15 ob1 kc1 .byte (12 : Int32) [(.int (((jl.toInt32).toInt8.toInt32).toInt8.toInt32)), (.int ((((XT.ushrL jl (8 : Int32)).toInt32).toInt8.toInt32).toInt8.toInt32)), (.int ((((XT.ushrL jl (16 : Int32)).toInt32).toInt8.toInt32).toInt8.toInt32)), (.int ((((XT.ushrL jl (24 : Int32)).toInt32).toInt8.toInt32).toInt8.toInt32)), (.int ((((XT.ushrL jl (32 : Int32)).toInt32).toInt8.toInt32).toInt8.toInt32)), (.int ((((XT.ushrL jl (40 : Int32)).toInt32).toInt8.toInt32).toInt8.toInt32)), (.int ((((XT.ushrL jl (48 : Int32)).toInt32).toInt8.toInt32).toInt8.toInt32)), (.int (0 : Int32)), (.int (0 : Int32)), (.int (0 : Int32)), (.int (0 : Int32)), (.int (0 : Int32))] (.int (0 : Int32)) := Arv.set Ar14 Q14 Sz14 Nn14 Ha14 Gf14 (fits_nar_byte _) W15 6 rfl (Nat.le_of_ble_eq_true rfl)
  have K15 : Keep h0 h15 [] := K13.wr W15 (Or.inr bo_ob1)
  have N15 := Fr.snoc X15 N13 gn_ob1
  obtain ⟨cl16, Ar16, Q16, Sz16, Nn16, Ha16, Gf16⟩ := id V15
  have ghin16 : ¬ ((7 : Int32) < 0 ∨ cl16.slots.size ≤ ((7 : Int32)).toNatClampNeg) := inb_of Sz16 ⟨by decide, by decide⟩
  obtain ⟨T17, h17, X17, e17, W17, st17⟩ := stB X15 hx hZ e15 Ar16 (j := (7 : Int32)) ghin16 (g := (mkF m 84 #[.val (.long jl), .second, .val (.long jh), .second, .val (.int at0), .val (.ref ob1), .unset, .unset, .unset, .unset, .unset, .unset] [(.int (((XT.ushrL jl (56 : Int32)).toInt32).toInt8.toInt32)), (.int (7 : Int32)), (.ref ob1)])) rfl rfl (hb hby at_84)
  have V17 : Arv Z h17 ob1 kc1 .byte (12 : Int32) [(.int (((jl.toInt32).toInt8.toInt32).toInt8.toInt32)), (.int ((((XT.ushrL jl (8 : Int32)).toInt32).toInt8.toInt32).toInt8.toInt32)), (.int ((((XT.ushrL jl (16 : Int32)).toInt32).toInt8.toInt32).toInt8.toInt32)), (.int ((((XT.ushrL jl (24 : Int32)).toInt32).toInt8.toInt32).toInt8.toInt32)), (.int ((((XT.ushrL jl (32 : Int32)).toInt32).toInt8.toInt32).toInt8.toInt32)), (.int ((((XT.ushrL jl (40 : Int32)).toInt32).toInt8.toInt32).toInt8.toInt32)), (.int ((((XT.ushrL jl (48 : Int32)).toInt32).toInt8.toInt32).toInt8.toInt32)), (.int ((((XT.ushrL jl (56 : Int32)).toInt32).toInt8.toInt32).toInt8.toInt32)), (.int (0 : Int32)), (.int (0 : Int32)), (.int (0 : Int32)), (.int (0 : Int32))] (.int (0 : Int32)) := Arv.set Ar16 Q16 Sz16 Nn16 Ha16 Gf16 (fits_nar_byte _) W17 7 rfl (Nat.le_of_ble_eq_true rfl)
  have K17 : Keep h0 h17 [] := K15.wr W17 (Or.inr bo_ob1)
  have N17 := Fr.snoc X17 N15 gn_ob1
  obtain ⟨cl18, Ar18, Q18, Sz18, Nn18, Ha18, Gf18⟩ := id V17
  have ghin18 : ¬ ((8 : Int32) < 0 ∨ cl18.slots.size ≤ ((8 : Int32)).toNatClampNeg) := inb_of Sz18 ⟨by decide, by decide⟩
  obtain ⟨T19, h19, X19, e19, W19, st19⟩ := stB X17 hx hZ e17 Ar18 (j := (8 : Int32)) ghin18 (g := (mkF m 92 #[.val (.long jl), .second, .val (.long jh), .second, .val (.int at0), .val (.ref ob1), .unset, .unset, .unset, .unset, .unset, .unset] [(.int ((jh.toInt32).toInt8.toInt32)), (.int (8 : Int32)), (.ref ob1)])) rfl rfl (hb hby at_92)
  have V19 : Arv Z h19 ob1 kc1 .byte (12 : Int32) [(.int (((jl.toInt32).toInt8.toInt32).toInt8.toInt32)), (.int ((((XT.ushrL jl (8 : Int32)).toInt32).toInt8.toInt32).toInt8.toInt32)), (.int ((((XT.ushrL jl (16 : Int32)).toInt32).toInt8.toInt32).toInt8.toInt32)), (.int ((((XT.ushrL jl (24 : Int32)).toInt32).toInt8.toInt32).toInt8.toInt32)), (.int ((((XT.ushrL jl (32 : Int32)).toInt32).toInt8.toInt32).toInt8.toInt32)), (.int ((((XT.ushrL jl (40 : Int32)).toInt32).toInt8.toInt32).toInt8.toInt32)), (.int ((((XT.ushrL jl (48 : Int32)).toInt32).toInt8.toInt32).toInt8.toInt32)), (.int ((((XT.ushrL jl (56 : Int32)).toInt32).toInt8.toInt32).toInt8.toInt32)), (.int (((jh.toInt32).toInt8.toInt32).toInt8.toInt32)), (.int (0 : Int32)), (.int (0 : Int32)), (.int (0 : Int32))] (.int (0 : Int32)) := Arv.set Ar18 Q18 Sz18 Nn18 Ha18 Gf18 (fits_nar_byte _) W19 8 rfl (Nat.le_of_ble_eq_true rfl)
  have K19 : Keep h0 h19 [] := K17.wr W19 (Or.inr bo_ob1)
  have N19 := Fr.snoc X19 N17 gn_ob1
  obtain ⟨cl20, Ar20, Q20, Sz20, Nn20, Ha20, Gf20⟩ := id V19
  have ghin20 : ¬ ((9 : Int32) < 0 ∨ cl20.slots.size ≤ ((9 : Int32)).toNatClampNeg) := inb_of Sz20 ⟨by decide, by decide⟩
  obtain ⟨T21, h21, X21, e21, W21, st21⟩ := stB X19 hx hZ e19 Ar20 (j := (9 : Int32)) ghin20 (g := (mkF m 103 #[.val (.long jl), .second, .val (.long jh), .second, .val (.int at0), .val (.ref ob1), .unset, .unset, .unset, .unset, .unset, .unset] [(.int (((XT.ushrL jh (8 : Int32)).toInt32).toInt8.toInt32)), (.int (9 : Int32)), (.ref ob1)])) rfl rfl (hb hby at_103)
  have V21 : Arv Z h21 ob1 kc1 .byte (12 : Int32) [(.int (((jl.toInt32).toInt8.toInt32).toInt8.toInt32)), (.int ((((XT.ushrL jl (8 : Int32)).toInt32).toInt8.toInt32).toInt8.toInt32)), (.int ((((XT.ushrL jl (16 : Int32)).toInt32).toInt8.toInt32).toInt8.toInt32)), (.int ((((XT.ushrL jl (24 : Int32)).toInt32).toInt8.toInt32).toInt8.toInt32)), (.int ((((XT.ushrL jl (32 : Int32)).toInt32).toInt8.toInt32).toInt8.toInt32)), (.int ((((XT.ushrL jl (40 : Int32)).toInt32).toInt8.toInt32).toInt8.toInt32)), (.int ((((XT.ushrL jl (48 : Int32)).toInt32).toInt8.toInt32).toInt8.toInt32)), (.int ((((XT.ushrL jl (56 : Int32)).toInt32).toInt8.toInt32).toInt8.toInt32)), (.int (((jh.toInt32).toInt8.toInt32).toInt8.toInt32)), (.int ((((XT.ushrL jh (8 : Int32)).toInt32).toInt8.toInt32).toInt8.toInt32)), (.int (0 : Int32)), (.int (0 : Int32))] (.int (0 : Int32)) := Arv.set Ar20 Q20 Sz20 Nn20 Ha20 Gf20 (fits_nar_byte _) W21 9 rfl (Nat.le_of_ble_eq_true rfl)
  have K21 : Keep h0 h21 [] := K19.wr W21 (Or.inr bo_ob1)
  have N21 := Fr.snoc X21 N19 gn_ob1
  obtain ⟨cl22, Ar22, Q22, Sz22, Nn22, Ha22, Gf22⟩ := id V21
  have ghin22 : ¬ ((10 : Int32) < 0 ∨ cl22.slots.size ≤ ((10 : Int32)).toNatClampNeg) := inb_of Sz22 ⟨by decide, by decide⟩
  obtain ⟨T23, h23, X23, e23, W23, st23⟩ := stB X21 hx hZ e21 Ar22 (j := (10 : Int32)) ghin22 (g := (mkF m 114 #[.val (.long jl), .second, .val (.long jh), .second, .val (.int at0), .val (.ref ob1), .unset, .unset, .unset, .unset, .unset, .unset] [(.int (((XT.ushrL jh (16 : Int32)).toInt32).toInt8.toInt32)), (.int (10 : Int32)), (.ref ob1)])) rfl rfl (hb hby at_114)
  have V23 : Arv Z h23 ob1 kc1 .byte (12 : Int32) [(.int (((jl.toInt32).toInt8.toInt32).toInt8.toInt32)), (.int ((((XT.ushrL jl (8 : Int32)).toInt32).toInt8.toInt32).toInt8.toInt32)), (.int ((((XT.ushrL jl (16 : Int32)).toInt32).toInt8.toInt32).toInt8.toInt32)), (.int ((((XT.ushrL jl (24 : Int32)).toInt32).toInt8.toInt32).toInt8.toInt32)), (.int ((((XT.ushrL jl (32 : Int32)).toInt32).toInt8.toInt32).toInt8.toInt32)), (.int ((((XT.ushrL jl (40 : Int32)).toInt32).toInt8.toInt32).toInt8.toInt32)), (.int ((((XT.ushrL jl (48 : Int32)).toInt32).toInt8.toInt32).toInt8.toInt32)), (.int ((((XT.ushrL jl (56 : Int32)).toInt32).toInt8.toInt32).toInt8.toInt32)), (.int (((jh.toInt32).toInt8.toInt32).toInt8.toInt32)), (.int ((((XT.ushrL jh (8 : Int32)).toInt32).toInt8.toInt32).toInt8.toInt32)), (.int ((((XT.ushrL jh (16 : Int32)).toInt32).toInt8.toInt32).toInt8.toInt32)), (.int (0 : Int32))] (.int (0 : Int32)) := Arv.set Ar22 Q22 Sz22 Nn22 Ha22 Gf22 (fits_nar_byte _) W23 10 rfl (Nat.le_of_ble_eq_true rfl)
  have K23 : Keep h0 h23 [] := K21.wr W23 (Or.inr bo_ob1)
  have N23 := Fr.snoc X23 N21 gn_ob1
  obtain ⟨cl24, Ar24, Q24, Sz24, Nn24, Ha24, Gf24⟩ := id V23
  have ghin24 : ¬ ((11 : Int32) < 0 ∨ cl24.slots.size ≤ ((11 : Int32)).toNatClampNeg) := inb_of Sz24 ⟨by decide, by decide⟩
  obtain ⟨T25, h25, X25, e25, W25, st25⟩ := stB X23 hx hZ e23 Ar24 (j := (11 : Int32)) ghin24 (g := (mkF m 125 #[.val (.long jl), .second, .val (.long jh), .second, .val (.int at0), .val (.ref ob1), .unset, .unset, .unset, .unset, .unset, .unset] [(.int (((XT.ushrL jh (24 : Int32)).toInt32).toInt8.toInt32)), (.int (11 : Int32)), (.ref ob1)])) rfl rfl (hb hby at_125)
  have V25 : Arv Z h25 ob1 kc1 .byte (12 : Int32) [(.int (((jl.toInt32).toInt8.toInt32).toInt8.toInt32)), (.int ((((XT.ushrL jl (8 : Int32)).toInt32).toInt8.toInt32).toInt8.toInt32)), (.int ((((XT.ushrL jl (16 : Int32)).toInt32).toInt8.toInt32).toInt8.toInt32)), (.int ((((XT.ushrL jl (24 : Int32)).toInt32).toInt8.toInt32).toInt8.toInt32)), (.int ((((XT.ushrL jl (32 : Int32)).toInt32).toInt8.toInt32).toInt8.toInt32)), (.int ((((XT.ushrL jl (40 : Int32)).toInt32).toInt8.toInt32).toInt8.toInt32)), (.int ((((XT.ushrL jl (48 : Int32)).toInt32).toInt8.toInt32).toInt8.toInt32)), (.int ((((XT.ushrL jl (56 : Int32)).toInt32).toInt8.toInt32).toInt8.toInt32)), (.int (((jh.toInt32).toInt8.toInt32).toInt8.toInt32)), (.int ((((XT.ushrL jh (8 : Int32)).toInt32).toInt8.toInt32).toInt8.toInt32)), (.int ((((XT.ushrL jh (16 : Int32)).toInt32).toInt8.toInt32).toInt8.toInt32)), (.int ((((XT.ushrL jh (24 : Int32)).toInt32).toInt8.toInt32).toInt8.toInt32))] (.int (0 : Int32)) := Arv.set Ar24 Q24 Sz24 Nn24 Ha24 Gf24 (fits_nar_byte _) W25 11 rfl (Nat.le_of_ble_eq_true rfl)
  have K25 : Keep h0 h25 [] := K23.wr W25 (Or.inr bo_ob1)
  have N25 := Fr.snoc X25 N23 gn_ob1
  have pre26 : ∀ t, Steps p.tables e below (T25.setTop (mkF m 132 #[.val (.long jl), .second, .val (.long jh), .second, .val (.int at0), .val (.ref ob1), .val (.int (at0 &&& (3 : Int32))), .unset, .unset, .unset, .unset, .unset] [])) t → Steps p.tables e below (s₁.setTop (entryFrame m #[(.long jl), (.long jh), (.int at0)] maxLocals)) t := fun t k => pre0 t (by
    show Steps p.tables e below (s₁.setTop (mkF m 0 #[.val (.long jl), .second, .val (.long jh), .second, .val (.int at0), .unset, .unset, .unset, .unset, .unset, .unset, .unset] [])) _
    refine XT.bipushV X0.here hx rfl (12 : Int32) (hb hby at_0) rfl ?_
    show Steps p.tables e below (s₁.setTop (mkF m 2 #[.val (.long jl), .second, .val (.long jh), .second, .val (.int at0), .unset, .unset, .unset, .unset, .unset, .unset, .unset] [(.int (12 : Int32))])) _
    refine st1 _ ?_
    show Steps p.tables e below (T1.setTop (mkF m 4 #[.val (.long jl), .second, .val (.long jh), .second, .val (.int at0), .unset, .unset, .unset, .unset, .unset, .unset, .unset] [(.ref ob1)])) _
    refine XS.astore X1.here hx rfl (hb hby at_4) rfl rfl (l' := #[.val (.long jl), .second, .val (.long jh), .second, .val (.int at0), .val (.ref ob1), .unset, .unset, .unset, .unset, .unset, .unset]) rfl ?_
    show Steps p.tables e below (T1.setTop (mkF m 6 #[.val (.long jl), .second, .val (.long jh), .second, .val (.int at0), .val (.ref ob1), .unset, .unset, .unset, .unset, .unset, .unset] [])) _
    refine XS.aload X1.here hx rfl (hb hby at_6) rfl rfl ?_
    show Steps p.tables e below (T1.setTop (mkF m 8 #[.val (.long jl), .second, .val (.long jh), .second, .val (.int at0), .val (.ref ob1), .unset, .unset, .unset, .unset, .unset, .unset] [(.ref ob1)])) _
    refine XT.iconstV X1.here hx rfl (0 : Int32) (hb hby at_8) rfl ?_
    show Steps p.tables e below (T1.setTop (mkF m 9 #[.val (.long jl), .second, .val (.long jh), .second, .val (.int at0), .val (.ref ob1), .unset, .unset, .unset, .unset, .unset, .unset] [(.int (0 : Int32)), (.ref ob1)])) _
    refine XT.lloadN X1.here hx rfl (hb hby at_9) rfl ?_
    show Steps p.tables e below (T1.setTop (mkF m 10 #[.val (.long jl), .second, .val (.long jh), .second, .val (.int at0), .val (.ref ob1), .unset, .unset, .unset, .unset, .unset, .unset] [(.long jl), (.int (0 : Int32)), (.ref ob1)])) _
    refine XT.l2i X1.here hx rfl (hb hby at_10) rfl ?_
    show Steps p.tables e below (T1.setTop (mkF m 11 #[.val (.long jl), .second, .val (.long jh), .second, .val (.int at0), .val (.ref ob1), .unset, .unset, .unset, .unset, .unset, .unset] [(.int (jl.toInt32)), (.int (0 : Int32)), (.ref ob1)])) _
    refine XT.i2b X1.here hx rfl (hb hby at_11) rfl ?_
    show Steps p.tables e below (T1.setTop (mkF m 12 #[.val (.long jl), .second, .val (.long jh), .second, .val (.int at0), .val (.ref ob1), .unset, .unset, .unset, .unset, .unset, .unset] [(.int ((jl.toInt32).toInt8.toInt32)), (.int (0 : Int32)), (.ref ob1)])) _
    refine st3 _ ?_
    show Steps p.tables e below (T3.setTop (mkF m 13 #[.val (.long jl), .second, .val (.long jh), .second, .val (.int at0), .val (.ref ob1), .unset, .unset, .unset, .unset, .unset, .unset] [])) _
    refine XS.aload X3.here hx rfl (hb hby at_13) rfl rfl ?_
    show Steps p.tables e below (T3.setTop (mkF m 15 #[.val (.long jl), .second, .val (.long jh), .second, .val (.int at0), .val (.ref ob1), .unset, .unset, .unset, .unset, .unset, .unset] [(.ref ob1)])) _
    refine XT.iconstV X3.here hx rfl (1 : Int32) (hb hby at_15) rfl ?_
    show Steps p.tables e below (T3.setTop (mkF m 16 #[.val (.long jl), .second, .val (.long jh), .second, .val (.int at0), .val (.ref ob1), .unset, .unset, .unset, .unset, .unset, .unset] [(.int (1 : Int32)), (.ref ob1)])) _
    refine XT.lloadN X3.here hx rfl (hb hby at_16) rfl ?_
    show Steps p.tables e below (T3.setTop (mkF m 17 #[.val (.long jl), .second, .val (.long jh), .second, .val (.int at0), .val (.ref ob1), .unset, .unset, .unset, .unset, .unset, .unset] [(.long jl), (.int (1 : Int32)), (.ref ob1)])) _
    refine XT.bipushV X3.here hx rfl (8 : Int32) (hb hby at_17) rfl ?_
    show Steps p.tables e below (T3.setTop (mkF m 19 #[.val (.long jl), .second, .val (.long jh), .second, .val (.int at0), .val (.ref ob1), .unset, .unset, .unset, .unset, .unset, .unset] [(.int (8 : Int32)), (.long jl), (.int (1 : Int32)), (.ref ob1)])) _
    refine XT.lushr X3.here hx rfl (hb hby at_19) rfl ?_
    show Steps p.tables e below (T3.setTop (mkF m 20 #[.val (.long jl), .second, .val (.long jh), .second, .val (.int at0), .val (.ref ob1), .unset, .unset, .unset, .unset, .unset, .unset] [(.long (XT.ushrL jl (8 : Int32))), (.int (1 : Int32)), (.ref ob1)])) _
    refine XT.l2i X3.here hx rfl (hb hby at_20) rfl ?_
    show Steps p.tables e below (T3.setTop (mkF m 21 #[.val (.long jl), .second, .val (.long jh), .second, .val (.int at0), .val (.ref ob1), .unset, .unset, .unset, .unset, .unset, .unset] [(.int ((XT.ushrL jl (8 : Int32)).toInt32)), (.int (1 : Int32)), (.ref ob1)])) _
    refine XT.i2b X3.here hx rfl (hb hby at_21) rfl ?_
    show Steps p.tables e below (T3.setTop (mkF m 22 #[.val (.long jl), .second, .val (.long jh), .second, .val (.int at0), .val (.ref ob1), .unset, .unset, .unset, .unset, .unset, .unset] [(.int (((XT.ushrL jl (8 : Int32)).toInt32).toInt8.toInt32)), (.int (1 : Int32)), (.ref ob1)])) _
    refine st5 _ ?_
    show Steps p.tables e below (T5.setTop (mkF m 23 #[.val (.long jl), .second, .val (.long jh), .second, .val (.int at0), .val (.ref ob1), .unset, .unset, .unset, .unset, .unset, .unset] [])) _
    refine XS.aload X5.here hx rfl (hb hby at_23) rfl rfl ?_
    show Steps p.tables e below (T5.setTop (mkF m 25 #[.val (.long jl), .second, .val (.long jh), .second, .val (.int at0), .val (.ref ob1), .unset, .unset, .unset, .unset, .unset, .unset] [(.ref ob1)])) _
    refine XT.iconstV X5.here hx rfl (2 : Int32) (hb hby at_25) rfl ?_
    show Steps p.tables e below (T5.setTop (mkF m 26 #[.val (.long jl), .second, .val (.long jh), .second, .val (.int at0), .val (.ref ob1), .unset, .unset, .unset, .unset, .unset, .unset] [(.int (2 : Int32)), (.ref ob1)])) _
    refine XT.lloadN X5.here hx rfl (hb hby at_26) rfl ?_
    show Steps p.tables e below (T5.setTop (mkF m 27 #[.val (.long jl), .second, .val (.long jh), .second, .val (.int at0), .val (.ref ob1), .unset, .unset, .unset, .unset, .unset, .unset] [(.long jl), (.int (2 : Int32)), (.ref ob1)])) _
    refine XT.bipushV X5.here hx rfl (16 : Int32) (hb hby at_27) rfl ?_
    show Steps p.tables e below (T5.setTop (mkF m 29 #[.val (.long jl), .second, .val (.long jh), .second, .val (.int at0), .val (.ref ob1), .unset, .unset, .unset, .unset, .unset, .unset] [(.int (16 : Int32)), (.long jl), (.int (2 : Int32)), (.ref ob1)])) _
    refine XT.lushr X5.here hx rfl (hb hby at_29) rfl ?_
    show Steps p.tables e below (T5.setTop (mkF m 30 #[.val (.long jl), .second, .val (.long jh), .second, .val (.int at0), .val (.ref ob1), .unset, .unset, .unset, .unset, .unset, .unset] [(.long (XT.ushrL jl (16 : Int32))), (.int (2 : Int32)), (.ref ob1)])) _
    refine XT.l2i X5.here hx rfl (hb hby at_30) rfl ?_
    show Steps p.tables e below (T5.setTop (mkF m 31 #[.val (.long jl), .second, .val (.long jh), .second, .val (.int at0), .val (.ref ob1), .unset, .unset, .unset, .unset, .unset, .unset] [(.int ((XT.ushrL jl (16 : Int32)).toInt32)), (.int (2 : Int32)), (.ref ob1)])) _
    refine XT.i2b X5.here hx rfl (hb hby at_31) rfl ?_
    show Steps p.tables e below (T5.setTop (mkF m 32 #[.val (.long jl), .second, .val (.long jh), .second, .val (.int at0), .val (.ref ob1), .unset, .unset, .unset, .unset, .unset, .unset] [(.int (((XT.ushrL jl (16 : Int32)).toInt32).toInt8.toInt32)), (.int (2 : Int32)), (.ref ob1)])) _
    refine st7 _ ?_
    show Steps p.tables e below (T7.setTop (mkF m 33 #[.val (.long jl), .second, .val (.long jh), .second, .val (.int at0), .val (.ref ob1), .unset, .unset, .unset, .unset, .unset, .unset] [])) _
    refine XS.aload X7.here hx rfl (hb hby at_33) rfl rfl ?_
    show Steps p.tables e below (T7.setTop (mkF m 35 #[.val (.long jl), .second, .val (.long jh), .second, .val (.int at0), .val (.ref ob1), .unset, .unset, .unset, .unset, .unset, .unset] [(.ref ob1)])) _
    refine XT.iconstV X7.here hx rfl (3 : Int32) (hb hby at_35) rfl ?_
    show Steps p.tables e below (T7.setTop (mkF m 36 #[.val (.long jl), .second, .val (.long jh), .second, .val (.int at0), .val (.ref ob1), .unset, .unset, .unset, .unset, .unset, .unset] [(.int (3 : Int32)), (.ref ob1)])) _
    refine XT.lloadN X7.here hx rfl (hb hby at_36) rfl ?_
    show Steps p.tables e below (T7.setTop (mkF m 37 #[.val (.long jl), .second, .val (.long jh), .second, .val (.int at0), .val (.ref ob1), .unset, .unset, .unset, .unset, .unset, .unset] [(.long jl), (.int (3 : Int32)), (.ref ob1)])) _
    refine XT.bipushV X7.here hx rfl (24 : Int32) (hb hby at_37) rfl ?_
    show Steps p.tables e below (T7.setTop (mkF m 39 #[.val (.long jl), .second, .val (.long jh), .second, .val (.int at0), .val (.ref ob1), .unset, .unset, .unset, .unset, .unset, .unset] [(.int (24 : Int32)), (.long jl), (.int (3 : Int32)), (.ref ob1)])) _
    refine XT.lushr X7.here hx rfl (hb hby at_39) rfl ?_
    show Steps p.tables e below (T7.setTop (mkF m 40 #[.val (.long jl), .second, .val (.long jh), .second, .val (.int at0), .val (.ref ob1), .unset, .unset, .unset, .unset, .unset, .unset] [(.long (XT.ushrL jl (24 : Int32))), (.int (3 : Int32)), (.ref ob1)])) _
    refine XT.l2i X7.here hx rfl (hb hby at_40) rfl ?_
    show Steps p.tables e below (T7.setTop (mkF m 41 #[.val (.long jl), .second, .val (.long jh), .second, .val (.int at0), .val (.ref ob1), .unset, .unset, .unset, .unset, .unset, .unset] [(.int ((XT.ushrL jl (24 : Int32)).toInt32)), (.int (3 : Int32)), (.ref ob1)])) _
    refine XT.i2b X7.here hx rfl (hb hby at_41) rfl ?_
    show Steps p.tables e below (T7.setTop (mkF m 42 #[.val (.long jl), .second, .val (.long jh), .second, .val (.int at0), .val (.ref ob1), .unset, .unset, .unset, .unset, .unset, .unset] [(.int (((XT.ushrL jl (24 : Int32)).toInt32).toInt8.toInt32)), (.int (3 : Int32)), (.ref ob1)])) _
    refine st9 _ ?_
    show Steps p.tables e below (T9.setTop (mkF m 43 #[.val (.long jl), .second, .val (.long jh), .second, .val (.int at0), .val (.ref ob1), .unset, .unset, .unset, .unset, .unset, .unset] [])) _
    refine XS.aload X9.here hx rfl (hb hby at_43) rfl rfl ?_
    show Steps p.tables e below (T9.setTop (mkF m 45 #[.val (.long jl), .second, .val (.long jh), .second, .val (.int at0), .val (.ref ob1), .unset, .unset, .unset, .unset, .unset, .unset] [(.ref ob1)])) _
    refine XT.iconstV X9.here hx rfl (4 : Int32) (hb hby at_45) rfl ?_
    show Steps p.tables e below (T9.setTop (mkF m 46 #[.val (.long jl), .second, .val (.long jh), .second, .val (.int at0), .val (.ref ob1), .unset, .unset, .unset, .unset, .unset, .unset] [(.int (4 : Int32)), (.ref ob1)])) _
    refine XT.lloadN X9.here hx rfl (hb hby at_46) rfl ?_
    show Steps p.tables e below (T9.setTop (mkF m 47 #[.val (.long jl), .second, .val (.long jh), .second, .val (.int at0), .val (.ref ob1), .unset, .unset, .unset, .unset, .unset, .unset] [(.long jl), (.int (4 : Int32)), (.ref ob1)])) _
    refine XT.bipushV X9.here hx rfl (32 : Int32) (hb hby at_47) rfl ?_
    show Steps p.tables e below (T9.setTop (mkF m 49 #[.val (.long jl), .second, .val (.long jh), .second, .val (.int at0), .val (.ref ob1), .unset, .unset, .unset, .unset, .unset, .unset] [(.int (32 : Int32)), (.long jl), (.int (4 : Int32)), (.ref ob1)])) _
    refine XT.lushr X9.here hx rfl (hb hby at_49) rfl ?_
    show Steps p.tables e below (T9.setTop (mkF m 50 #[.val (.long jl), .second, .val (.long jh), .second, .val (.int at0), .val (.ref ob1), .unset, .unset, .unset, .unset, .unset, .unset] [(.long (XT.ushrL jl (32 : Int32))), (.int (4 : Int32)), (.ref ob1)])) _
    refine XT.l2i X9.here hx rfl (hb hby at_50) rfl ?_
    show Steps p.tables e below (T9.setTop (mkF m 51 #[.val (.long jl), .second, .val (.long jh), .second, .val (.int at0), .val (.ref ob1), .unset, .unset, .unset, .unset, .unset, .unset] [(.int ((XT.ushrL jl (32 : Int32)).toInt32)), (.int (4 : Int32)), (.ref ob1)])) _
    refine XT.i2b X9.here hx rfl (hb hby at_51) rfl ?_
    show Steps p.tables e below (T9.setTop (mkF m 52 #[.val (.long jl), .second, .val (.long jh), .second, .val (.int at0), .val (.ref ob1), .unset, .unset, .unset, .unset, .unset, .unset] [(.int (((XT.ushrL jl (32 : Int32)).toInt32).toInt8.toInt32)), (.int (4 : Int32)), (.ref ob1)])) _
    refine st11 _ ?_
    show Steps p.tables e below (T11.setTop (mkF m 53 #[.val (.long jl), .second, .val (.long jh), .second, .val (.int at0), .val (.ref ob1), .unset, .unset, .unset, .unset, .unset, .unset] [])) _
    refine XS.aload X11.here hx rfl (hb hby at_53) rfl rfl ?_
    show Steps p.tables e below (T11.setTop (mkF m 55 #[.val (.long jl), .second, .val (.long jh), .second, .val (.int at0), .val (.ref ob1), .unset, .unset, .unset, .unset, .unset, .unset] [(.ref ob1)])) _
    refine XT.iconstV X11.here hx rfl (5 : Int32) (hb hby at_55) rfl ?_
    show Steps p.tables e below (T11.setTop (mkF m 56 #[.val (.long jl), .second, .val (.long jh), .second, .val (.int at0), .val (.ref ob1), .unset, .unset, .unset, .unset, .unset, .unset] [(.int (5 : Int32)), (.ref ob1)])) _
    refine XT.lloadN X11.here hx rfl (hb hby at_56) rfl ?_
    show Steps p.tables e below (T11.setTop (mkF m 57 #[.val (.long jl), .second, .val (.long jh), .second, .val (.int at0), .val (.ref ob1), .unset, .unset, .unset, .unset, .unset, .unset] [(.long jl), (.int (5 : Int32)), (.ref ob1)])) _
    refine XT.bipushV X11.here hx rfl (40 : Int32) (hb hby at_57) rfl ?_
    show Steps p.tables e below (T11.setTop (mkF m 59 #[.val (.long jl), .second, .val (.long jh), .second, .val (.int at0), .val (.ref ob1), .unset, .unset, .unset, .unset, .unset, .unset] [(.int (40 : Int32)), (.long jl), (.int (5 : Int32)), (.ref ob1)])) _
    refine XT.lushr X11.here hx rfl (hb hby at_59) rfl ?_
    show Steps p.tables e below (T11.setTop (mkF m 60 #[.val (.long jl), .second, .val (.long jh), .second, .val (.int at0), .val (.ref ob1), .unset, .unset, .unset, .unset, .unset, .unset] [(.long (XT.ushrL jl (40 : Int32))), (.int (5 : Int32)), (.ref ob1)])) _
    refine XT.l2i X11.here hx rfl (hb hby at_60) rfl ?_
    show Steps p.tables e below (T11.setTop (mkF m 61 #[.val (.long jl), .second, .val (.long jh), .second, .val (.int at0), .val (.ref ob1), .unset, .unset, .unset, .unset, .unset, .unset] [(.int ((XT.ushrL jl (40 : Int32)).toInt32)), (.int (5 : Int32)), (.ref ob1)])) _
    refine XT.i2b X11.here hx rfl (hb hby at_61) rfl ?_
    show Steps p.tables e below (T11.setTop (mkF m 62 #[.val (.long jl), .second, .val (.long jh), .second, .val (.int at0), .val (.ref ob1), .unset, .unset, .unset, .unset, .unset, .unset] [(.int (((XT.ushrL jl (40 : Int32)).toInt32).toInt8.toInt32)), (.int (5 : Int32)), (.ref ob1)])) _
    refine st13 _ ?_
    show Steps p.tables e below (T13.setTop (mkF m 63 #[.val (.long jl), .second, .val (.long jh), .second, .val (.int at0), .val (.ref ob1), .unset, .unset, .unset, .unset, .unset, .unset] [])) _
    refine XS.aload X13.here hx rfl (hb hby at_63) rfl rfl ?_
    show Steps p.tables e below (T13.setTop (mkF m 65 #[.val (.long jl), .second, .val (.long jh), .second, .val (.int at0), .val (.ref ob1), .unset, .unset, .unset, .unset, .unset, .unset] [(.ref ob1)])) _
    refine XT.bipushV X13.here hx rfl (6 : Int32) (hb hby at_65) rfl ?_
    show Steps p.tables e below (T13.setTop (mkF m 67 #[.val (.long jl), .second, .val (.long jh), .second, .val (.int at0), .val (.ref ob1), .unset, .unset, .unset, .unset, .unset, .unset] [(.int (6 : Int32)), (.ref ob1)])) _
    refine XT.lloadN X13.here hx rfl (hb hby at_67) rfl ?_
    show Steps p.tables e below (T13.setTop (mkF m 68 #[.val (.long jl), .second, .val (.long jh), .second, .val (.int at0), .val (.ref ob1), .unset, .unset, .unset, .unset, .unset, .unset] [(.long jl), (.int (6 : Int32)), (.ref ob1)])) _
    refine XT.bipushV X13.here hx rfl (48 : Int32) (hb hby at_68) rfl ?_
    show Steps p.tables e below (T13.setTop (mkF m 70 #[.val (.long jl), .second, .val (.long jh), .second, .val (.int at0), .val (.ref ob1), .unset, .unset, .unset, .unset, .unset, .unset] [(.int (48 : Int32)), (.long jl), (.int (6 : Int32)), (.ref ob1)])) _
    refine XT.lushr X13.here hx rfl (hb hby at_70) rfl ?_
    show Steps p.tables e below (T13.setTop (mkF m 71 #[.val (.long jl), .second, .val (.long jh), .second, .val (.int at0), .val (.ref ob1), .unset, .unset, .unset, .unset, .unset, .unset] [(.long (XT.ushrL jl (48 : Int32))), (.int (6 : Int32)), (.ref ob1)])) _
    refine XT.l2i X13.here hx rfl (hb hby at_71) rfl ?_
    show Steps p.tables e below (T13.setTop (mkF m 72 #[.val (.long jl), .second, .val (.long jh), .second, .val (.int at0), .val (.ref ob1), .unset, .unset, .unset, .unset, .unset, .unset] [(.int ((XT.ushrL jl (48 : Int32)).toInt32)), (.int (6 : Int32)), (.ref ob1)])) _
    refine XT.i2b X13.here hx rfl (hb hby at_72) rfl ?_
    show Steps p.tables e below (T13.setTop (mkF m 73 #[.val (.long jl), .second, .val (.long jh), .second, .val (.int at0), .val (.ref ob1), .unset, .unset, .unset, .unset, .unset, .unset] [(.int (((XT.ushrL jl (48 : Int32)).toInt32).toInt8.toInt32)), (.int (6 : Int32)), (.ref ob1)])) _
    refine st15 _ ?_
    show Steps p.tables e below (T15.setTop (mkF m 74 #[.val (.long jl), .second, .val (.long jh), .second, .val (.int at0), .val (.ref ob1), .unset, .unset, .unset, .unset, .unset, .unset] [])) _
    refine XS.aload X15.here hx rfl (hb hby at_74) rfl rfl ?_
    show Steps p.tables e below (T15.setTop (mkF m 76 #[.val (.long jl), .second, .val (.long jh), .second, .val (.int at0), .val (.ref ob1), .unset, .unset, .unset, .unset, .unset, .unset] [(.ref ob1)])) _
    refine XT.bipushV X15.here hx rfl (7 : Int32) (hb hby at_76) rfl ?_
    show Steps p.tables e below (T15.setTop (mkF m 78 #[.val (.long jl), .second, .val (.long jh), .second, .val (.int at0), .val (.ref ob1), .unset, .unset, .unset, .unset, .unset, .unset] [(.int (7 : Int32)), (.ref ob1)])) _
    refine XT.lloadN X15.here hx rfl (hb hby at_78) rfl ?_
    show Steps p.tables e below (T15.setTop (mkF m 79 #[.val (.long jl), .second, .val (.long jh), .second, .val (.int at0), .val (.ref ob1), .unset, .unset, .unset, .unset, .unset, .unset] [(.long jl), (.int (7 : Int32)), (.ref ob1)])) _
    refine XT.bipushV X15.here hx rfl (56 : Int32) (hb hby at_79) rfl ?_
    show Steps p.tables e below (T15.setTop (mkF m 81 #[.val (.long jl), .second, .val (.long jh), .second, .val (.int at0), .val (.ref ob1), .unset, .unset, .unset, .unset, .unset, .unset] [(.int (56 : Int32)), (.long jl), (.int (7 : Int32)), (.ref ob1)])) _
    refine XT.lushr X15.here hx rfl (hb hby at_81) rfl ?_
    show Steps p.tables e below (T15.setTop (mkF m 82 #[.val (.long jl), .second, .val (.long jh), .second, .val (.int at0), .val (.ref ob1), .unset, .unset, .unset, .unset, .unset, .unset] [(.long (XT.ushrL jl (56 : Int32))), (.int (7 : Int32)), (.ref ob1)])) _
    refine XT.l2i X15.here hx rfl (hb hby at_82) rfl ?_
    show Steps p.tables e below (T15.setTop (mkF m 83 #[.val (.long jl), .second, .val (.long jh), .second, .val (.int at0), .val (.ref ob1), .unset, .unset, .unset, .unset, .unset, .unset] [(.int ((XT.ushrL jl (56 : Int32)).toInt32)), (.int (7 : Int32)), (.ref ob1)])) _
    refine XT.i2b X15.here hx rfl (hb hby at_83) rfl ?_
    show Steps p.tables e below (T15.setTop (mkF m 84 #[.val (.long jl), .second, .val (.long jh), .second, .val (.int at0), .val (.ref ob1), .unset, .unset, .unset, .unset, .unset, .unset] [(.int (((XT.ushrL jl (56 : Int32)).toInt32).toInt8.toInt32)), (.int (7 : Int32)), (.ref ob1)])) _
    refine st17 _ ?_
    show Steps p.tables e below (T17.setTop (mkF m 85 #[.val (.long jl), .second, .val (.long jh), .second, .val (.int at0), .val (.ref ob1), .unset, .unset, .unset, .unset, .unset, .unset] [])) _
    refine XS.aload X17.here hx rfl (hb hby at_85) rfl rfl ?_
    show Steps p.tables e below (T17.setTop (mkF m 87 #[.val (.long jl), .second, .val (.long jh), .second, .val (.int at0), .val (.ref ob1), .unset, .unset, .unset, .unset, .unset, .unset] [(.ref ob1)])) _
    refine XT.bipushV X17.here hx rfl (8 : Int32) (hb hby at_87) rfl ?_
    show Steps p.tables e below (T17.setTop (mkF m 89 #[.val (.long jl), .second, .val (.long jh), .second, .val (.int at0), .val (.ref ob1), .unset, .unset, .unset, .unset, .unset, .unset] [(.int (8 : Int32)), (.ref ob1)])) _
    refine XT.lloadN X17.here hx rfl (hb hby at_89) rfl ?_
    show Steps p.tables e below (T17.setTop (mkF m 90 #[.val (.long jl), .second, .val (.long jh), .second, .val (.int at0), .val (.ref ob1), .unset, .unset, .unset, .unset, .unset, .unset] [(.long jh), (.int (8 : Int32)), (.ref ob1)])) _
    refine XT.l2i X17.here hx rfl (hb hby at_90) rfl ?_
    show Steps p.tables e below (T17.setTop (mkF m 91 #[.val (.long jl), .second, .val (.long jh), .second, .val (.int at0), .val (.ref ob1), .unset, .unset, .unset, .unset, .unset, .unset] [(.int (jh.toInt32)), (.int (8 : Int32)), (.ref ob1)])) _
    refine XT.i2b X17.here hx rfl (hb hby at_91) rfl ?_
    show Steps p.tables e below (T17.setTop (mkF m 92 #[.val (.long jl), .second, .val (.long jh), .second, .val (.int at0), .val (.ref ob1), .unset, .unset, .unset, .unset, .unset, .unset] [(.int ((jh.toInt32).toInt8.toInt32)), (.int (8 : Int32)), (.ref ob1)])) _
    refine st19 _ ?_
    show Steps p.tables e below (T19.setTop (mkF m 93 #[.val (.long jl), .second, .val (.long jh), .second, .val (.int at0), .val (.ref ob1), .unset, .unset, .unset, .unset, .unset, .unset] [])) _
    refine XS.aload X19.here hx rfl (hb hby at_93) rfl rfl ?_
    show Steps p.tables e below (T19.setTop (mkF m 95 #[.val (.long jl), .second, .val (.long jh), .second, .val (.int at0), .val (.ref ob1), .unset, .unset, .unset, .unset, .unset, .unset] [(.ref ob1)])) _
    refine XT.bipushV X19.here hx rfl (9 : Int32) (hb hby at_95) rfl ?_
    show Steps p.tables e below (T19.setTop (mkF m 97 #[.val (.long jl), .second, .val (.long jh), .second, .val (.int at0), .val (.ref ob1), .unset, .unset, .unset, .unset, .unset, .unset] [(.int (9 : Int32)), (.ref ob1)])) _
    refine XT.lloadN X19.here hx rfl (hb hby at_97) rfl ?_
    show Steps p.tables e below (T19.setTop (mkF m 98 #[.val (.long jl), .second, .val (.long jh), .second, .val (.int at0), .val (.ref ob1), .unset, .unset, .unset, .unset, .unset, .unset] [(.long jh), (.int (9 : Int32)), (.ref ob1)])) _
    refine XT.bipushV X19.here hx rfl (8 : Int32) (hb hby at_98) rfl ?_
    show Steps p.tables e below (T19.setTop (mkF m 100 #[.val (.long jl), .second, .val (.long jh), .second, .val (.int at0), .val (.ref ob1), .unset, .unset, .unset, .unset, .unset, .unset] [(.int (8 : Int32)), (.long jh), (.int (9 : Int32)), (.ref ob1)])) _
    refine XT.lushr X19.here hx rfl (hb hby at_100) rfl ?_
    show Steps p.tables e below (T19.setTop (mkF m 101 #[.val (.long jl), .second, .val (.long jh), .second, .val (.int at0), .val (.ref ob1), .unset, .unset, .unset, .unset, .unset, .unset] [(.long (XT.ushrL jh (8 : Int32))), (.int (9 : Int32)), (.ref ob1)])) _
    refine XT.l2i X19.here hx rfl (hb hby at_101) rfl ?_
    show Steps p.tables e below (T19.setTop (mkF m 102 #[.val (.long jl), .second, .val (.long jh), .second, .val (.int at0), .val (.ref ob1), .unset, .unset, .unset, .unset, .unset, .unset] [(.int ((XT.ushrL jh (8 : Int32)).toInt32)), (.int (9 : Int32)), (.ref ob1)])) _
    refine XT.i2b X19.here hx rfl (hb hby at_102) rfl ?_
    show Steps p.tables e below (T19.setTop (mkF m 103 #[.val (.long jl), .second, .val (.long jh), .second, .val (.int at0), .val (.ref ob1), .unset, .unset, .unset, .unset, .unset, .unset] [(.int (((XT.ushrL jh (8 : Int32)).toInt32).toInt8.toInt32)), (.int (9 : Int32)), (.ref ob1)])) _
    refine st21 _ ?_
    show Steps p.tables e below (T21.setTop (mkF m 104 #[.val (.long jl), .second, .val (.long jh), .second, .val (.int at0), .val (.ref ob1), .unset, .unset, .unset, .unset, .unset, .unset] [])) _
    refine XS.aload X21.here hx rfl (hb hby at_104) rfl rfl ?_
    show Steps p.tables e below (T21.setTop (mkF m 106 #[.val (.long jl), .second, .val (.long jh), .second, .val (.int at0), .val (.ref ob1), .unset, .unset, .unset, .unset, .unset, .unset] [(.ref ob1)])) _
    refine XT.bipushV X21.here hx rfl (10 : Int32) (hb hby at_106) rfl ?_
    show Steps p.tables e below (T21.setTop (mkF m 108 #[.val (.long jl), .second, .val (.long jh), .second, .val (.int at0), .val (.ref ob1), .unset, .unset, .unset, .unset, .unset, .unset] [(.int (10 : Int32)), (.ref ob1)])) _
    refine XT.lloadN X21.here hx rfl (hb hby at_108) rfl ?_
    show Steps p.tables e below (T21.setTop (mkF m 109 #[.val (.long jl), .second, .val (.long jh), .second, .val (.int at0), .val (.ref ob1), .unset, .unset, .unset, .unset, .unset, .unset] [(.long jh), (.int (10 : Int32)), (.ref ob1)])) _
    refine XT.bipushV X21.here hx rfl (16 : Int32) (hb hby at_109) rfl ?_
    show Steps p.tables e below (T21.setTop (mkF m 111 #[.val (.long jl), .second, .val (.long jh), .second, .val (.int at0), .val (.ref ob1), .unset, .unset, .unset, .unset, .unset, .unset] [(.int (16 : Int32)), (.long jh), (.int (10 : Int32)), (.ref ob1)])) _
    refine XT.lushr X21.here hx rfl (hb hby at_111) rfl ?_
    show Steps p.tables e below (T21.setTop (mkF m 112 #[.val (.long jl), .second, .val (.long jh), .second, .val (.int at0), .val (.ref ob1), .unset, .unset, .unset, .unset, .unset, .unset] [(.long (XT.ushrL jh (16 : Int32))), (.int (10 : Int32)), (.ref ob1)])) _
    refine XT.l2i X21.here hx rfl (hb hby at_112) rfl ?_
    show Steps p.tables e below (T21.setTop (mkF m 113 #[.val (.long jl), .second, .val (.long jh), .second, .val (.int at0), .val (.ref ob1), .unset, .unset, .unset, .unset, .unset, .unset] [(.int ((XT.ushrL jh (16 : Int32)).toInt32)), (.int (10 : Int32)), (.ref ob1)])) _
    refine XT.i2b X21.here hx rfl (hb hby at_113) rfl ?_
    show Steps p.tables e below (T21.setTop (mkF m 114 #[.val (.long jl), .second, .val (.long jh), .second, .val (.int at0), .val (.ref ob1), .unset, .unset, .unset, .unset, .unset, .unset] [(.int (((XT.ushrL jh (16 : Int32)).toInt32).toInt8.toInt32)), (.int (10 : Int32)), (.ref ob1)])) _
    refine st23 _ ?_
    show Steps p.tables e below (T23.setTop (mkF m 115 #[.val (.long jl), .second, .val (.long jh), .second, .val (.int at0), .val (.ref ob1), .unset, .unset, .unset, .unset, .unset, .unset] [])) _
    refine XS.aload X23.here hx rfl (hb hby at_115) rfl rfl ?_
    show Steps p.tables e below (T23.setTop (mkF m 117 #[.val (.long jl), .second, .val (.long jh), .second, .val (.int at0), .val (.ref ob1), .unset, .unset, .unset, .unset, .unset, .unset] [(.ref ob1)])) _
    refine XT.bipushV X23.here hx rfl (11 : Int32) (hb hby at_117) rfl ?_
    show Steps p.tables e below (T23.setTop (mkF m 119 #[.val (.long jl), .second, .val (.long jh), .second, .val (.int at0), .val (.ref ob1), .unset, .unset, .unset, .unset, .unset, .unset] [(.int (11 : Int32)), (.ref ob1)])) _
    refine XT.lloadN X23.here hx rfl (hb hby at_119) rfl ?_
    show Steps p.tables e below (T23.setTop (mkF m 120 #[.val (.long jl), .second, .val (.long jh), .second, .val (.int at0), .val (.ref ob1), .unset, .unset, .unset, .unset, .unset, .unset] [(.long jh), (.int (11 : Int32)), (.ref ob1)])) _
    refine XT.bipushV X23.here hx rfl (24 : Int32) (hb hby at_120) rfl ?_
    show Steps p.tables e below (T23.setTop (mkF m 122 #[.val (.long jl), .second, .val (.long jh), .second, .val (.int at0), .val (.ref ob1), .unset, .unset, .unset, .unset, .unset, .unset] [(.int (24 : Int32)), (.long jh), (.int (11 : Int32)), (.ref ob1)])) _
    refine XT.lushr X23.here hx rfl (hb hby at_122) rfl ?_
    show Steps p.tables e below (T23.setTop (mkF m 123 #[.val (.long jl), .second, .val (.long jh), .second, .val (.int at0), .val (.ref ob1), .unset, .unset, .unset, .unset, .unset, .unset] [(.long (XT.ushrL jh (24 : Int32))), (.int (11 : Int32)), (.ref ob1)])) _
    refine XT.l2i X23.here hx rfl (hb hby at_123) rfl ?_
    show Steps p.tables e below (T23.setTop (mkF m 124 #[.val (.long jl), .second, .val (.long jh), .second, .val (.int at0), .val (.ref ob1), .unset, .unset, .unset, .unset, .unset, .unset] [(.int ((XT.ushrL jh (24 : Int32)).toInt32)), (.int (11 : Int32)), (.ref ob1)])) _
    refine XT.i2b X23.here hx rfl (hb hby at_124) rfl ?_
    show Steps p.tables e below (T23.setTop (mkF m 125 #[.val (.long jl), .second, .val (.long jh), .second, .val (.int at0), .val (.ref ob1), .unset, .unset, .unset, .unset, .unset, .unset] [(.int (((XT.ushrL jh (24 : Int32)).toInt32).toInt8.toInt32)), (.int (11 : Int32)), (.ref ob1)])) _
    refine st25 _ ?_
    show Steps p.tables e below (T25.setTop (mkF m 126 #[.val (.long jl), .second, .val (.long jh), .second, .val (.int at0), .val (.ref ob1), .unset, .unset, .unset, .unset, .unset, .unset] [])) _
    refine XS.iload X25.here hx rfl (hb hby at_126) rfl ?_
    show Steps p.tables e below (T25.setTop (mkF m 128 #[.val (.long jl), .second, .val (.long jh), .second, .val (.int at0), .val (.ref ob1), .unset, .unset, .unset, .unset, .unset, .unset] [(.int at0)])) _
    refine XT.iconstV X25.here hx rfl (3 : Int32) (hb hby at_128) rfl ?_
    show Steps p.tables e below (T25.setTop (mkF m 129 #[.val (.long jl), .second, .val (.long jh), .second, .val (.int at0), .val (.ref ob1), .unset, .unset, .unset, .unset, .unset, .unset] [(.int (3 : Int32)), (.int at0)])) _
    refine XS.iand X25.here hx rfl (hb hby at_129) rfl ?_
    show Steps p.tables e below (T25.setTop (mkF m 130 #[.val (.long jl), .second, .val (.long jh), .second, .val (.int at0), .val (.ref ob1), .unset, .unset, .unset, .unset, .unset, .unset] [(.int (at0 &&& (3 : Int32)))])) _
    refine XS.istore X25.here hx rfl (hb hby at_130) rfl (l' := #[.val (.long jl), .second, .val (.long jh), .second, .val (.int at0), .val (.ref ob1), .val (.int (at0 &&& (3 : Int32))), .unset, .unset, .unset, .unset, .unset]) rfl ?_
    exact k)
  obtain ⟨i1, q_i1⟩ : ∃ z : Int32, z = (at0 &&& (3 : Int32)) := ⟨_, rfl⟩
  rw [← q_i1] at pre26
  obtain ⟨v0, qv0⟩ : ∃ z : Int32, z = (((jl.toInt32).toInt8.toInt32).toInt8.toInt32) := ⟨_, rfl⟩
  obtain ⟨v1, qv1⟩ : ∃ z : Int32, z = ((((XT.ushrL jl (8 : Int32)).toInt32).toInt8.toInt32).toInt8.toInt32) := ⟨_, rfl⟩
  obtain ⟨v2, qv2⟩ : ∃ z : Int32, z = ((((XT.ushrL jl (16 : Int32)).toInt32).toInt8.toInt32).toInt8.toInt32) := ⟨_, rfl⟩
  obtain ⟨v3, qv3⟩ : ∃ z : Int32, z = ((((XT.ushrL jl (24 : Int32)).toInt32).toInt8.toInt32).toInt8.toInt32) := ⟨_, rfl⟩
  obtain ⟨v4, qv4⟩ : ∃ z : Int32, z = ((((XT.ushrL jl (32 : Int32)).toInt32).toInt8.toInt32).toInt8.toInt32) := ⟨_, rfl⟩
  obtain ⟨v5, qv5⟩ : ∃ z : Int32, z = ((((XT.ushrL jl (40 : Int32)).toInt32).toInt8.toInt32).toInt8.toInt32) := ⟨_, rfl⟩
  obtain ⟨v6, qv6⟩ : ∃ z : Int32, z = ((((XT.ushrL jl (48 : Int32)).toInt32).toInt8.toInt32).toInt8.toInt32) := ⟨_, rfl⟩
  obtain ⟨v7, qv7⟩ : ∃ z : Int32, z = ((((XT.ushrL jl (56 : Int32)).toInt32).toInt8.toInt32).toInt8.toInt32) := ⟨_, rfl⟩
  obtain ⟨v8, qv8⟩ : ∃ z : Int32, z = (((jh.toInt32).toInt8.toInt32).toInt8.toInt32) := ⟨_, rfl⟩
  obtain ⟨v9, qv9⟩ : ∃ z : Int32, z = ((((XT.ushrL jh (8 : Int32)).toInt32).toInt8.toInt32).toInt8.toInt32) := ⟨_, rfl⟩
  obtain ⟨v10, qv10⟩ : ∃ z : Int32, z = ((((XT.ushrL jh (16 : Int32)).toInt32).toInt8.toInt32).toInt8.toInt32) := ⟨_, rfl⟩
  obtain ⟨v11, qv11⟩ : ∃ z : Int32, z = ((((XT.ushrL jh (24 : Int32)).toInt32).toInt8.toInt32).toInt8.toInt32) := ⟨_, rfl⟩
  have Vn27 : Arv Z h25 ob1 kc1 .byte (12 : Int32) ([(.int v0), (.int v1), (.int v2), (.int v3), (.int v4), (.int v5), (.int v6), (.int v7), (.int v8), (.int v9), (.int v10), (.int v11)] : List Value) (.int (0 : Int32)) := by
    rw [qv0, qv1, qv2, qv3, qv4, qv5, qv6, qv7, qv8, qv9, qv10, qv11]; exact V25
  obtain ⟨v8p, w0, w1, w2, w3, w4, w5, w6, w7, w8, hgot, hget8⟩ := own_nine i1 (by rw [q_i1]; exact own_fld at0) v0 v1 v2 v3 v4 v5 v6 v7 v8 v9 v10 v11
  obtain ⟨ha0, ha1, ha2, ha3, ha4, ha5, ha6, ha7, ha8, hn2, hn3, hn4, hn5, hn6, hn7, hn8, hi0, hi1, hi2, hi3, hi4, hi5, hi6, hi7, hi8, hj2, hj3, hj4, hj5, hj6, hj7, hj8, hw8⟩ := hgot
  have hin8 : ¬ (i1 + (8 : Int32)) < 0 ∧ (i1 + (8 : Int32)) < (12 : Int32) := hi8
  have hlt8 : ((i1 + (8 : Int32))).toNatClampNeg < ([(.int v0), (.int v1), (.int v2), (.int v3), (.int v4), (.int v5), (.int v6), (.int v7), (.int v8), (.int v9), (.int v10), (.int v11)] : List Value).length := by
    have hk4 := own_fld at0
    rw [← q_i1] at hk4
    rcases hk4 with e | e | e | e <;> rw [e] <;> exact Nat.le_of_ble_eq_true rfl
  obtain ⟨cl28, Ar28, Q28, Sz28, Nn28, Ha28, Gf28⟩ := id Vn27
  have ghin28 : ¬ ((i1 + (8 : Int32)) < 0 ∨ cl28.slots.size ≤ ((i1 + (8 : Int32))).toNatClampNeg) := inb_of Sz28 hin8
  have ghat28 : cl28.slots[((i1 + (8 : Int32))).toNatClampNeg]? = some (.int v8p) := Ha28.at ghin28 hget8
  obtain ⟨cl29, Ar29, Q29, Sz29, Nn29, Ha29, Gf29⟩ := id Vn27
  have ghin29 : ¬ ((i1 + (8 : Int32)) < 0 ∨ cl29.slots.size ≤ ((i1 + (8 : Int32))).toNatClampNeg) := inb_of Sz29 hin8
  obtain ⟨T30, h30, X30, e30, W30, st30⟩ := stB X25 hx hZ e25 Ar29 (j := (i1 + (8 : Int32))) ghin29 (g := (mkF m 151 #[.val (.long jl), .second, .val (.long jh), .second, .val (.int at0), .val (.ref ob1), .val (.int i1), .unset, .unset, .unset, .unset, .unset] [(.int ((v8p &&& (127 : Int32)).toInt8.toInt32)), (.int (i1 + (8 : Int32))), (.ref ob1)])) rfl rfl (hb hby at_151)
  have V30 : Arv Z h30 ob1 kc1 .byte (12 : Int32) (([(.int v0), (.int v1), (.int v2), (.int v3), (.int v4), (.int v5), (.int v6), (.int v7), (.int v8), (.int v9), (.int v10), (.int v11)] : List Value).set ((i1 + (8 : Int32))).toNatClampNeg (.int (((v8p &&& (127 : Int32)).toInt8.toInt32).toInt8.toInt32))) (.int (0 : Int32)) := Arv.set Ar29 Q29 Sz29 Nn29 Ha29 Gf29 (fits_nar_byte _) W30 _ rfl hlt8
  have K30 : Keep h0 h30 [] := K25.wr W30 (Or.inr bo_ob1)
  have N30 := Fr.snoc X30 N25 gn_ob1
  have szn31 : n0 ≤ h30.size := (Nat.le_trans (Nat.le_trans (Nat.le_trans (Nat.le_trans (Nat.le_trans (Nat.le_trans (Nat.le_trans (Nat.le_trans (Nat.le_trans (Nat.le_trans (Nat.le_trans (Nat.le_trans (Nat.le_trans sz1 (Keep.of_wr W3).1) (Keep.of_wr W5).1) (Keep.of_wr W7).1) (Keep.of_wr W9).1) (Keep.of_wr W11).1) (Keep.of_wr W13).1) (Keep.of_wr W15).1) (Keep.of_wr W17).1) (Keep.of_wr W19).1) (Keep.of_wr W21).1) (Keep.of_wr W23).1) (Keep.of_wr W25).1) (Keep.of_wr W30).1)
  obtain ⟨_, _, ⟨T32, tL32, tk32, tn32⟩, -, X32, ⟨Lc32, hQ32, tl32, ty32, tz32⟩, st32⟩ := Jvm.LawKit.callS X30 hx (y := (⟨"com/example/plainsong/plainsong/PackedTextsReadNumberPinLaw", "last", "([BI)I"⟩ : MethodName)) hown (mvT hZ (hw _ (List.mem_of_getElem? (i := 1) rfl))) (mvT hZ (hw _ (List.mem_of_getElem? (i := 2) rfl))) (mvT hZ (hw _ (List.mem_of_getElem? (i := 3) rfl))) (mvT hZ (hw _ (List.mem_of_getElem? (i := 4) rfl))) (by decide) (backOf (W := 0) (own_rm1 l Z a0 hw [] ob1 i1 kc1 (([(.int v0), (.int v1), (.int v2), (.int v3), (.int v4), (.int v5), (.int v6), (.int v7), (.int v8), (.int v9), (.int v10), (.int v11)] : List Value).set ((i1 + (8 : Int32))).toNatClampNeg (.int (((v8p &&& (127 : Int32)).toInt8.toInt32).toInt8.toInt32))) w0 w1 w2 w3 w4 w5 w6 w7 h30 n0 szn31 V30 (ha0) (hi0) (ha1) (hi1) (ha2) (hi2) (ha3) (hi3) (ha4) (hi4) (ha5) (hi5) (ha6) (hi6) (ha7) (hi7)) hZ (hw _ (List.mem_of_getElem? (i := 4) rfl)) (hw _ (List.mem_of_getElem? (i := 3) rfl)) (by decide) (by decide)) (g := (mkF m 156 #[.val (.long jl), .second, .val (.long jh), .second, .val (.int at0), .val (.ref ob1), .val (.int i1), .unset, .unset, .unset, .unset, .unset] [(.int i1), (.ref ob1)])) rfl (by rw [hml]; rfl) (argsL := [(.ref ob1), (.int i1)]) (rest := []) (lenOf own_pd0 rfl) rfl (by show 2 * 0 + _ ≤ _; exact Nat.le_of_eq rfl) (hb hby at_156) (fun _ _ => ⟨rfl, e30, (by decide : 1 + 0 ≤ _), (by decide : 12 + 0 ≤ _)⟩)
  dsimp only [Pt.U, Pt.locs, Pt.cells, Pt.slots] at X32 tl32 ty32 tz32 st32 hQ32
  rw [tl32, ty32, tz32] at X32
  obtain ⟨rfl, Nq32, K32⟩ := hQ32
  have N32 := Fr.app N30 Nq32
  obtain ⟨_, _, ⟨T33, tL33, tk33, tn33⟩, -, X33, ⟨Lc33, hQ33, tl33, ty33, tz33⟩, st33⟩ := Jvm.LawKit.callS X32 hx (y := (⟨"com/example/plainsong/plainsong/PackedTextsReadNumberPinLaw", "d", "([BI)J"⟩ : MethodName)) hown (mvT hZ (hw _ (List.mem_of_getElem? (i := 5) rfl))) (mvT hZ (hw _ (List.mem_of_getElem? (i := 6) rfl))) (mvT hZ (hw _ (List.mem_of_getElem? (i := 3) rfl))) (mvT hZ (hw _ (List.mem_of_getElem? (i := 7) rfl))) (by decide) (backOf (W := 0) (own_rm2 l Z a0 hw [] ob1 i1 kc1 (([(.int v0), (.int v1), (.int v2), (.int v3), (.int v4), (.int v5), (.int v6), (.int v7), (.int v8), (.int v9), (.int v10), (.int v11)] : List Value).set ((i1 + (8 : Int32))).toNatClampNeg (.int (((v8p &&& (127 : Int32)).toInt8.toInt32).toInt8.toInt32))) w0 h30 n0 szn31 V30 (ha0) (hi0)) hZ (hw _ (List.mem_of_getElem? (i := 7) rfl)) (hw _ (List.mem_of_getElem? (i := 3) rfl)) (by decide) (by decide)) (g := (mkF m 165 #[.val (.long jl), .second, .val (.long jh), .second, .val (.int at0), .val (.ref ob1), .val (.int i1), .val (.int (own_last w0 w1 w2 w3 w4 w5 w6 w7)), .unset, .unset, .unset, .unset] [(.int i1), (.ref ob1)])) rfl (by rw [hml]; rfl) (argsL := [(.ref ob1), (.int i1)]) (rest := []) (lenOf own_pd1 rfl) rfl (by show 2 * 0 + _ ≤ _; exact Nat.le_of_eq rfl) (hb hby at_165) (fun _ _ => ⟨rfl, K32, (by decide : 1 + 0 ≤ _), (by decide : 12 + 0 ≤ _)⟩)
  dsimp only [Pt.U, Pt.locs, Pt.cells, Pt.slots] at X33 tl33 ty33 tz33 st33 hQ33
  rw [tl33, ty33, tz33] at X33
  obtain ⟨rfl, Nq33, K33⟩ := hQ33
  have N33 := Fr.app N32 Nq33
  obtain ⟨_, _, ⟨T34, tL34, tk34, tn34⟩, -, X34, ⟨Lc34, hQ34, tl34, ty34, tz34⟩, st34⟩ := Jvm.LawKit.callS X33 hx (y := (⟨"com/example/plainsong/plainsong/PackedTextsReadNumberPinLaw", "d", "([BI)J"⟩ : MethodName)) hown (mvT hZ (hw _ (List.mem_of_getElem? (i := 5) rfl))) (mvT hZ (hw _ (List.mem_of_getElem? (i := 6) rfl))) (mvT hZ (hw _ (List.mem_of_getElem? (i := 3) rfl))) (mvT hZ (hw _ (List.mem_of_getElem? (i := 7) rfl))) (by decide) (backOf (W := 2) (own_rm2 l Z a0 hw [] ob1 (i1 + (1 : Int32)) kc1 (([(.int v0), (.int v1), (.int v2), (.int v3), (.int v4), (.int v5), (.int v6), (.int v7), (.int v8), (.int v9), (.int v10), (.int v11)] : List Value).set ((i1 + (8 : Int32))).toNatClampNeg (.int (((v8p &&& (127 : Int32)).toInt8.toInt32).toInt8.toInt32))) w1 h30 n0 szn31 V30 (ha1) (hi1)) hZ (hw _ (List.mem_of_getElem? (i := 7) rfl)) (hw _ (List.mem_of_getElem? (i := 3) rfl)) (by decide) (by decide)) (g := (mkF m 174 #[.val (.long jl), .second, .val (.long jh), .second, .val (.int at0), .val (.ref ob1), .val (.int i1), .val (.int (own_last w0 w1 w2 w3 w4 w5 w6 w7)), .unset, .unset, .unset, .unset] [(.int (i1 + (1 : Int32))), (.ref ob1), (.long (own_P0 w0))])) rfl (by rw [hml]; rfl) (argsL := [(.ref ob1), (.int (i1 + (1 : Int32)))]) (rest := [(.long (own_P0 w0))]) (lenOf own_pd1 rfl) rfl (by show 2 * 0 + _ ≤ _; exact Nat.le_of_eq rfl) (hb hby at_174) (fun _ _ => ⟨rfl, K33, (by decide : 1 + 0 ≤ _), (by decide : 12 + 0 ≤ _)⟩)
  dsimp only [Pt.U, Pt.locs, Pt.cells, Pt.slots] at X34 tl34 ty34 tz34 st34 hQ34
  rw [tl34, ty34, tz34] at X34
  obtain ⟨rfl, Nq34, K34⟩ := hQ34
  have N34 := Fr.app N33 Nq34
  obtain ⟨_, _, ⟨T35, tL35, tk35, tn35⟩, -, X35, ⟨Lc35, hQ35, tl35, ty35, tz35⟩, st35⟩ := Jvm.LawKit.callS X34 hx (y := (⟨"com/example/plainsong/plainsong/PackedTextsReadNumberPinLaw", "d", "([BI)J"⟩ : MethodName)) hown (mvT hZ (hw _ (List.mem_of_getElem? (i := 5) rfl))) (mvT hZ (hw _ (List.mem_of_getElem? (i := 6) rfl))) (mvT hZ (hw _ (List.mem_of_getElem? (i := 3) rfl))) (mvT hZ (hw _ (List.mem_of_getElem? (i := 7) rfl))) (by decide) (backOf (W := 2) (own_rm2 l Z a0 hw [] ob1 (i1 + (2 : Int32)) kc1 (([(.int v0), (.int v1), (.int v2), (.int v3), (.int v4), (.int v5), (.int v6), (.int v7), (.int v8), (.int v9), (.int v10), (.int v11)] : List Value).set ((i1 + (8 : Int32))).toNatClampNeg (.int (((v8p &&& (127 : Int32)).toInt8.toInt32).toInt8.toInt32))) w2 h30 n0 szn31 V30 (ha2) (hi2)) hZ (hw _ (List.mem_of_getElem? (i := 7) rfl)) (hw _ (List.mem_of_getElem? (i := 3) rfl)) (by decide) (by decide)) (g := (mkF m 187 #[.val (.long jl), .second, .val (.long jh), .second, .val (.int at0), .val (.ref ob1), .val (.int i1), .val (.int (own_last w0 w1 w2 w3 w4 w5 w6 w7)), .unset, .unset, .unset, .unset] [(.int (i1 + (2 : Int32))), (.ref ob1), (.long (own_P1 w0 w1))])) rfl (by rw [hml]; rfl) (argsL := [(.ref ob1), (.int (i1 + (2 : Int32)))]) (rest := [(.long (own_P1 w0 w1))]) (lenOf own_pd1 rfl) rfl (by show 2 * 0 + _ ≤ _; exact Nat.le_of_eq rfl) (hb hby at_187) (fun _ _ => ⟨rfl, K34, (by decide : 1 + 0 ≤ _), (by decide : 12 + 0 ≤ _)⟩)
  dsimp only [Pt.U, Pt.locs, Pt.cells, Pt.slots] at X35 tl35 ty35 tz35 st35 hQ35
  rw [tl35, ty35, tz35] at X35
  obtain ⟨rfl, Nq35, K35⟩ := hQ35
  have N35 := Fr.app N34 Nq35
  obtain ⟨_, _, ⟨T36, tL36, tk36, tn36⟩, -, X36, ⟨Lc36, hQ36, tl36, ty36, tz36⟩, st36⟩ := Jvm.LawKit.callS X35 hx (y := (⟨"com/example/plainsong/plainsong/PackedTextsReadNumberPinLaw", "d", "([BI)J"⟩ : MethodName)) hown (mvT hZ (hw _ (List.mem_of_getElem? (i := 5) rfl))) (mvT hZ (hw _ (List.mem_of_getElem? (i := 6) rfl))) (mvT hZ (hw _ (List.mem_of_getElem? (i := 3) rfl))) (mvT hZ (hw _ (List.mem_of_getElem? (i := 7) rfl))) (by decide) (backOf (W := 2) (own_rm2 l Z a0 hw [] ob1 (i1 + (3 : Int32)) kc1 (([(.int v0), (.int v1), (.int v2), (.int v3), (.int v4), (.int v5), (.int v6), (.int v7), (.int v8), (.int v9), (.int v10), (.int v11)] : List Value).set ((i1 + (8 : Int32))).toNatClampNeg (.int (((v8p &&& (127 : Int32)).toInt8.toInt32).toInt8.toInt32))) w3 h30 n0 szn31 V30 (ha3) (hi3)) hZ (hw _ (List.mem_of_getElem? (i := 7) rfl)) (hw _ (List.mem_of_getElem? (i := 3) rfl)) (by decide) (by decide)) (g := (mkF m 200 #[.val (.long jl), .second, .val (.long jh), .second, .val (.int at0), .val (.ref ob1), .val (.int i1), .val (.int (own_last w0 w1 w2 w3 w4 w5 w6 w7)), .unset, .unset, .unset, .unset] [(.int (i1 + (3 : Int32))), (.ref ob1), (.long (own_P2 w0 w1 w2))])) rfl (by rw [hml]; rfl) (argsL := [(.ref ob1), (.int (i1 + (3 : Int32)))]) (rest := [(.long (own_P2 w0 w1 w2))]) (lenOf own_pd1 rfl) rfl (by show 2 * 0 + _ ≤ _; exact Nat.le_of_eq rfl) (hb hby at_200) (fun _ _ => ⟨rfl, K35, (by decide : 1 + 0 ≤ _), (by decide : 12 + 0 ≤ _)⟩)
  dsimp only [Pt.U, Pt.locs, Pt.cells, Pt.slots] at X36 tl36 ty36 tz36 st36 hQ36
  rw [tl36, ty36, tz36] at X36
  obtain ⟨rfl, Nq36, K36⟩ := hQ36
  have N36 := Fr.app N35 Nq36
  obtain ⟨_, _, ⟨T37, tL37, tk37, tn37⟩, -, X37, ⟨Lc37, hQ37, tl37, ty37, tz37⟩, st37⟩ := Jvm.LawKit.callS X36 hx (y := (⟨"com/example/plainsong/plainsong/PackedTextsReadNumberPinLaw", "d", "([BI)J"⟩ : MethodName)) hown (mvT hZ (hw _ (List.mem_of_getElem? (i := 5) rfl))) (mvT hZ (hw _ (List.mem_of_getElem? (i := 6) rfl))) (mvT hZ (hw _ (List.mem_of_getElem? (i := 3) rfl))) (mvT hZ (hw _ (List.mem_of_getElem? (i := 7) rfl))) (by decide) (backOf (W := 2) (own_rm2 l Z a0 hw [] ob1 (i1 + (4 : Int32)) kc1 (([(.int v0), (.int v1), (.int v2), (.int v3), (.int v4), (.int v5), (.int v6), (.int v7), (.int v8), (.int v9), (.int v10), (.int v11)] : List Value).set ((i1 + (8 : Int32))).toNatClampNeg (.int (((v8p &&& (127 : Int32)).toInt8.toInt32).toInt8.toInt32))) w4 h30 n0 szn31 V30 (ha4) (hi4)) hZ (hw _ (List.mem_of_getElem? (i := 7) rfl)) (hw _ (List.mem_of_getElem? (i := 3) rfl)) (by decide) (by decide)) (g := (mkF m 213 #[.val (.long jl), .second, .val (.long jh), .second, .val (.int at0), .val (.ref ob1), .val (.int i1), .val (.int (own_last w0 w1 w2 w3 w4 w5 w6 w7)), .unset, .unset, .unset, .unset] [(.int (i1 + (4 : Int32))), (.ref ob1), (.long (own_P3 w0 w1 w2 w3))])) rfl (by rw [hml]; rfl) (argsL := [(.ref ob1), (.int (i1 + (4 : Int32)))]) (rest := [(.long (own_P3 w0 w1 w2 w3))]) (lenOf own_pd1 rfl) rfl (by show 2 * 0 + _ ≤ _; exact Nat.le_of_eq rfl) (hb hby at_213) (fun _ _ => ⟨rfl, K36, (by decide : 1 + 0 ≤ _), (by decide : 12 + 0 ≤ _)⟩)
  dsimp only [Pt.U, Pt.locs, Pt.cells, Pt.slots] at X37 tl37 ty37 tz37 st37 hQ37
  rw [tl37, ty37, tz37] at X37
  obtain ⟨rfl, Nq37, K37⟩ := hQ37
  have N37 := Fr.app N36 Nq37
  obtain ⟨_, _, ⟨T38, tL38, tk38, tn38⟩, -, X38, ⟨Lc38, hQ38, tl38, ty38, tz38⟩, st38⟩ := Jvm.LawKit.callS X37 hx (y := (⟨"com/example/plainsong/plainsong/PackedTextsReadNumberPinLaw", "d", "([BI)J"⟩ : MethodName)) hown (mvT hZ (hw _ (List.mem_of_getElem? (i := 5) rfl))) (mvT hZ (hw _ (List.mem_of_getElem? (i := 6) rfl))) (mvT hZ (hw _ (List.mem_of_getElem? (i := 3) rfl))) (mvT hZ (hw _ (List.mem_of_getElem? (i := 7) rfl))) (by decide) (backOf (W := 2) (own_rm2 l Z a0 hw [] ob1 (i1 + (5 : Int32)) kc1 (([(.int v0), (.int v1), (.int v2), (.int v3), (.int v4), (.int v5), (.int v6), (.int v7), (.int v8), (.int v9), (.int v10), (.int v11)] : List Value).set ((i1 + (8 : Int32))).toNatClampNeg (.int (((v8p &&& (127 : Int32)).toInt8.toInt32).toInt8.toInt32))) w5 h30 n0 szn31 V30 (ha5) (hi5)) hZ (hw _ (List.mem_of_getElem? (i := 7) rfl)) (hw _ (List.mem_of_getElem? (i := 3) rfl)) (by decide) (by decide)) (g := (mkF m 226 #[.val (.long jl), .second, .val (.long jh), .second, .val (.int at0), .val (.ref ob1), .val (.int i1), .val (.int (own_last w0 w1 w2 w3 w4 w5 w6 w7)), .unset, .unset, .unset, .unset] [(.int (i1 + (5 : Int32))), (.ref ob1), (.long (own_P4 w0 w1 w2 w3 w4))])) rfl (by rw [hml]; rfl) (argsL := [(.ref ob1), (.int (i1 + (5 : Int32)))]) (rest := [(.long (own_P4 w0 w1 w2 w3 w4))]) (lenOf own_pd1 rfl) rfl (by show 2 * 0 + _ ≤ _; exact Nat.le_of_eq rfl) (hb hby at_226) (fun _ _ => ⟨rfl, K37, (by decide : 1 + 0 ≤ _), (by decide : 12 + 0 ≤ _)⟩)
  dsimp only [Pt.U, Pt.locs, Pt.cells, Pt.slots] at X38 tl38 ty38 tz38 st38 hQ38
  rw [tl38, ty38, tz38] at X38
  obtain ⟨rfl, Nq38, K38⟩ := hQ38
  have N38 := Fr.app N37 Nq38
  obtain ⟨_, _, ⟨T39, tL39, tk39, tn39⟩, -, X39, ⟨Lc39, hQ39, tl39, ty39, tz39⟩, st39⟩ := Jvm.LawKit.callS X38 hx (y := (⟨"com/example/plainsong/plainsong/PackedTextsReadNumberPinLaw", "d", "([BI)J"⟩ : MethodName)) hown (mvT hZ (hw _ (List.mem_of_getElem? (i := 5) rfl))) (mvT hZ (hw _ (List.mem_of_getElem? (i := 6) rfl))) (mvT hZ (hw _ (List.mem_of_getElem? (i := 3) rfl))) (mvT hZ (hw _ (List.mem_of_getElem? (i := 7) rfl))) (by decide) (backOf (W := 2) (own_rm2 l Z a0 hw [] ob1 (i1 + (6 : Int32)) kc1 (([(.int v0), (.int v1), (.int v2), (.int v3), (.int v4), (.int v5), (.int v6), (.int v7), (.int v8), (.int v9), (.int v10), (.int v11)] : List Value).set ((i1 + (8 : Int32))).toNatClampNeg (.int (((v8p &&& (127 : Int32)).toInt8.toInt32).toInt8.toInt32))) w6 h30 n0 szn31 V30 (ha6) (hi6)) hZ (hw _ (List.mem_of_getElem? (i := 7) rfl)) (hw _ (List.mem_of_getElem? (i := 3) rfl)) (by decide) (by decide)) (g := (mkF m 240 #[.val (.long jl), .second, .val (.long jh), .second, .val (.int at0), .val (.ref ob1), .val (.int i1), .val (.int (own_last w0 w1 w2 w3 w4 w5 w6 w7)), .unset, .unset, .unset, .unset] [(.int (i1 + (6 : Int32))), (.ref ob1), (.long (own_P5 w0 w1 w2 w3 w4 w5))])) rfl (by rw [hml]; rfl) (argsL := [(.ref ob1), (.int (i1 + (6 : Int32)))]) (rest := [(.long (own_P5 w0 w1 w2 w3 w4 w5))]) (lenOf own_pd1 rfl) rfl (by show 2 * 0 + _ ≤ _; exact Nat.le_of_eq rfl) (hb hby at_240) (fun _ _ => ⟨rfl, K38, (by decide : 1 + 0 ≤ _), (by decide : 12 + 0 ≤ _)⟩)
  dsimp only [Pt.U, Pt.locs, Pt.cells, Pt.slots] at X39 tl39 ty39 tz39 st39 hQ39
  rw [tl39, ty39, tz39] at X39
  obtain ⟨rfl, Nq39, K39⟩ := hQ39
  have N39 := Fr.app N38 Nq39
  obtain ⟨_, _, ⟨T40, tL40, tk40, tn40⟩, -, X40, ⟨Lc40, hQ40, tl40, ty40, tz40⟩, st40⟩ := Jvm.LawKit.callS X39 hx (y := (⟨"com/example/plainsong/plainsong/PackedTextsReadNumberPinLaw", "d", "([BI)J"⟩ : MethodName)) hown (mvT hZ (hw _ (List.mem_of_getElem? (i := 5) rfl))) (mvT hZ (hw _ (List.mem_of_getElem? (i := 6) rfl))) (mvT hZ (hw _ (List.mem_of_getElem? (i := 3) rfl))) (mvT hZ (hw _ (List.mem_of_getElem? (i := 7) rfl))) (by decide) (backOf (W := 2) (own_rm2 l Z a0 hw [] ob1 (i1 + (7 : Int32)) kc1 (([(.int v0), (.int v1), (.int v2), (.int v3), (.int v4), (.int v5), (.int v6), (.int v7), (.int v8), (.int v9), (.int v10), (.int v11)] : List Value).set ((i1 + (8 : Int32))).toNatClampNeg (.int (((v8p &&& (127 : Int32)).toInt8.toInt32).toInt8.toInt32))) w7 h30 n0 szn31 V30 (ha7) (hi7)) hZ (hw _ (List.mem_of_getElem? (i := 7) rfl)) (hw _ (List.mem_of_getElem? (i := 3) rfl)) (by decide) (by decide)) (g := (mkF m 254 #[.val (.long jl), .second, .val (.long jh), .second, .val (.int at0), .val (.ref ob1), .val (.int i1), .val (.int (own_last w0 w1 w2 w3 w4 w5 w6 w7)), .unset, .unset, .unset, .unset] [(.int (i1 + (7 : Int32))), (.ref ob1), (.long (own_P6 w0 w1 w2 w3 w4 w5 w6))])) rfl (by rw [hml]; rfl) (argsL := [(.ref ob1), (.int (i1 + (7 : Int32)))]) (rest := [(.long (own_P6 w0 w1 w2 w3 w4 w5 w6))]) (lenOf own_pd1 rfl) rfl (by show 2 * 0 + _ ≤ _; exact Nat.le_of_eq rfl) (hb hby at_254) (fun _ _ => ⟨rfl, K39, (by decide : 1 + 0 ≤ _), (by decide : 12 + 0 ≤ _)⟩)
  dsimp only [Pt.U, Pt.locs, Pt.cells, Pt.slots] at X40 tl40 ty40 tz40 st40 hQ40
  rw [tl40, ty40, tz40] at X40
  obtain ⟨rfl, Nq40, K40⟩ := hQ40
  have N40 := Fr.app N39 Nq40
  obtain ⟨_, _, ⟨T41, tL41, tk41, tn41⟩, -, X41, ⟨Lc41, hQ41, tl41, ty41, tz41⟩, st41⟩ := Jvm.LawKit.callS X40 hx (y := (⟨"com/example/plainsong/plainsong/PackedTextsReadNumberPinLaw", "d", "([BI)J"⟩ : MethodName)) hown (mvT hZ (hw _ (List.mem_of_getElem? (i := 5) rfl))) (mvT hZ (hw _ (List.mem_of_getElem? (i := 6) rfl))) (mvT hZ (hw _ (List.mem_of_getElem? (i := 3) rfl))) (mvT hZ (hw _ (List.mem_of_getElem? (i := 7) rfl))) (by decide) (backOf (W := 2) (own_rm2 l Z a0 hw [] ob1 (i1 + (8 : Int32)) kc1 (([(.int v0), (.int v1), (.int v2), (.int v3), (.int v4), (.int v5), (.int v6), (.int v7), (.int v8), (.int v9), (.int v10), (.int v11)] : List Value).set ((i1 + (8 : Int32))).toNatClampNeg (.int (((v8p &&& (127 : Int32)).toInt8.toInt32).toInt8.toInt32))) w8 h30 n0 szn31 V30 (ha8) (hi8)) hZ (hw _ (List.mem_of_getElem? (i := 7) rfl)) (hw _ (List.mem_of_getElem? (i := 3) rfl)) (by decide) (by decide)) (g := (mkF m 268 #[.val (.long jl), .second, .val (.long jh), .second, .val (.int at0), .val (.ref ob1), .val (.int i1), .val (.int (own_last w0 w1 w2 w3 w4 w5 w6 w7)), .unset, .unset, .unset, .unset] [(.int (i1 + (8 : Int32))), (.ref ob1), (.long (own_P7 w0 w1 w2 w3 w4 w5 w6 w7))])) rfl (by rw [hml]; rfl) (argsL := [(.ref ob1), (.int (i1 + (8 : Int32)))]) (rest := [(.long (own_P7 w0 w1 w2 w3 w4 w5 w6 w7))]) (lenOf own_pd1 rfl) rfl (by show 2 * 0 + _ ≤ _; exact Nat.le_of_eq rfl) (hb hby at_268) (fun _ _ => ⟨rfl, K40, (by decide : 1 + 0 ≤ _), (by decide : 12 + 0 ≤ _)⟩)
  dsimp only [Pt.U, Pt.locs, Pt.cells, Pt.slots] at X41 tl41 ty41 tz41 st41 hQ41
  rw [tl41, ty41, tz41] at X41
  obtain ⟨rfl, Nq41, K41⟩ := hQ41
  have N41 := Fr.app N40 Nq41
  obtain ⟨_, _, ⟨T42, tL42, tk42, tn42⟩, -, X42, ⟨Lc42, hQ42, tl42, ty42, tz42⟩, st42⟩ := Jvm.LawKit.callS X41 hx (y := (⟨"com/example/plainsong/plainsong/PackedTexts", "readNumber", "([BI)J"⟩ : MethodName)) hown (mvT hZ (hw _ (List.mem_of_getElem? (i := 8) rfl))) (mvT hZ (hw _ (List.mem_of_getElem? (i := 9) rfl))) (mvT hZ (hw _ (List.mem_of_getElem? (i := 10) rfl))) (mvT hZ (hw _ (List.mem_of_getElem? (i := 11) rfl))) (by decide) (backOf (W := 0) (own_rm3 l Z a0 hw [] ob1 i1 kc1 (([(.int v0), (.int v1), (.int v2), (.int v3), (.int v4), (.int v5), (.int v6), (.int v7), (.int v8), (.int v9), (.int v10), (.int v11)] : List Value).set ((i1 + (8 : Int32))).toNatClampNeg (.int (((v8p &&& (127 : Int32)).toInt8.toInt32).toInt8.toInt32))) w0 w1 w2 w3 w4 w5 w6 w7 w8 h30 n0 szn31 V30 (ha0) (hi0) (ha1) (hi1) (hn2) (hj2) (hn3) (hj3) (hn4) (hj4) (hn5) (hj5) (hn6) (hj6) (hn7) (hj7) (hn8) (hj8) (hw8)) hZ (hw _ (List.mem_of_getElem? (i := 11) rfl)) (hw _ (List.mem_of_getElem? (i := 10) rfl)) (by decide) (by decide)) (g := (mkF m 294 #[.val (.long jl), .second, .val (.long jh), .second, .val (.int at0), .val (.ref ob1), .val (.int i1), .val (.int (own_last w0 w1 w2 w3 w4 w5 w6 w7)), .val (.long (own_P8 w0 w1 w2 w3 w4 w5 w6 w7 w8)), .second, .val (.long (own_msk (own_last w0 w1 w2 w3 w4 w5 w6 w7))), .second] [(.int i1), (.ref ob1)])) rfl (by rw [hml]; rfl) (argsL := [(.ref ob1), (.int i1)]) (rest := []) (lenOf own_pd1 rfl) rfl (by show 2 * 0 + _ ≤ _; exact Nat.le_of_eq rfl) (hb hby at_294) (fun _ _ => ⟨rfl, K41, (by decide : 1 + 0 ≤ _), (by decide : 12 + 0 ≤ _)⟩)
  dsimp only [Pt.U, Pt.locs, Pt.cells, Pt.slots] at X42 tl42 ty42 tz42 st42 hQ42
  rw [tl42, ty42, tz42] at X42
  obtain ⟨rfl, Nq42, K42⟩ := hQ42
  have N42 := Fr.app N41 Nq42
  obtain ⟨fs, hr, hrun, hended, hW, hsame⟩ := X42.leave (v := some (.int (1 : Int32))) (fun h => by rw [Bd.returns] at h; cases h)
  refine ⟨_, _, pre26 _ ?_, hrun, hended, _, _, rfl, ?_, ⟨_, rfl⟩, hW, hsame.mono (by decide) (by decide)⟩
  · show Steps p.tables e below (T25.setTop (mkF m 132 #[.val (.long jl), .second, .val (.long jh), .second, .val (.int at0), .val (.ref ob1), .val (.int i1), .unset, .unset, .unset, .unset, .unset] [])) _
    refine XS.aload X25.here hx rfl (hb hby at_132) rfl rfl ?_
    show Steps p.tables e below (T25.setTop (mkF m 134 #[.val (.long jl), .second, .val (.long jh), .second, .val (.int at0), .val (.ref ob1), .val (.int i1), .unset, .unset, .unset, .unset, .unset] [(.ref ob1)])) _
    refine XS.iload X25.here hx rfl (hb hby at_134) rfl ?_
    show Steps p.tables e below (T25.setTop (mkF m 136 #[.val (.long jl), .second, .val (.long jh), .second, .val (.int at0), .val (.ref ob1), .val (.int i1), .unset, .unset, .unset, .unset, .unset] [(.int i1), (.ref ob1)])) _
    refine XT.bipushV X25.here hx rfl (8 : Int32) (hb hby at_136) rfl ?_
    show Steps p.tables e below (T25.setTop (mkF m 138 #[.val (.long jl), .second, .val (.long jh), .second, .val (.int at0), .val (.ref ob1), .val (.int i1), .unset, .unset, .unset, .unset, .unset] [(.int (8 : Int32)), (.int i1), (.ref ob1)])) _
    refine XS.iadd X25.here hx rfl (hb hby at_138) rfl ?_
    show Steps p.tables e below (T25.setTop (mkF m 139 #[.val (.long jl), .second, .val (.long jh), .second, .val (.int at0), .val (.ref ob1), .val (.int i1), .unset, .unset, .unset, .unset, .unset] [(.int (i1 + (8 : Int32))), (.ref ob1)])) _
    refine XS.aload X25.here hx rfl (hb hby at_139) rfl rfl ?_
    show Steps p.tables e below (T25.setTop (mkF m 141 #[.val (.long jl), .second, .val (.long jh), .second, .val (.int at0), .val (.ref ob1), .val (.int i1), .unset, .unset, .unset, .unset, .unset] [(.ref ob1), (.int (i1 + (8 : Int32))), (.ref ob1)])) _
    refine XS.iload X25.here hx rfl (hb hby at_141) rfl ?_
    show Steps p.tables e below (T25.setTop (mkF m 143 #[.val (.long jl), .second, .val (.long jh), .second, .val (.int at0), .val (.ref ob1), .val (.int i1), .unset, .unset, .unset, .unset, .unset] [(.int i1), (.ref ob1), (.int (i1 + (8 : Int32))), (.ref ob1)])) _
    refine XT.bipushV X25.here hx rfl (8 : Int32) (hb hby at_143) rfl ?_
    show Steps p.tables e below (T25.setTop (mkF m 145 #[.val (.long jl), .second, .val (.long jh), .second, .val (.int at0), .val (.ref ob1), .val (.int i1), .unset, .unset, .unset, .unset, .unset] [(.int (8 : Int32)), (.int i1), (.ref ob1), (.int (i1 + (8 : Int32))), (.ref ob1)])) _
    refine XS.iadd X25.here hx rfl (hb hby at_145) rfl ?_
    show Steps p.tables e below (T25.setTop (mkF m 146 #[.val (.long jl), .second, .val (.long jh), .second, .val (.int at0), .val (.ref ob1), .val (.int i1), .unset, .unset, .unset, .unset, .unset] [(.int (i1 + (8 : Int32))), (.ref ob1), (.int (i1 + (8 : Int32))), (.ref ob1)])) _
    refine X25.baloadBytes hx (j := (i1 + (8 : Int32))) (v := (.int v8p)) (by rw [e25]; exact Ar28.1) (State.isArrayOf_alike hZ.alike Ar28.2.1) Ar28.2.2 ghin28 ghat28 (g := (mkF m 146 #[.val (.long jl), .second, .val (.long jh), .second, .val (.int at0), .val (.ref ob1), .val (.int i1), .unset, .unset, .unset, .unset, .unset] [(.int (i1 + (8 : Int32))), (.ref ob1), (.int (i1 + (8 : Int32))), (.ref ob1)])) rfl rfl (hb hby at_146) _ ?_
    show Steps p.tables e below (T25.setTop (mkF m 147 #[.val (.long jl), .second, .val (.long jh), .second, .val (.int at0), .val (.ref ob1), .val (.int i1), .unset, .unset, .unset, .unset, .unset] [(.int v8p), (.int (i1 + (8 : Int32))), (.ref ob1)])) _
    refine XT.bipushV X25.here hx rfl (127 : Int32) (hb hby at_147) rfl ?_
    show Steps p.tables e below (T25.setTop (mkF m 149 #[.val (.long jl), .second, .val (.long jh), .second, .val (.int at0), .val (.ref ob1), .val (.int i1), .unset, .unset, .unset, .unset, .unset] [(.int (127 : Int32)), (.int v8p), (.int (i1 + (8 : Int32))), (.ref ob1)])) _
    refine XS.iand X25.here hx rfl (hb hby at_149) rfl ?_
    show Steps p.tables e below (T25.setTop (mkF m 150 #[.val (.long jl), .second, .val (.long jh), .second, .val (.int at0), .val (.ref ob1), .val (.int i1), .unset, .unset, .unset, .unset, .unset] [(.int (v8p &&& (127 : Int32))), (.int (i1 + (8 : Int32))), (.ref ob1)])) _
    refine XT.i2b X25.here hx rfl (hb hby at_150) rfl ?_
    show Steps p.tables e below (T25.setTop (mkF m 151 #[.val (.long jl), .second, .val (.long jh), .second, .val (.int at0), .val (.ref ob1), .val (.int i1), .unset, .unset, .unset, .unset, .unset] [(.int ((v8p &&& (127 : Int32)).toInt8.toInt32)), (.int (i1 + (8 : Int32))), (.ref ob1)])) _
    refine st30 _ ?_
    show Steps p.tables e below (T30.setTop (mkF m 152 #[.val (.long jl), .second, .val (.long jh), .second, .val (.int at0), .val (.ref ob1), .val (.int i1), .unset, .unset, .unset, .unset, .unset] [])) _
    refine XS.aload X30.here hx rfl (hb hby at_152) rfl rfl ?_
    show Steps p.tables e below (T30.setTop (mkF m 154 #[.val (.long jl), .second, .val (.long jh), .second, .val (.int at0), .val (.ref ob1), .val (.int i1), .unset, .unset, .unset, .unset, .unset] [(.ref ob1)])) _
    refine XS.iload X30.here hx rfl (hb hby at_154) rfl ?_
    show Steps p.tables e below (T30.setTop (mkF m 156 #[.val (.long jl), .second, .val (.long jh), .second, .val (.int at0), .val (.ref ob1), .val (.int i1), .unset, .unset, .unset, .unset, .unset] [(.int i1), (.ref ob1)])) _
    refine st32 _ ?_
    show Steps p.tables e below (T32.setTop (mkF m 159 #[.val (.long jl), .second, .val (.long jh), .second, .val (.int at0), .val (.ref ob1), .val (.int i1), .unset, .unset, .unset, .unset, .unset] [(.int (own_last w0 w1 w2 w3 w4 w5 w6 w7))])) _
    refine XS.istore X32.here hx rfl (hb hby at_159) rfl (l' := #[.val (.long jl), .second, .val (.long jh), .second, .val (.int at0), .val (.ref ob1), .val (.int i1), .val (.int (own_last w0 w1 w2 w3 w4 w5 w6 w7)), .unset, .unset, .unset, .unset]) rfl ?_
    show Steps p.tables e below (T32.setTop (mkF m 161 #[.val (.long jl), .second, .val (.long jh), .second, .val (.int at0), .val (.ref ob1), .val (.int i1), .val (.int (own_last w0 w1 w2 w3 w4 w5 w6 w7)), .unset, .unset, .unset, .unset] [])) _
    refine XS.aload X32.here hx rfl (hb hby at_161) rfl rfl ?_
    show Steps p.tables e below (T32.setTop (mkF m 163 #[.val (.long jl), .second, .val (.long jh), .second, .val (.int at0), .val (.ref ob1), .val (.int i1), .val (.int (own_last w0 w1 w2 w3 w4 w5 w6 w7)), .unset, .unset, .unset, .unset] [(.ref ob1)])) _
    refine XS.iload X32.here hx rfl (hb hby at_163) rfl ?_
    show Steps p.tables e below (T32.setTop (mkF m 165 #[.val (.long jl), .second, .val (.long jh), .second, .val (.int at0), .val (.ref ob1), .val (.int i1), .val (.int (own_last w0 w1 w2 w3 w4 w5 w6 w7)), .unset, .unset, .unset, .unset] [(.int i1), (.ref ob1)])) _
    refine st33 _ ?_
    show Steps p.tables e below (T33.setTop (mkF m 168 #[.val (.long jl), .second, .val (.long jh), .second, .val (.int at0), .val (.ref ob1), .val (.int i1), .val (.int (own_last w0 w1 w2 w3 w4 w5 w6 w7)), .unset, .unset, .unset, .unset] [(.long (own_P0 w0))])) _
    refine XS.aload X33.here hx rfl (hb hby at_168) rfl rfl ?_
    show Steps p.tables e below (T33.setTop (mkF m 170 #[.val (.long jl), .second, .val (.long jh), .second, .val (.int at0), .val (.ref ob1), .val (.int i1), .val (.int (own_last w0 w1 w2 w3 w4 w5 w6 w7)), .unset, .unset, .unset, .unset] [(.ref ob1), (.long (own_P0 w0))])) _
    refine XS.iload X33.here hx rfl (hb hby at_170) rfl ?_
    show Steps p.tables e below (T33.setTop (mkF m 172 #[.val (.long jl), .second, .val (.long jh), .second, .val (.int at0), .val (.ref ob1), .val (.int i1), .val (.int (own_last w0 w1 w2 w3 w4 w5 w6 w7)), .unset, .unset, .unset, .unset] [(.int i1), (.ref ob1), (.long (own_P0 w0))])) _
    refine XT.iconstV X33.here hx rfl (1 : Int32) (hb hby at_172) rfl ?_
    show Steps p.tables e below (T33.setTop (mkF m 173 #[.val (.long jl), .second, .val (.long jh), .second, .val (.int at0), .val (.ref ob1), .val (.int i1), .val (.int (own_last w0 w1 w2 w3 w4 w5 w6 w7)), .unset, .unset, .unset, .unset] [(.int (1 : Int32)), (.int i1), (.ref ob1), (.long (own_P0 w0))])) _
    refine XS.iadd X33.here hx rfl (hb hby at_173) rfl ?_
    show Steps p.tables e below (T33.setTop (mkF m 174 #[.val (.long jl), .second, .val (.long jh), .second, .val (.int at0), .val (.ref ob1), .val (.int i1), .val (.int (own_last w0 w1 w2 w3 w4 w5 w6 w7)), .unset, .unset, .unset, .unset] [(.int (i1 + (1 : Int32))), (.ref ob1), (.long (own_P0 w0))])) _
    refine st34 _ ?_
    show Steps p.tables e below (T34.setTop (mkF m 177 #[.val (.long jl), .second, .val (.long jh), .second, .val (.int at0), .val (.ref ob1), .val (.int i1), .val (.int (own_last w0 w1 w2 w3 w4 w5 w6 w7)), .unset, .unset, .unset, .unset] [(.long (own_dg w1)), (.long (own_P0 w0))])) _
    refine XT.bipushV X34.here hx rfl (7 : Int32) (hb hby at_177) rfl ?_
    show Steps p.tables e below (T34.setTop (mkF m 179 #[.val (.long jl), .second, .val (.long jh), .second, .val (.int at0), .val (.ref ob1), .val (.int i1), .val (.int (own_last w0 w1 w2 w3 w4 w5 w6 w7)), .unset, .unset, .unset, .unset] [(.int (7 : Int32)), (.long (own_dg w1)), (.long (own_P0 w0))])) _
    refine XT.lshl X34.here hx rfl (hb hby at_179) rfl ?_
    show Steps p.tables e below (T34.setTop (mkF m 180 #[.val (.long jl), .second, .val (.long jh), .second, .val (.int at0), .val (.ref ob1), .val (.int i1), .val (.int (own_last w0 w1 w2 w3 w4 w5 w6 w7)), .unset, .unset, .unset, .unset] [(.long ((own_dg w1) <<< ((7 : Int32).toInt64 &&& 63))), (.long (own_P0 w0))])) _
    refine XT.lor X34.here hx rfl (hb hby at_180) rfl ?_
    show Steps p.tables e below (T34.setTop (mkF m 181 #[.val (.long jl), .second, .val (.long jh), .second, .val (.int at0), .val (.ref ob1), .val (.int i1), .val (.int (own_last w0 w1 w2 w3 w4 w5 w6 w7)), .unset, .unset, .unset, .unset] [(.long (own_P1 w0 w1))])) _
    refine XS.aload X34.here hx rfl (hb hby at_181) rfl rfl ?_
    show Steps p.tables e below (T34.setTop (mkF m 183 #[.val (.long jl), .second, .val (.long jh), .second, .val (.int at0), .val (.ref ob1), .val (.int i1), .val (.int (own_last w0 w1 w2 w3 w4 w5 w6 w7)), .unset, .unset, .unset, .unset] [(.ref ob1), (.long (own_P1 w0 w1))])) _
    refine XS.iload X34.here hx rfl (hb hby at_183) rfl ?_
    show Steps p.tables e below (T34.setTop (mkF m 185 #[.val (.long jl), .second, .val (.long jh), .second, .val (.int at0), .val (.ref ob1), .val (.int i1), .val (.int (own_last w0 w1 w2 w3 w4 w5 w6 w7)), .unset, .unset, .unset, .unset] [(.int i1), (.ref ob1), (.long (own_P1 w0 w1))])) _
    refine XT.iconstV X34.here hx rfl (2 : Int32) (hb hby at_185) rfl ?_
    show Steps p.tables e below (T34.setTop (mkF m 186 #[.val (.long jl), .second, .val (.long jh), .second, .val (.int at0), .val (.ref ob1), .val (.int i1), .val (.int (own_last w0 w1 w2 w3 w4 w5 w6 w7)), .unset, .unset, .unset, .unset] [(.int (2 : Int32)), (.int i1), (.ref ob1), (.long (own_P1 w0 w1))])) _
    refine XS.iadd X34.here hx rfl (hb hby at_186) rfl ?_
    show Steps p.tables e below (T34.setTop (mkF m 187 #[.val (.long jl), .second, .val (.long jh), .second, .val (.int at0), .val (.ref ob1), .val (.int i1), .val (.int (own_last w0 w1 w2 w3 w4 w5 w6 w7)), .unset, .unset, .unset, .unset] [(.int (i1 + (2 : Int32))), (.ref ob1), (.long (own_P1 w0 w1))])) _
    refine st35 _ ?_
    show Steps p.tables e below (T35.setTop (mkF m 190 #[.val (.long jl), .second, .val (.long jh), .second, .val (.int at0), .val (.ref ob1), .val (.int i1), .val (.int (own_last w0 w1 w2 w3 w4 w5 w6 w7)), .unset, .unset, .unset, .unset] [(.long (own_dg w2)), (.long (own_P1 w0 w1))])) _
    refine XT.bipushV X35.here hx rfl (14 : Int32) (hb hby at_190) rfl ?_
    show Steps p.tables e below (T35.setTop (mkF m 192 #[.val (.long jl), .second, .val (.long jh), .second, .val (.int at0), .val (.ref ob1), .val (.int i1), .val (.int (own_last w0 w1 w2 w3 w4 w5 w6 w7)), .unset, .unset, .unset, .unset] [(.int (14 : Int32)), (.long (own_dg w2)), (.long (own_P1 w0 w1))])) _
    refine XT.lshl X35.here hx rfl (hb hby at_192) rfl ?_
    show Steps p.tables e below (T35.setTop (mkF m 193 #[.val (.long jl), .second, .val (.long jh), .second, .val (.int at0), .val (.ref ob1), .val (.int i1), .val (.int (own_last w0 w1 w2 w3 w4 w5 w6 w7)), .unset, .unset, .unset, .unset] [(.long ((own_dg w2) <<< ((14 : Int32).toInt64 &&& 63))), (.long (own_P1 w0 w1))])) _
    refine XT.lor X35.here hx rfl (hb hby at_193) rfl ?_
    show Steps p.tables e below (T35.setTop (mkF m 194 #[.val (.long jl), .second, .val (.long jh), .second, .val (.int at0), .val (.ref ob1), .val (.int i1), .val (.int (own_last w0 w1 w2 w3 w4 w5 w6 w7)), .unset, .unset, .unset, .unset] [(.long (own_P2 w0 w1 w2))])) _
    refine XS.aload X35.here hx rfl (hb hby at_194) rfl rfl ?_
    show Steps p.tables e below (T35.setTop (mkF m 196 #[.val (.long jl), .second, .val (.long jh), .second, .val (.int at0), .val (.ref ob1), .val (.int i1), .val (.int (own_last w0 w1 w2 w3 w4 w5 w6 w7)), .unset, .unset, .unset, .unset] [(.ref ob1), (.long (own_P2 w0 w1 w2))])) _
    refine XS.iload X35.here hx rfl (hb hby at_196) rfl ?_
    show Steps p.tables e below (T35.setTop (mkF m 198 #[.val (.long jl), .second, .val (.long jh), .second, .val (.int at0), .val (.ref ob1), .val (.int i1), .val (.int (own_last w0 w1 w2 w3 w4 w5 w6 w7)), .unset, .unset, .unset, .unset] [(.int i1), (.ref ob1), (.long (own_P2 w0 w1 w2))])) _
    refine XT.iconstV X35.here hx rfl (3 : Int32) (hb hby at_198) rfl ?_
    show Steps p.tables e below (T35.setTop (mkF m 199 #[.val (.long jl), .second, .val (.long jh), .second, .val (.int at0), .val (.ref ob1), .val (.int i1), .val (.int (own_last w0 w1 w2 w3 w4 w5 w6 w7)), .unset, .unset, .unset, .unset] [(.int (3 : Int32)), (.int i1), (.ref ob1), (.long (own_P2 w0 w1 w2))])) _
    refine XS.iadd X35.here hx rfl (hb hby at_199) rfl ?_
    show Steps p.tables e below (T35.setTop (mkF m 200 #[.val (.long jl), .second, .val (.long jh), .second, .val (.int at0), .val (.ref ob1), .val (.int i1), .val (.int (own_last w0 w1 w2 w3 w4 w5 w6 w7)), .unset, .unset, .unset, .unset] [(.int (i1 + (3 : Int32))), (.ref ob1), (.long (own_P2 w0 w1 w2))])) _
    refine st36 _ ?_
    show Steps p.tables e below (T36.setTop (mkF m 203 #[.val (.long jl), .second, .val (.long jh), .second, .val (.int at0), .val (.ref ob1), .val (.int i1), .val (.int (own_last w0 w1 w2 w3 w4 w5 w6 w7)), .unset, .unset, .unset, .unset] [(.long (own_dg w3)), (.long (own_P2 w0 w1 w2))])) _
    refine XT.bipushV X36.here hx rfl (21 : Int32) (hb hby at_203) rfl ?_
    show Steps p.tables e below (T36.setTop (mkF m 205 #[.val (.long jl), .second, .val (.long jh), .second, .val (.int at0), .val (.ref ob1), .val (.int i1), .val (.int (own_last w0 w1 w2 w3 w4 w5 w6 w7)), .unset, .unset, .unset, .unset] [(.int (21 : Int32)), (.long (own_dg w3)), (.long (own_P2 w0 w1 w2))])) _
    refine XT.lshl X36.here hx rfl (hb hby at_205) rfl ?_
    show Steps p.tables e below (T36.setTop (mkF m 206 #[.val (.long jl), .second, .val (.long jh), .second, .val (.int at0), .val (.ref ob1), .val (.int i1), .val (.int (own_last w0 w1 w2 w3 w4 w5 w6 w7)), .unset, .unset, .unset, .unset] [(.long ((own_dg w3) <<< ((21 : Int32).toInt64 &&& 63))), (.long (own_P2 w0 w1 w2))])) _
    refine XT.lor X36.here hx rfl (hb hby at_206) rfl ?_
    show Steps p.tables e below (T36.setTop (mkF m 207 #[.val (.long jl), .second, .val (.long jh), .second, .val (.int at0), .val (.ref ob1), .val (.int i1), .val (.int (own_last w0 w1 w2 w3 w4 w5 w6 w7)), .unset, .unset, .unset, .unset] [(.long (own_P3 w0 w1 w2 w3))])) _
    refine XS.aload X36.here hx rfl (hb hby at_207) rfl rfl ?_
    show Steps p.tables e below (T36.setTop (mkF m 209 #[.val (.long jl), .second, .val (.long jh), .second, .val (.int at0), .val (.ref ob1), .val (.int i1), .val (.int (own_last w0 w1 w2 w3 w4 w5 w6 w7)), .unset, .unset, .unset, .unset] [(.ref ob1), (.long (own_P3 w0 w1 w2 w3))])) _
    refine XS.iload X36.here hx rfl (hb hby at_209) rfl ?_
    show Steps p.tables e below (T36.setTop (mkF m 211 #[.val (.long jl), .second, .val (.long jh), .second, .val (.int at0), .val (.ref ob1), .val (.int i1), .val (.int (own_last w0 w1 w2 w3 w4 w5 w6 w7)), .unset, .unset, .unset, .unset] [(.int i1), (.ref ob1), (.long (own_P3 w0 w1 w2 w3))])) _
    refine XT.iconstV X36.here hx rfl (4 : Int32) (hb hby at_211) rfl ?_
    show Steps p.tables e below (T36.setTop (mkF m 212 #[.val (.long jl), .second, .val (.long jh), .second, .val (.int at0), .val (.ref ob1), .val (.int i1), .val (.int (own_last w0 w1 w2 w3 w4 w5 w6 w7)), .unset, .unset, .unset, .unset] [(.int (4 : Int32)), (.int i1), (.ref ob1), (.long (own_P3 w0 w1 w2 w3))])) _
    refine XS.iadd X36.here hx rfl (hb hby at_212) rfl ?_
    show Steps p.tables e below (T36.setTop (mkF m 213 #[.val (.long jl), .second, .val (.long jh), .second, .val (.int at0), .val (.ref ob1), .val (.int i1), .val (.int (own_last w0 w1 w2 w3 w4 w5 w6 w7)), .unset, .unset, .unset, .unset] [(.int (i1 + (4 : Int32))), (.ref ob1), (.long (own_P3 w0 w1 w2 w3))])) _
    refine st37 _ ?_
    show Steps p.tables e below (T37.setTop (mkF m 216 #[.val (.long jl), .second, .val (.long jh), .second, .val (.int at0), .val (.ref ob1), .val (.int i1), .val (.int (own_last w0 w1 w2 w3 w4 w5 w6 w7)), .unset, .unset, .unset, .unset] [(.long (own_dg w4)), (.long (own_P3 w0 w1 w2 w3))])) _
    refine XT.bipushV X37.here hx rfl (28 : Int32) (hb hby at_216) rfl ?_
    show Steps p.tables e below (T37.setTop (mkF m 218 #[.val (.long jl), .second, .val (.long jh), .second, .val (.int at0), .val (.ref ob1), .val (.int i1), .val (.int (own_last w0 w1 w2 w3 w4 w5 w6 w7)), .unset, .unset, .unset, .unset] [(.int (28 : Int32)), (.long (own_dg w4)), (.long (own_P3 w0 w1 w2 w3))])) _
    refine XT.lshl X37.here hx rfl (hb hby at_218) rfl ?_
    show Steps p.tables e below (T37.setTop (mkF m 219 #[.val (.long jl), .second, .val (.long jh), .second, .val (.int at0), .val (.ref ob1), .val (.int i1), .val (.int (own_last w0 w1 w2 w3 w4 w5 w6 w7)), .unset, .unset, .unset, .unset] [(.long ((own_dg w4) <<< ((28 : Int32).toInt64 &&& 63))), (.long (own_P3 w0 w1 w2 w3))])) _
    refine XT.lor X37.here hx rfl (hb hby at_219) rfl ?_
    show Steps p.tables e below (T37.setTop (mkF m 220 #[.val (.long jl), .second, .val (.long jh), .second, .val (.int at0), .val (.ref ob1), .val (.int i1), .val (.int (own_last w0 w1 w2 w3 w4 w5 w6 w7)), .unset, .unset, .unset, .unset] [(.long (own_P4 w0 w1 w2 w3 w4))])) _
    refine XS.aload X37.here hx rfl (hb hby at_220) rfl rfl ?_
    show Steps p.tables e below (T37.setTop (mkF m 222 #[.val (.long jl), .second, .val (.long jh), .second, .val (.int at0), .val (.ref ob1), .val (.int i1), .val (.int (own_last w0 w1 w2 w3 w4 w5 w6 w7)), .unset, .unset, .unset, .unset] [(.ref ob1), (.long (own_P4 w0 w1 w2 w3 w4))])) _
    refine XS.iload X37.here hx rfl (hb hby at_222) rfl ?_
    show Steps p.tables e below (T37.setTop (mkF m 224 #[.val (.long jl), .second, .val (.long jh), .second, .val (.int at0), .val (.ref ob1), .val (.int i1), .val (.int (own_last w0 w1 w2 w3 w4 w5 w6 w7)), .unset, .unset, .unset, .unset] [(.int i1), (.ref ob1), (.long (own_P4 w0 w1 w2 w3 w4))])) _
    refine XT.iconstV X37.here hx rfl (5 : Int32) (hb hby at_224) rfl ?_
    show Steps p.tables e below (T37.setTop (mkF m 225 #[.val (.long jl), .second, .val (.long jh), .second, .val (.int at0), .val (.ref ob1), .val (.int i1), .val (.int (own_last w0 w1 w2 w3 w4 w5 w6 w7)), .unset, .unset, .unset, .unset] [(.int (5 : Int32)), (.int i1), (.ref ob1), (.long (own_P4 w0 w1 w2 w3 w4))])) _
    refine XS.iadd X37.here hx rfl (hb hby at_225) rfl ?_
    show Steps p.tables e below (T37.setTop (mkF m 226 #[.val (.long jl), .second, .val (.long jh), .second, .val (.int at0), .val (.ref ob1), .val (.int i1), .val (.int (own_last w0 w1 w2 w3 w4 w5 w6 w7)), .unset, .unset, .unset, .unset] [(.int (i1 + (5 : Int32))), (.ref ob1), (.long (own_P4 w0 w1 w2 w3 w4))])) _
    refine st38 _ ?_
    show Steps p.tables e below (T38.setTop (mkF m 229 #[.val (.long jl), .second, .val (.long jh), .second, .val (.int at0), .val (.ref ob1), .val (.int i1), .val (.int (own_last w0 w1 w2 w3 w4 w5 w6 w7)), .unset, .unset, .unset, .unset] [(.long (own_dg w5)), (.long (own_P4 w0 w1 w2 w3 w4))])) _
    refine XT.bipushV X38.here hx rfl (35 : Int32) (hb hby at_229) rfl ?_
    show Steps p.tables e below (T38.setTop (mkF m 231 #[.val (.long jl), .second, .val (.long jh), .second, .val (.int at0), .val (.ref ob1), .val (.int i1), .val (.int (own_last w0 w1 w2 w3 w4 w5 w6 w7)), .unset, .unset, .unset, .unset] [(.int (35 : Int32)), (.long (own_dg w5)), (.long (own_P4 w0 w1 w2 w3 w4))])) _
    refine XT.lshl X38.here hx rfl (hb hby at_231) rfl ?_
    show Steps p.tables e below (T38.setTop (mkF m 232 #[.val (.long jl), .second, .val (.long jh), .second, .val (.int at0), .val (.ref ob1), .val (.int i1), .val (.int (own_last w0 w1 w2 w3 w4 w5 w6 w7)), .unset, .unset, .unset, .unset] [(.long ((own_dg w5) <<< ((35 : Int32).toInt64 &&& 63))), (.long (own_P4 w0 w1 w2 w3 w4))])) _
    refine XT.lor X38.here hx rfl (hb hby at_232) rfl ?_
    show Steps p.tables e below (T38.setTop (mkF m 233 #[.val (.long jl), .second, .val (.long jh), .second, .val (.int at0), .val (.ref ob1), .val (.int i1), .val (.int (own_last w0 w1 w2 w3 w4 w5 w6 w7)), .unset, .unset, .unset, .unset] [(.long (own_P5 w0 w1 w2 w3 w4 w5))])) _
    refine XS.aload X38.here hx rfl (hb hby at_233) rfl rfl ?_
    show Steps p.tables e below (T38.setTop (mkF m 235 #[.val (.long jl), .second, .val (.long jh), .second, .val (.int at0), .val (.ref ob1), .val (.int i1), .val (.int (own_last w0 w1 w2 w3 w4 w5 w6 w7)), .unset, .unset, .unset, .unset] [(.ref ob1), (.long (own_P5 w0 w1 w2 w3 w4 w5))])) _
    refine XS.iload X38.here hx rfl (hb hby at_235) rfl ?_
    show Steps p.tables e below (T38.setTop (mkF m 237 #[.val (.long jl), .second, .val (.long jh), .second, .val (.int at0), .val (.ref ob1), .val (.int i1), .val (.int (own_last w0 w1 w2 w3 w4 w5 w6 w7)), .unset, .unset, .unset, .unset] [(.int i1), (.ref ob1), (.long (own_P5 w0 w1 w2 w3 w4 w5))])) _
    refine XT.bipushV X38.here hx rfl (6 : Int32) (hb hby at_237) rfl ?_
    show Steps p.tables e below (T38.setTop (mkF m 239 #[.val (.long jl), .second, .val (.long jh), .second, .val (.int at0), .val (.ref ob1), .val (.int i1), .val (.int (own_last w0 w1 w2 w3 w4 w5 w6 w7)), .unset, .unset, .unset, .unset] [(.int (6 : Int32)), (.int i1), (.ref ob1), (.long (own_P5 w0 w1 w2 w3 w4 w5))])) _
    refine XS.iadd X38.here hx rfl (hb hby at_239) rfl ?_
    show Steps p.tables e below (T38.setTop (mkF m 240 #[.val (.long jl), .second, .val (.long jh), .second, .val (.int at0), .val (.ref ob1), .val (.int i1), .val (.int (own_last w0 w1 w2 w3 w4 w5 w6 w7)), .unset, .unset, .unset, .unset] [(.int (i1 + (6 : Int32))), (.ref ob1), (.long (own_P5 w0 w1 w2 w3 w4 w5))])) _
    refine st39 _ ?_
    show Steps p.tables e below (T39.setTop (mkF m 243 #[.val (.long jl), .second, .val (.long jh), .second, .val (.int at0), .val (.ref ob1), .val (.int i1), .val (.int (own_last w0 w1 w2 w3 w4 w5 w6 w7)), .unset, .unset, .unset, .unset] [(.long (own_dg w6)), (.long (own_P5 w0 w1 w2 w3 w4 w5))])) _
    refine XT.bipushV X39.here hx rfl (42 : Int32) (hb hby at_243) rfl ?_
    show Steps p.tables e below (T39.setTop (mkF m 245 #[.val (.long jl), .second, .val (.long jh), .second, .val (.int at0), .val (.ref ob1), .val (.int i1), .val (.int (own_last w0 w1 w2 w3 w4 w5 w6 w7)), .unset, .unset, .unset, .unset] [(.int (42 : Int32)), (.long (own_dg w6)), (.long (own_P5 w0 w1 w2 w3 w4 w5))])) _
    refine XT.lshl X39.here hx rfl (hb hby at_245) rfl ?_
    show Steps p.tables e below (T39.setTop (mkF m 246 #[.val (.long jl), .second, .val (.long jh), .second, .val (.int at0), .val (.ref ob1), .val (.int i1), .val (.int (own_last w0 w1 w2 w3 w4 w5 w6 w7)), .unset, .unset, .unset, .unset] [(.long ((own_dg w6) <<< ((42 : Int32).toInt64 &&& 63))), (.long (own_P5 w0 w1 w2 w3 w4 w5))])) _
    refine XT.lor X39.here hx rfl (hb hby at_246) rfl ?_
    show Steps p.tables e below (T39.setTop (mkF m 247 #[.val (.long jl), .second, .val (.long jh), .second, .val (.int at0), .val (.ref ob1), .val (.int i1), .val (.int (own_last w0 w1 w2 w3 w4 w5 w6 w7)), .unset, .unset, .unset, .unset] [(.long (own_P6 w0 w1 w2 w3 w4 w5 w6))])) _
    refine XS.aload X39.here hx rfl (hb hby at_247) rfl rfl ?_
    show Steps p.tables e below (T39.setTop (mkF m 249 #[.val (.long jl), .second, .val (.long jh), .second, .val (.int at0), .val (.ref ob1), .val (.int i1), .val (.int (own_last w0 w1 w2 w3 w4 w5 w6 w7)), .unset, .unset, .unset, .unset] [(.ref ob1), (.long (own_P6 w0 w1 w2 w3 w4 w5 w6))])) _
    refine XS.iload X39.here hx rfl (hb hby at_249) rfl ?_
    show Steps p.tables e below (T39.setTop (mkF m 251 #[.val (.long jl), .second, .val (.long jh), .second, .val (.int at0), .val (.ref ob1), .val (.int i1), .val (.int (own_last w0 w1 w2 w3 w4 w5 w6 w7)), .unset, .unset, .unset, .unset] [(.int i1), (.ref ob1), (.long (own_P6 w0 w1 w2 w3 w4 w5 w6))])) _
    refine XT.bipushV X39.here hx rfl (7 : Int32) (hb hby at_251) rfl ?_
    show Steps p.tables e below (T39.setTop (mkF m 253 #[.val (.long jl), .second, .val (.long jh), .second, .val (.int at0), .val (.ref ob1), .val (.int i1), .val (.int (own_last w0 w1 w2 w3 w4 w5 w6 w7)), .unset, .unset, .unset, .unset] [(.int (7 : Int32)), (.int i1), (.ref ob1), (.long (own_P6 w0 w1 w2 w3 w4 w5 w6))])) _
    refine XS.iadd X39.here hx rfl (hb hby at_253) rfl ?_
    show Steps p.tables e below (T39.setTop (mkF m 254 #[.val (.long jl), .second, .val (.long jh), .second, .val (.int at0), .val (.ref ob1), .val (.int i1), .val (.int (own_last w0 w1 w2 w3 w4 w5 w6 w7)), .unset, .unset, .unset, .unset] [(.int (i1 + (7 : Int32))), (.ref ob1), (.long (own_P6 w0 w1 w2 w3 w4 w5 w6))])) _
    refine st40 _ ?_
    show Steps p.tables e below (T40.setTop (mkF m 257 #[.val (.long jl), .second, .val (.long jh), .second, .val (.int at0), .val (.ref ob1), .val (.int i1), .val (.int (own_last w0 w1 w2 w3 w4 w5 w6 w7)), .unset, .unset, .unset, .unset] [(.long (own_dg w7)), (.long (own_P6 w0 w1 w2 w3 w4 w5 w6))])) _
    refine XT.bipushV X40.here hx rfl (49 : Int32) (hb hby at_257) rfl ?_
    show Steps p.tables e below (T40.setTop (mkF m 259 #[.val (.long jl), .second, .val (.long jh), .second, .val (.int at0), .val (.ref ob1), .val (.int i1), .val (.int (own_last w0 w1 w2 w3 w4 w5 w6 w7)), .unset, .unset, .unset, .unset] [(.int (49 : Int32)), (.long (own_dg w7)), (.long (own_P6 w0 w1 w2 w3 w4 w5 w6))])) _
    refine XT.lshl X40.here hx rfl (hb hby at_259) rfl ?_
    show Steps p.tables e below (T40.setTop (mkF m 260 #[.val (.long jl), .second, .val (.long jh), .second, .val (.int at0), .val (.ref ob1), .val (.int i1), .val (.int (own_last w0 w1 w2 w3 w4 w5 w6 w7)), .unset, .unset, .unset, .unset] [(.long ((own_dg w7) <<< ((49 : Int32).toInt64 &&& 63))), (.long (own_P6 w0 w1 w2 w3 w4 w5 w6))])) _
    refine XT.lor X40.here hx rfl (hb hby at_260) rfl ?_
    show Steps p.tables e below (T40.setTop (mkF m 261 #[.val (.long jl), .second, .val (.long jh), .second, .val (.int at0), .val (.ref ob1), .val (.int i1), .val (.int (own_last w0 w1 w2 w3 w4 w5 w6 w7)), .unset, .unset, .unset, .unset] [(.long (own_P7 w0 w1 w2 w3 w4 w5 w6 w7))])) _
    refine XS.aload X40.here hx rfl (hb hby at_261) rfl rfl ?_
    show Steps p.tables e below (T40.setTop (mkF m 263 #[.val (.long jl), .second, .val (.long jh), .second, .val (.int at0), .val (.ref ob1), .val (.int i1), .val (.int (own_last w0 w1 w2 w3 w4 w5 w6 w7)), .unset, .unset, .unset, .unset] [(.ref ob1), (.long (own_P7 w0 w1 w2 w3 w4 w5 w6 w7))])) _
    refine XS.iload X40.here hx rfl (hb hby at_263) rfl ?_
    show Steps p.tables e below (T40.setTop (mkF m 265 #[.val (.long jl), .second, .val (.long jh), .second, .val (.int at0), .val (.ref ob1), .val (.int i1), .val (.int (own_last w0 w1 w2 w3 w4 w5 w6 w7)), .unset, .unset, .unset, .unset] [(.int i1), (.ref ob1), (.long (own_P7 w0 w1 w2 w3 w4 w5 w6 w7))])) _
    refine XT.bipushV X40.here hx rfl (8 : Int32) (hb hby at_265) rfl ?_
    show Steps p.tables e below (T40.setTop (mkF m 267 #[.val (.long jl), .second, .val (.long jh), .second, .val (.int at0), .val (.ref ob1), .val (.int i1), .val (.int (own_last w0 w1 w2 w3 w4 w5 w6 w7)), .unset, .unset, .unset, .unset] [(.int (8 : Int32)), (.int i1), (.ref ob1), (.long (own_P7 w0 w1 w2 w3 w4 w5 w6 w7))])) _
    refine XS.iadd X40.here hx rfl (hb hby at_267) rfl ?_
    show Steps p.tables e below (T40.setTop (mkF m 268 #[.val (.long jl), .second, .val (.long jh), .second, .val (.int at0), .val (.ref ob1), .val (.int i1), .val (.int (own_last w0 w1 w2 w3 w4 w5 w6 w7)), .unset, .unset, .unset, .unset] [(.int (i1 + (8 : Int32))), (.ref ob1), (.long (own_P7 w0 w1 w2 w3 w4 w5 w6 w7))])) _
    refine st41 _ ?_
    show Steps p.tables e below (T41.setTop (mkF m 271 #[.val (.long jl), .second, .val (.long jh), .second, .val (.int at0), .val (.ref ob1), .val (.int i1), .val (.int (own_last w0 w1 w2 w3 w4 w5 w6 w7)), .unset, .unset, .unset, .unset] [(.long (own_dg w8)), (.long (own_P7 w0 w1 w2 w3 w4 w5 w6 w7))])) _
    refine XT.bipushV X41.here hx rfl (56 : Int32) (hb hby at_271) rfl ?_
    show Steps p.tables e below (T41.setTop (mkF m 273 #[.val (.long jl), .second, .val (.long jh), .second, .val (.int at0), .val (.ref ob1), .val (.int i1), .val (.int (own_last w0 w1 w2 w3 w4 w5 w6 w7)), .unset, .unset, .unset, .unset] [(.int (56 : Int32)), (.long (own_dg w8)), (.long (own_P7 w0 w1 w2 w3 w4 w5 w6 w7))])) _
    refine XT.lshl X41.here hx rfl (hb hby at_273) rfl ?_
    show Steps p.tables e below (T41.setTop (mkF m 274 #[.val (.long jl), .second, .val (.long jh), .second, .val (.int at0), .val (.ref ob1), .val (.int i1), .val (.int (own_last w0 w1 w2 w3 w4 w5 w6 w7)), .unset, .unset, .unset, .unset] [(.long ((own_dg w8) <<< ((56 : Int32).toInt64 &&& 63))), (.long (own_P7 w0 w1 w2 w3 w4 w5 w6 w7))])) _
    refine XT.lor X41.here hx rfl (hb hby at_274) rfl ?_
    show Steps p.tables e below (T41.setTop (mkF m 275 #[.val (.long jl), .second, .val (.long jh), .second, .val (.int at0), .val (.ref ob1), .val (.int i1), .val (.int (own_last w0 w1 w2 w3 w4 w5 w6 w7)), .unset, .unset, .unset, .unset] [(.long (own_P8 w0 w1 w2 w3 w4 w5 w6 w7 w8))])) _
    refine XT.lstore X41.here hx rfl (hb hby at_275) rfl (l' := #[.val (.long jl), .second, .val (.long jh), .second, .val (.int at0), .val (.ref ob1), .val (.int i1), .val (.int (own_last w0 w1 w2 w3 w4 w5 w6 w7)), .val (.long (own_P8 w0 w1 w2 w3 w4 w5 w6 w7 w8)), .second, .unset, .unset]) rfl ?_
    show Steps p.tables e below (T41.setTop (mkF m 277 #[.val (.long jl), .second, .val (.long jh), .second, .val (.int at0), .val (.ref ob1), .val (.int i1), .val (.int (own_last w0 w1 w2 w3 w4 w5 w6 w7)), .val (.long (own_P8 w0 w1 w2 w3 w4 w5 w6 w7 w8)), .second, .unset, .unset] [])) _
    refine XT.lconstV X41.here hx rfl (1 : Int64) (hb hby at_277) rfl ?_
    show Steps p.tables e below (T41.setTop (mkF m 278 #[.val (.long jl), .second, .val (.long jh), .second, .val (.int at0), .val (.ref ob1), .val (.int i1), .val (.int (own_last w0 w1 w2 w3 w4 w5 w6 w7)), .val (.long (own_P8 w0 w1 w2 w3 w4 w5 w6 w7 w8)), .second, .unset, .unset] [(.long (1 : Int64))])) _
    refine XT.bipushV X41.here hx rfl (7 : Int32) (hb hby at_278) rfl ?_
    show Steps p.tables e below (T41.setTop (mkF m 280 #[.val (.long jl), .second, .val (.long jh), .second, .val (.int at0), .val (.ref ob1), .val (.int i1), .val (.int (own_last w0 w1 w2 w3 w4 w5 w6 w7)), .val (.long (own_P8 w0 w1 w2 w3 w4 w5 w6 w7 w8)), .second, .unset, .unset] [(.int (7 : Int32)), (.long (1 : Int64))])) _
    refine XS.iload X41.here hx rfl (hb hby at_280) rfl ?_
    show Steps p.tables e below (T41.setTop (mkF m 282 #[.val (.long jl), .second, .val (.long jh), .second, .val (.int at0), .val (.ref ob1), .val (.int i1), .val (.int (own_last w0 w1 w2 w3 w4 w5 w6 w7)), .val (.long (own_P8 w0 w1 w2 w3 w4 w5 w6 w7 w8)), .second, .unset, .unset] [(.int (own_last w0 w1 w2 w3 w4 w5 w6 w7)), (.int (7 : Int32)), (.long (1 : Int64))])) _
    refine XT.iconstV X41.here hx rfl (1 : Int32) (hb hby at_282) rfl ?_
    show Steps p.tables e below (T41.setTop (mkF m 283 #[.val (.long jl), .second, .val (.long jh), .second, .val (.int at0), .val (.ref ob1), .val (.int i1), .val (.int (own_last w0 w1 w2 w3 w4 w5 w6 w7)), .val (.long (own_P8 w0 w1 w2 w3 w4 w5 w6 w7 w8)), .second, .unset, .unset] [(.int (1 : Int32)), (.int (own_last w0 w1 w2 w3 w4 w5 w6 w7)), (.int (7 : Int32)), (.long (1 : Int64))])) _
    refine XS.iadd X41.here hx rfl (hb hby at_283) rfl ?_
    show Steps p.tables e below (T41.setTop (mkF m 284 #[.val (.long jl), .second, .val (.long jh), .second, .val (.int at0), .val (.ref ob1), .val (.int i1), .val (.int (own_last w0 w1 w2 w3 w4 w5 w6 w7)), .val (.long (own_P8 w0 w1 w2 w3 w4 w5 w6 w7 w8)), .second, .unset, .unset] [(.int ((own_last w0 w1 w2 w3 w4 w5 w6 w7) + (1 : Int32))), (.int (7 : Int32)), (.long (1 : Int64))])) _
    refine XS.imul X41.here hx rfl (hb hby at_284) rfl ?_
    show Steps p.tables e below (T41.setTop (mkF m 285 #[.val (.long jl), .second, .val (.long jh), .second, .val (.int at0), .val (.ref ob1), .val (.int i1), .val (.int (own_last w0 w1 w2 w3 w4 w5 w6 w7)), .val (.long (own_P8 w0 w1 w2 w3 w4 w5 w6 w7 w8)), .second, .unset, .unset] [(.int ((7 : Int32) * ((own_last w0 w1 w2 w3 w4 w5 w6 w7) + (1 : Int32)))), (.long (1 : Int64))])) _
    refine XT.lshl X41.here hx rfl (hb hby at_285) rfl ?_
    show Steps p.tables e below (T41.setTop (mkF m 286 #[.val (.long jl), .second, .val (.long jh), .second, .val (.int at0), .val (.ref ob1), .val (.int i1), .val (.int (own_last w0 w1 w2 w3 w4 w5 w6 w7)), .val (.long (own_P8 w0 w1 w2 w3 w4 w5 w6 w7 w8)), .second, .unset, .unset] [(.long ((1 : Int64) <<< (((7 : Int32) * ((own_last w0 w1 w2 w3 w4 w5 w6 w7) + (1 : Int32))).toInt64 &&& 63)))])) _
    refine XT.lconstV X41.here hx rfl (1 : Int64) (hb hby at_286) rfl ?_
    show Steps p.tables e below (T41.setTop (mkF m 287 #[.val (.long jl), .second, .val (.long jh), .second, .val (.int at0), .val (.ref ob1), .val (.int i1), .val (.int (own_last w0 w1 w2 w3 w4 w5 w6 w7)), .val (.long (own_P8 w0 w1 w2 w3 w4 w5 w6 w7 w8)), .second, .unset, .unset] [(.long (1 : Int64)), (.long ((1 : Int64) <<< (((7 : Int32) * ((own_last w0 w1 w2 w3 w4 w5 w6 w7) + (1 : Int32))).toInt64 &&& 63)))])) _
    refine XT.lsub X41.here hx rfl (hb hby at_287) rfl ?_
    show Steps p.tables e below (T41.setTop (mkF m 288 #[.val (.long jl), .second, .val (.long jh), .second, .val (.int at0), .val (.ref ob1), .val (.int i1), .val (.int (own_last w0 w1 w2 w3 w4 w5 w6 w7)), .val (.long (own_P8 w0 w1 w2 w3 w4 w5 w6 w7 w8)), .second, .unset, .unset] [(.long (((1 : Int64) <<< (((7 : Int32) * ((own_last w0 w1 w2 w3 w4 w5 w6 w7) + (1 : Int32))).toInt64 &&& 63)) - (1 : Int64)))])) _
    refine XT.lstore X41.here hx rfl (hb hby at_288) rfl (l' := #[.val (.long jl), .second, .val (.long jh), .second, .val (.int at0), .val (.ref ob1), .val (.int i1), .val (.int (own_last w0 w1 w2 w3 w4 w5 w6 w7)), .val (.long (own_P8 w0 w1 w2 w3 w4 w5 w6 w7 w8)), .second, .val (.long (((1 : Int64) <<< (((7 : Int32) * ((own_last w0 w1 w2 w3 w4 w5 w6 w7) + (1 : Int32))).toInt64 &&& 63)) - (1 : Int64))), .second]) rfl ?_
    show Steps p.tables e below (T41.setTop (mkF m 290 #[.val (.long jl), .second, .val (.long jh), .second, .val (.int at0), .val (.ref ob1), .val (.int i1), .val (.int (own_last w0 w1 w2 w3 w4 w5 w6 w7)), .val (.long (own_P8 w0 w1 w2 w3 w4 w5 w6 w7 w8)), .second, .val (.long (own_msk (own_last w0 w1 w2 w3 w4 w5 w6 w7))), .second] [])) _
    refine XS.aload X41.here hx rfl (hb hby at_290) rfl rfl ?_
    show Steps p.tables e below (T41.setTop (mkF m 292 #[.val (.long jl), .second, .val (.long jh), .second, .val (.int at0), .val (.ref ob1), .val (.int i1), .val (.int (own_last w0 w1 w2 w3 w4 w5 w6 w7)), .val (.long (own_P8 w0 w1 w2 w3 w4 w5 w6 w7 w8)), .second, .val (.long (own_msk (own_last w0 w1 w2 w3 w4 w5 w6 w7))), .second] [(.ref ob1)])) _
    refine XS.iload X41.here hx rfl (hb hby at_292) rfl ?_
    show Steps p.tables e below (T41.setTop (mkF m 294 #[.val (.long jl), .second, .val (.long jh), .second, .val (.int at0), .val (.ref ob1), .val (.int i1), .val (.int (own_last w0 w1 w2 w3 w4 w5 w6 w7)), .val (.long (own_P8 w0 w1 w2 w3 w4 w5 w6 w7 w8)), .second, .val (.long (own_msk (own_last w0 w1 w2 w3 w4 w5 w6 w7))), .second] [(.int i1), (.ref ob1)])) _
    refine st42 _ ?_
    show Steps p.tables e below (T42.setTop (mkF m 297 #[.val (.long jl), .second, .val (.long jh), .second, .val (.int at0), .val (.ref ob1), .val (.int i1), .val (.int (own_last w0 w1 w2 w3 w4 w5 w6 w7)), .val (.long (own_P8 w0 w1 w2 w3 w4 w5 w6 w7 w8)), .second, .val (.long (own_msk (own_last w0 w1 w2 w3 w4 w5 w6 w7))), .second] [(.long (own_rd w0 w1 w2 w3 w4 w5 w6 w7 w8))])) _
    refine XT.lload X42.here hx rfl (hb hby at_297) rfl ?_
    show Steps p.tables e below (T42.setTop (mkF m 299 #[.val (.long jl), .second, .val (.long jh), .second, .val (.int at0), .val (.ref ob1), .val (.int i1), .val (.int (own_last w0 w1 w2 w3 w4 w5 w6 w7)), .val (.long (own_P8 w0 w1 w2 w3 w4 w5 w6 w7 w8)), .second, .val (.long (own_msk (own_last w0 w1 w2 w3 w4 w5 w6 w7))), .second] [(.long (own_P8 w0 w1 w2 w3 w4 w5 w6 w7 w8)), (.long (own_rd w0 w1 w2 w3 w4 w5 w6 w7 w8))])) _
    refine XT.lload X42.here hx rfl (hb hby at_299) rfl ?_
    show Steps p.tables e below (T42.setTop (mkF m 301 #[.val (.long jl), .second, .val (.long jh), .second, .val (.int at0), .val (.ref ob1), .val (.int i1), .val (.int (own_last w0 w1 w2 w3 w4 w5 w6 w7)), .val (.long (own_P8 w0 w1 w2 w3 w4 w5 w6 w7 w8)), .second, .val (.long (own_msk (own_last w0 w1 w2 w3 w4 w5 w6 w7))), .second] [(.long (own_msk (own_last w0 w1 w2 w3 w4 w5 w6 w7))), (.long (own_P8 w0 w1 w2 w3 w4 w5 w6 w7 w8)), (.long (own_rd w0 w1 w2 w3 w4 w5 w6 w7 w8))])) _
    refine XT.land X42.here hx rfl (hb hby at_301) rfl ?_
    show Steps p.tables e below (T42.setTop (mkF m 302 #[.val (.long jl), .second, .val (.long jh), .second, .val (.int at0), .val (.ref ob1), .val (.int i1), .val (.int (own_last w0 w1 w2 w3 w4 w5 w6 w7)), .val (.long (own_P8 w0 w1 w2 w3 w4 w5 w6 w7 w8)), .second, .val (.long (own_msk (own_last w0 w1 w2 w3 w4 w5 w6 w7))), .second] [(.long ((own_P8 w0 w1 w2 w3 w4 w5 w6 w7 w8) &&& (own_msk (own_last w0 w1 w2 w3 w4 w5 w6 w7)))), (.long (own_rd w0 w1 w2 w3 w4 w5 w6 w7 w8))])) _
    refine XT.lcmp X42.here hx rfl (hb hby at_302) rfl ?_
    show Steps p.tables e below (T42.setTop (mkF m 303 #[.val (.long jl), .second, .val (.long jh), .second, .val (.int at0), .val (.ref ob1), .val (.int i1), .val (.int (own_last w0 w1 w2 w3 w4 w5 w6 w7)), .val (.long (own_P8 w0 w1 w2 w3 w4 w5 w6 w7 w8)), .second, .val (.long (own_msk (own_last w0 w1 w2 w3 w4 w5 w6 w7))), .second] [(.int (XT.cmpL (own_rd w0 w1 w2 w3 w4 w5 w6 w7 w8) ((own_P8 w0 w1 w2 w3 w4 w5 w6 w7 w8) &&& (own_msk (own_last w0 w1 w2 w3 w4 w5 w6 w7)))))])) _
    refine XS.ifNo X42.here hx rfl (hb hby at_303) rfl (XT.ll_ne_f (own_law w0 w1 w2 w3 w4 w5 w6 w7 w8)) ?_
    show Steps p.tables e below (T42.setTop (mkF m 306 #[.val (.long jl), .second, .val (.long jh), .second, .val (.int at0), .val (.ref ob1), .val (.int i1), .val (.int (own_last w0 w1 w2 w3 w4 w5 w6 w7)), .val (.long (own_P8 w0 w1 w2 w3 w4 w5 w6 w7 w8)), .second, .val (.long (own_msk (own_last w0 w1 w2 w3 w4 w5 w6 w7))), .second] [])) _
    refine XT.iconstV X42.here hx rfl (1 : Int32) (hb hby at_306) rfl ?_
    show Steps p.tables e below (T42.setTop (mkF m 307 #[.val (.long jl), .second, .val (.long jh), .second, .val (.int at0), .val (.ref ob1), .val (.int i1), .val (.int (own_last w0 w1 w2 w3 w4 w5 w6 w7)), .val (.long (own_P8 w0 w1 w2 w3 w4 w5 w6 w7 w8)), .second, .val (.long (own_msk (own_last w0 w1 w2 w3 w4 w5 w6 w7))), .second] [(.int (1 : Int32))])) _
    refine XS.goto X42.here hx rfl (pc0 := 307) (pc' := 311) rfl (hb hby at_307) (by decide) (by decide) ?_
    show Steps p.tables e below (T42.setTop (mkF m 311 #[.val (.long jl), .second, .val (.long jh), .second, .val (.int at0), .val (.ref ob1), .val (.int i1), .val (.int (own_last w0 w1 w2 w3 w4 w5 w6 w7)), .val (.long (own_P8 w0 w1 w2 w3 w4 w5 w6 w7 w8)), .second, .val (.long (own_msk (own_last w0 w1 w2 w3 w4 w5 w6 w7))), .second] [(.int (1 : Int32))])) _
    exact retN X42 hx (t := .boolean) Bd.returns (by simp) (hb hby at_311) hr
  · show own_Q0 Z jl jh at0 h0 n0 _ T42.heap _
    exact ⟨rfl, N42⟩
set_option maxRecDepth 65536 in
set_option maxHeartbeats 40000000 in
theorem comes_1 {Post : Tables → Env → Array Value → State → Outcome → State → Prop} (hpost : ∀ tb e args s v u, (limb_1_1.after args s (.returned v) u = true ∧ limb_1_2.after args s (.returned v) u = true ∧ True) → FrameEnd s (.returned v) u (Jvm.fieldLocs frame_1_writes args s ++ Jvm.arrayLocs frame_1_arrays args s ++ Jvm.staticLocs frame_1_statics s) 16 128 → Post tb e args s (.returned v) u) :
    ArmFor flags0 classFile x code maxLocals ret World_1 tables_1 room_1 Calls_1 rest_1 Pre_1 Post := by
  intro l hfl _ _ p e ha hc hk s m args below hf hA hF happ hP
  obtain ⟨hcalls, hrest, hpre⟩ := hP
  obtain ⟨-, -, -, hnamed, -, -, -, hat⟩ := (Spec.applies_iff hf).mp happ
  obtain ⟨hg, hn⟩ := and_e (Cond.before_iff.mp (show (Jvm.Cond.and given_1 narrow_1).before args s = true from hpre))
  obtain ⟨gc, gr0⟩ := and_e hg
  obtain ⟨ga0, gr1⟩ := and_e gr0
  obtain ⟨ga1, gr2⟩ := and_e gr1
  obtain ⟨w0, w1, w2, rfl⟩ : ∃ w0 w1 w2 : Value, args = #[w0, w1, w2] := by
    have hs : args.size = 3 := by simpa [Cond.value, given_1] using gc
    obtain ⟨L⟩ := args
    match L, hs with
    | [w0, w1, w2], _ => exact ⟨w0, w1, w2, rfl⟩
  have hw := fun d (hd : d ∈ tables_1) => atoms_spec (ws := Jvm.Cond.code x code maxLocals ret :: tables_1) hat d (List.mem_cons_of_mem _ hd)
  obtain ⟨i0, ei0⟩ := isL_v ga0
  obtain rfl : w0 = (.long i0) := Option.some.inj ei0
  obtain ⟨i1, ei1⟩ := isL_v ga1
  obtain rfl : w1 = (.long i1) := Option.some.inj ei1
  obtain ⟨i2, ei2⟩ := is_v gr2
  obtain rfl : w2 = (.int i2) := Option.some.inj ei2
  obtain ⟨n, o, h1, h2, h3, _, L, rfl, ⟨rfl, N⟩, hq⟩ := own_rm0 l s _ hw tables_1 i0 i1 i2 s.heap s.heap.size (Nat.le_refl _) p e ha hc hk s m _ below hf ((Spec.applies_iff_loose hf).mp happ).1 ⟨rfl, State.Warmed39.refl s, rfl⟩ trivial
  refine ⟨n, _, h1, h2, h3, hpost _ _ _ _ _ _ ⟨Cond.after_iff.mpr rfl, Cond.after_iff.mpr (eq_i res_at (Term.int_eval (1)) rfl), trivial⟩ ⟨hq.1, hq.2.1, (hq.2.2.sift fun y hy => Or.inr (N y hy)).mono (by decide) (by decide)⟩⟩
theorem main_1_1 : Claimed_1_1 := comes_1 fun _ _ _ _ _ _ h hF => ⟨h.1, hF⟩
theorem main_1_2 : Claimed_1_2 := comes_1 fun _ _ _ _ _ _ h hF => ⟨h.2.1, hF⟩
end Jvm.Pilot.@@N@@
namespace Jvm.Pilot.@@N@@
open Jvm Jvm.ClassFile Sem Op Lib Jvm.Free Jvm.Stand Jvm.Pilot.@@N@@.Jvm.D
/-! MADE BY PROGRAM (witnessworld.py) out of the Statement's table words and the real class files: 9 classes; the members and pool entries that the words name. The judged class is class 1, her method 1. -/
namespace start1
open Jvm.ClassFile
def u (s : String) : CpInfo := .utf8 (stringToUtf16 s)
/-- a pool by its gaps: so many unusable entries, then the entry; so many at the end -/
def gap : Nat → List CpInfo → List CpInfo
  | 0, r => r
  | n + 1, r => .unusable :: gap n r
def poolList (es : List (Nat × CpInfo)) (last : Nat) : List CpInfo := es.foldr (fun e r => gap e.1 (e.2 :: r)) (gap last [])
def pool (es : List (Nat × CpInfo)) (last : Nat) : Array CpInfo := ⟨poolList es last⟩
def fileOf (pool : Array CpInfo) (this : Nat) (attrs : Array Attribute := #[]) (ms : Array MethodInfo := #[]) (fl : Nat := 33) (sup : Nat := 0) (ifs : Array Nat := #[]) (fds : Array FieldInfo := #[]) : ClassFile where
  minorVersion := 0
  majorVersion := 65
  constantPool := pool
  accessFlags := fl
  thisClass := this
  superClass := sup
  interfaces := ifs
  fields := fds
  methods := ms
  attributes := attrs
def plain (name : String) (sup : Option ClassId) : Class where
  name := name
  kind := .ordinary
  loader := none
  accessFlags := 33
  super := sup
  interfaces := #[]
  cf := none
  fields := #[]
  methods := #[]
  instanceTypes := #[]
  staticTypes := #[]
  resolved := #[]
  callSites := []
  init := .initialized
  statics := none
  mirror := none

def pool0 : Array CpInfo := pool [(5, u "<init>"), (0, u "()V"), (1, .class_ 10), (1, u "java/lang/Object")] 113

def k0m0 : Method := { name := "<init>", desc := "()V", sig := { parameters := [], returnType := none }, accessFlags := 1, code := none }
/-- java/lang/Object -/
def k0 : Class := { plain "java/lang/Object" none with
  accessFlags := 33
  interfaces := #[]
  cf := some (fileOf pool0 8 #[] #[{ accessFlags := 1, nameIndex := 5, descriptorIndex := 6, attributes := #[] }] 33 0 #[] #[])
  fields := #[]
  methods := #[k0m0]
  instanceTypes := #[]
  staticTypes := #[]
  resolved := Array.replicate 124 none
  statics := none }

def pool1 : Array CpInfo := pool [(2, .class_ 4), (1, u "java/lang/Object"), (0, u "<init>"), (0, u "()V"), (0, .methodref 8 9), (0, .class_ 10), (0, .nameAndType 11 12), (0, u "com/example/plainsong/plainsong/PackedTextsReadNumberPinLaw"), (0, u "last"), (0, u "([BI)I"), (0, .methodref 8 14), (0, .nameAndType 15 16), (0, u "d"), (0, u "([BI)J"), (0, .methodref 18 19), (0, .class_ 20), (0, .nameAndType 21 16), (0, u "com/example/plainsong/plainsong/PackedTexts"), (0, u "readNumber"), (2, u "law"), (0, u "(JJI)Z")] 5

def k1m0 : Method := { name := "<init>", desc := "()V", sig := { parameters := [], returnType := none }, accessFlags := 1, code := none }
def k1c1 : Code := { maxStack := 6, maxLocals := 12, code := code, exceptionTable := #[], attributes := #[] }
def k1m1 : Method := { name := "law", desc := "(JJI)Z", sig := { parameters := [.long, .long, .int], returnType := some .boolean }, accessFlags := 9, code := some k1c1 }
def k1c2 : Code := { maxStack := 2, maxLocals := 2, code := method_3_code, exceptionTable := #[], attributes := #[] }
def k1m2 : Method := { name := "d", desc := "([BI)J", sig := { parameters := [(.array .byte), .int], returnType := some .long }, accessFlags := 10, code := some k1c2 }
def k1c3 : Code := { maxStack := 3, maxLocals := 2, code := method_4_code, exceptionTable := #[], attributes := #[] }
def k1m3 : Method := { name := "last", desc := "([BI)I", sig := { parameters := [(.array .byte), .int], returnType := some .int }, accessFlags := 10, code := some k1c3 }
/-- com/example/plainsong/plainsong/PackedTextsReadNumberPinLaw -/
def k1 : Class := { plain "com/example/plainsong/plainsong/PackedTextsReadNumberPinLaw" (some 0) with
  accessFlags := 49
  interfaces := #[]
  cf := some (fileOf pool1 8 #[] #[{ accessFlags := 1, nameIndex := 5, descriptorIndex := 6, attributes := #[] }, { accessFlags := 9, nameIndex := 24, descriptorIndex := 25, attributes := #[] }, { accessFlags := 10, nameIndex := 15, descriptorIndex := 16, attributes := #[] }, { accessFlags := 10, nameIndex := 11, descriptorIndex := 12, attributes := #[] }] 49 2 #[] #[])
  fields := #[]
  methods := #[k1m0, k1m1, k1m2, k1m3]
  instanceTypes := #[]
  staticTypes := #[]
  resolved := Array.replicate 31 none
  statics := none }

def pool2 : Array CpInfo := pool [(2, .class_ 4), (1, u "java/lang/Object"), (0, u "<init>"), (0, u "()V"), (1, .class_ 10), (1, u "com/example/plainsong/plainsong/PackedTexts"), (0, u "bytes"), (0, u "[B"), (2, u "starts"), (0, u "[I"), (6, u "length"), (0, u "I"), (14, u "count"), (37, u "readNumber"), (0, u "([BI)J")] 33

def k2m0 : Method := { name := "<init>", desc := "()V", sig := { parameters := [], returnType := none }, accessFlags := 0, code := none }
def k2c1 : Code := { maxStack := 5, maxLocals := 7, code := prog_54_method_11_code, exceptionTable := #[], attributes := #[] }
def k2m1 : Method := { name := "readNumber", desc := "([BI)J", sig := { parameters := [(.array .byte), .int], returnType := some .long }, accessFlags := 8, code := some k2c1 }
/-- com/example/plainsong/plainsong/PackedTexts -/
def k2 : Class := { plain "com/example/plainsong/plainsong/PackedTexts" (some 0) with
  accessFlags := 48
  interfaces := #[]
  cf := some (fileOf pool2 8 #[] #[{ accessFlags := 0, nameIndex := 5, descriptorIndex := 6, attributes := #[] }, { accessFlags := 8, nameIndex := 77, descriptorIndex := 78, attributes := #[] }] 48 2 #[] #[{ accessFlags := 2, nameIndex := 11, descriptorIndex := 12, attributes := #[] }, { accessFlags := 2, nameIndex := 23, descriptorIndex := 24, attributes := #[] }, { accessFlags := 2, nameIndex := 15, descriptorIndex := 16, attributes := #[] }, { accessFlags := 2, nameIndex := 39, descriptorIndex := 24, attributes := #[] }])
  fields := #[{ name := "bytes", type := (.array .byte), accessFlags := 2, slot := 0, constantValue := 0 }, { name := "length", type := .int, accessFlags := 2, slot := 1, constantValue := 0 }, { name := "starts", type := (.array .int), accessFlags := 2, slot := 2, constantValue := 0 }, { name := "count", type := .int, accessFlags := 2, slot := 3, constantValue := 0 }]
  methods := #[k2m0, k2m1]
  instanceTypes := #[(.array .byte), .int, (.array .int), .int]
  staticTypes := #[]
  resolved := Array.replicate 112 none
  statics := none }

def pool3 : Array CpInfo := pool [(1, u "java/lang/Cloneable"), (0, .class_ 1), (0, u "java/lang/Object"), (0, .class_ 3)] 3

/-- java/lang/Cloneable -/
def k3 : Class := { plain "java/lang/Cloneable" (some 0) with
  accessFlags := 1537
  interfaces := #[]
  cf := some (fileOf pool3 2 #[] #[] 1537 4 #[] #[])
  fields := #[]
  methods := #[]
  instanceTypes := #[]
  staticTypes := #[]
  resolved := Array.replicate 8 none
  statics := none }

def pool4 : Array CpInfo := pool [(1, u "java/io/Serializable"), (0, .class_ 1), (0, u "java/lang/Object"), (0, .class_ 3)] 3

/-- java/io/Serializable -/
def k4 : Class := { plain "java/io/Serializable" (some 0) with
  accessFlags := 1537
  interfaces := #[]
  cf := some (fileOf pool4 2 #[] #[] 1537 4 #[] #[])
  fields := #[]
  methods := #[]
  instanceTypes := #[]
  staticTypes := #[]
  resolved := Array.replicate 8 none
  statics := none }

/-- the primitive byte -/
def k5 : Class := { plain "byte" none with kind := .primitive 'B', accessFlags := 0x411 }
/-- [B -/
def k6 : Class := { plain "[B" (some 0) with kind := .array 5 .byte, interfaces := #[3, 4], accessFlags := 1041 }

/-- the primitive int -/
def k7 : Class := { plain "int" none with kind := .primitive 'I', accessFlags := 0x411 }
/-- [I -/
def k8 : Class := { plain "[I" (some 0) with kind := .array 7 .int, interfaces := #[3, 4], accessFlags := 1041 }

def heap : Heap := #[]
def classes : Array Class := #[k0, k1, k2, k3, k4, k5, k6, k7, k8]
def interned : List (Array UInt16 × Addr) := []
def slotsUsed : Nat := 0
def theMethod : MethodId := ⟨1, 1⟩
def args0 : Array Value := #[.long 5, .long 5, .int 5]
def aboutOver (below : List Frame) : State where
  vm := { classes := classes, interned := interned.toArray }
  heap := heap
  slotsUsed := slotsUsed
  threads := #[{ frames := .invoking theMethod args0 :: below }]
def below0 : List Frame := [.native { method := ⟨0, 0⟩, args := #[] }]
def about1 : State := aboutOver below0
def p0 : Program := .bare "" "" ""
def e0 : Env := launch0.env 0 0 0
theorem w_frames : about1.frames = Frame.invoking theMethod args0 :: below0 := rfl
set_option maxRecDepth 65536 in
theorem w_args : argsFit about1.vm theMethod args0 = true := by decide +kernel
set_option maxRecDepth 65536 in
theorem w_heap : heapFits about1 = true := by decide +kernel
set_option maxRecDepth 65536 in
theorem w_runnable : about1.curStatus? = some .runnable := by decide +kernel
set_option maxRecDepth 65536 in
theorem w_alone : about1.alone = true := by decide +kernel
set_option maxRecDepth 65536 in
theorem w_named : about1.methodNamed? x = some theMethod := by decide +kernel
set_option maxRecDepth 65536 in
theorem w_hears : about1.hears theMethod below0 = true := by decide +kernel
set_option maxRecDepth 65536 in
theorem w_ripe : about1.ripe theMethod args0 below0 = true := by decide +kernel
theorem w_running : about1.status = .running := rfl
set_option maxRecDepth 65536 in
theorem w_room : about1.hasRoom e0.platform room_1 = true :=
  launch0.hasRoom_least _ room_1 (by decide +kernel) (by decide +kernel) (by decide +kernel) (by decide +kernel) (by decide +kernel) (by decide +kernel)
theorem allAtoms_all (ts : List Jvm.Cond) (a : Array Jvm.Value) (st : Jvm.State) : (allAtoms ts).before a st = ts.all (fun c => c.before a st) := by
  induction ts with
  | nil => rfl
  | cons c t ih =>
    show (Jvm.Cond.and c (allAtoms t)).before a st = _
    rw [Jvm.Cond.before_and, ih, List.all_cons]
def words1 : List Jvm.Cond := Jvm.Cond.code x code maxLocals ret :: tables_1
/-- a 'code' word, met by the world's own term for the bytes: nothing is compared byte by byte -/
theorem code_word {y : MethodName} {bytes : ByteArray} {mx : Nat} {rt : Option FieldType} {a : Array Value} {s : State} {m : MethodId} {meth : Method} {c : Code} (h1 : s.methodNamed? y = some m) (h2 : s.vm.method? m = some meth) (h3 : meth.code = some c) (h4 : c.code = bytes)
    (h5 : (c.maxLocals == mx && c.exceptionTable.isEmpty && decide (c.maxStack ≤ mostOperands) && decide (meth.sig.returnType = rt) && !meth.locks && decide (parseMethodDescriptor y.desc = some meth.sig)) = true) : (Jvm.Cond.code y bytes mx rt).before a s = true := by
  simp only [Bool.and_eq_true, beq_iff_eq, Bool.not_eq_true', decide_eq_true_eq] at h5
  obtain ⟨⟨⟨⟨⟨g1, g2⟩, g3⟩, g4⟩, g5⟩, g6⟩ := h5
  simp [Cond.before, Cond.holds, Cond.value, h1, h2, h3, h4, g1, g2, g3, g4, g5, g6]
def isCode : Jvm.Cond → Bool
  | .code _ _ _ _ => true
  | _ => false
theorem all_split {L : List Jvm.Cond} {P : Jvm.Cond → Bool} (h1 : L.all (fun c => isCode c || P c) = true) (h2 : ∀ c ∈ L.filter isCode, P c = true) : L.all P = true := by
  refine List.all_eq_true.mpr fun c hc => ?_
  have h := List.all_eq_true.mp h1 c hc
  rcases Bool.eq_false_or_eq_true (isCode c) with hi | hi
  · exact h2 c (List.mem_filter.mpr ⟨hc, hi⟩)
  · simpa [hi] using h
set_option maxRecDepth 65536 in
theorem w_c0 : (Jvm.Cond.code x code maxLocals ret).before args0 about1 = true := code_word (m := ⟨1, 1⟩) (meth := k1m1) (c := k1c1) (by decide +kernel) rfl rfl rfl (by decide +kernel)
set_option maxRecDepth 65536 in
theorem w_c1 : (Jvm.Cond.code ({ cls := "com/example/plainsong/plainsong/PackedTextsReadNumberPinLaw", name := "last", desc := "([BI)I" } : Jvm.MethodName) method_4_code (2 : Nat) (Option.some Jvm.ClassFile.FieldType.int)).before args0 about1 = true := code_word (m := ⟨1, 3⟩) (meth := k1m3) (c := k1c3) (by decide +kernel) rfl rfl rfl (by decide +kernel)
set_option maxRecDepth 65536 in
theorem w_c2 : (Jvm.Cond.code ({ cls := "com/example/plainsong/plainsong/PackedTextsReadNumberPinLaw", name := "d", desc := "([BI)J" } : Jvm.MethodName) method_3_code (2 : Nat) (Option.some Jvm.ClassFile.FieldType.long)).before args0 about1 = true := code_word (m := ⟨1, 2⟩) (meth := k1m2) (c := k1c2) (by decide +kernel) rfl rfl rfl (by decide +kernel)
set_option maxRecDepth 65536 in
theorem w_c3 : (Jvm.Cond.code ({ cls := "com/example/plainsong/plainsong/PackedTexts", name := "readNumber", desc := "([BI)J" } : Jvm.MethodName) prog_54_method_11_code (7 : Nat) (Option.some Jvm.ClassFile.FieldType.long)).before args0 about1 = true := code_word (m := ⟨2, 1⟩) (meth := k2m1) (c := k2c1) (by decide +kernel) rfl rfl rfl (by decide +kernel)
def codes1 : List Jvm.Cond := [Jvm.Cond.code x code maxLocals ret, Jvm.Cond.code ({ cls := "com/example/plainsong/plainsong/PackedTextsReadNumberPinLaw", name := "last", desc := "([BI)I" } : Jvm.MethodName) method_4_code (2 : Nat) (Option.some Jvm.ClassFile.FieldType.int), Jvm.Cond.code ({ cls := "com/example/plainsong/plainsong/PackedTextsReadNumberPinLaw", name := "d", desc := "([BI)J" } : Jvm.MethodName) method_3_code (2 : Nat) (Option.some Jvm.ClassFile.FieldType.long), Jvm.Cond.code ({ cls := "com/example/plainsong/plainsong/PackedTexts", name := "readNumber", desc := "([BI)J" } : Jvm.MethodName) prog_54_method_11_code (7 : Nat) (Option.some Jvm.ClassFile.FieldType.long)]
set_option maxRecDepth 65536 in
theorem codes_eq : words1.filter isCode = codes1 := rfl
theorem w_codes : ∀ c ∈ words1.filter isCode, c.before args0 about1 = true := by
  rw [codes_eq]
  intro c hc
  simp only [codes1, List.mem_cons, List.not_mem_nil, or_false] at hc
  rcases hc with rfl | rfl | rfl | rfl
  · exact w_c0
  · exact w_c1
  · exact w_c2
  · exact w_c3
set_option maxRecDepth 65536 in
theorem w_t1 : words1.all (fun c => isCode c || c.before args0 about1) = true := by decide +kernel
theorem w_tables : (allAtoms (Jvm.Cond.code x code maxLocals ret :: tables_1)).before args0 about1 = true := by
  rw [allAtoms_all]
  show words1.all (fun c => c.before args0 about1) = true
  refine all_split ?_ w_codes
  rw [w_t1]
set_option maxRecDepth 65536 in
theorem w_case : (Jvm.Cond.and given_1 narrow_1).before args0 about1 = true := by decide +kernel
theorem w_applies : (headSpec (Jvm.Cond.code x code maxLocals ret :: tables_1) room_1).applies x e0.platform about1 = true :=
  (Spec.applies_iff w_frames).mpr ⟨w_running, w_runnable, w_alone, w_named, w_hears, w_ripe, w_room, w_tables⟩
theorem atStart : AtStart classFile x code maxLocals ret World_1 tables_1 room_1 Calls_1 rest_1 Pre_1 launch0 p0 e0 about1 theMethod args0 below0 :=
  ⟨lists_1, trivial, launch0.admits_env _ _ _, launch0.least_env, fairChoices_fair.cas, fairChoices_fair.clock, w_frames, w_args, w_heap, w_applies, trivial, trivial, w_case⟩
end start1
theorem witness_1 : WitnessClaimed_1 := ⟨start1.p0, start1.e0, start1.about1, start1.theMethod, start1.args0, start1.below0, start1.atStart⟩
end Jvm.Pilot.@@N@@
