import JvmDerived
import JvmDerived.Pilot.@@N@@Statement
import JvmDerived.Pilot.@@N@@Code
set_option linter.unusedVariables false
set_option linter.unusedSimpArgs false

namespace Jvm.RoadKit
open Sem ClassFile Op Lib Jvm.Stand Jvm.Free Jvm.LawKit
section New
variable {p : Program} {l : Launch} {e : Env} {R : Room} {s : State} {m : MethodId} {args : Array Value} {below : List Frame} {meth : Method} {c : Code} {T : State} {locs : List Loc} {cells slots : Nat}
theorem retI (X : Stand p l e R s m args below meth c T locs cells slots) (hx : p.tables.exec = Jvm.exec) {pc : Nat} {Ls : Array Slot} {z : Int32} {rest : List Value} (hret : meth.sig.returnType = some .int) (hd : decode c.code pc = .ok (.ireturn, 1)) {fs : List Frame}
    (hl : ∀ (f : JFrame) (acts : List Action), f.method = m → f.locked = none → f.entered = [] → (doReturn e (T.setTop f) acts (some (.int z))).1 = T.setFrames fs) : Steps p.tables e below (T.setTop (mkF m pc Ls (.int z :: rest))) (T.setFrames fs) := by
  have hm' : T.vm.method? m = some meth := X.method'
  have hn : narrow .int (.int z) = .int z := rfl
  show Steps p.tables e below (T.setTop { method := m, pc := pc, locals := Ls, stack := _ :: rest, locked := none }) _
  jvm_step X.here [X.here.top, hx, hd, hm', hret, hn]
  first | (intro acts; rw [hl _ acts rfl rfl rfl]) | rw [hl _ _ rfl rfl rfl]
  exact Steps.refl _
end New
end Jvm.RoadKit

namespace Jvm.Pilot.@@N@@
open Jvm Jvm.ClassFile Sem Op Lib Jvm.Free Jvm.Stand Jvm.LawKit Jvm.RoadKit Bundle Jvm.Pilot.@@N@@.Jvm.D

theorem own_eqfld {args : Array Value} {s : State} {t : Term} {C n d : String} {k : Int32} {x : Addr} (h : (Jvm.Cond.eq (Term.field t C n d) (Term.int k)).value args s none s [] = some true) (ht : t.eval args s none [] s = some (.ref x)) : s.fieldOf? x C n d = some (.int k) := (fld_at ht).symm.trans (eqv_i (F := Term.int k) (y := k) rfl h)

def own_holds (sg bits : Int32) (x : Int64) : Int32 :=
  if sg = 0 then (if x < 0 then 0 else if bits = 64 then 1 else if ((x.toUInt64 >>> (bits &&& 0x3f).toInt64.toUInt64).toInt64) = (0 : Int64) then 1 else 0)
  else (if bits = 64 then 1 else if (x >>> ((bits - (1 : Int32)) &&& 0x3f).toInt64) = (x >>> ((63 : Int32) &&& 0x3f).toInt64) then 1 else 0)
theorem own_sel (x : Int32) : (x &&& 7) = 0 ∨ (x &&& 7) = 1 ∨ (x &&& 7) = 2 ∨ (x &&& 7) = 3 ∨ (x &&& 7) = 4 ∨ (x &&& 7) = 5 ∨ (x &&& 7) = 6 ∨ (x &&& 7) = 7 := by
  have h1 := c_mask x 7 3 (by decide) (by decide)
  simp only [← Int32.toInt_inj]
  have e0 : (0 : Int32).toInt = 0 := by decide
  have e1 : (1 : Int32).toInt = 1 := by decide
  have e2 : (2 : Int32).toInt = 2 := by decide
  have e3 : (3 : Int32).toInt = 3 := by decide
  have e4 : (4 : Int32).toInt = 4 := by decide
  have e5 : (5 : Int32).toInt = 5 := by decide
  have e6 : (6 : Int32).toInt = 6 := by decide
  have e7 : (7 : Int32).toInt = 7 := by decide
  omega
theorem own_min (x : Int64) : ¬ x < (-9223372036854775808 : Int64) := by
  rw [Int64.lt_iff_toInt_lt]
  have := (rng64 x).1
  have e : (-9223372036854775808 : Int64).toInt = -9223372036854775808 := by decide
  omega
theorem own_max (x : Int64) : ¬ (9223372036854775807 : Int64) < x := by
  rw [Int64.lt_iff_toInt_lt]
  have := (rng64 x).2
  have e : (9223372036854775807 : Int64).toInt = 9223372036854775807 := by decide
  omega

theorem own_in_INT8 {x : Int64} (h1 : ¬ x < (-128 : Int64)) (h2 : ¬ (127 : Int64) < x) : own_holds 1 8 x = 1 := by
  have s1 := c_lshr x ((8 : Int32) - 1) 7 (by decide)
  have s2 := c_lshr x (63 : Int32) 63 (by decide)
  have r := rng64 x
  have el : (-128 : Int64).toInt = -128 := by decide
  have eh : (127 : Int64).toInt = 127 := by decide
  rw [Int64.lt_iff_toInt_lt] at h1 h2
  have q : (x >>> (((8 : Int32) - 1) &&& 0x3f).toInt64) = (x >>> ((63 : Int32) &&& 0x3f).toInt64) := by
    rw [← Int64.toInt_inj, s1, s2]
    omega
  unfold own_holds
  rw [if_neg (by decide), if_neg (by decide), if_pos q]
theorem own_lo_INT8 {x : Int64} (h1 : x < (-128 : Int64)) : own_holds 1 8 x = 0 := by
  have s1 := c_lshr x ((8 : Int32) - 1) 7 (by decide)
  have s2 := c_lshr x (63 : Int32) 63 (by decide)
  have r := rng64 x
  have el : (-128 : Int64).toInt = -128 := by decide
  have eh : (127 : Int64).toInt = 127 := by decide
  rw [Int64.lt_iff_toInt_lt] at h1
  have q : ¬ ((x >>> (((8 : Int32) - 1) &&& 0x3f).toInt64) = (x >>> ((63 : Int32) &&& 0x3f).toInt64)) := by
    rw [← Int64.toInt_inj, s1, s2]
    omega
  unfold own_holds
  rw [if_neg (by decide), if_neg (by decide), if_neg q]
theorem own_hi_INT8 {x : Int64} (h1 : (127 : Int64) < x) : own_holds 1 8 x = 0 := by
  have s1 := c_lshr x ((8 : Int32) - 1) 7 (by decide)
  have s2 := c_lshr x (63 : Int32) 63 (by decide)
  have r := rng64 x
  have el : (-128 : Int64).toInt = -128 := by decide
  have eh : (127 : Int64).toInt = 127 := by decide
  rw [Int64.lt_iff_toInt_lt] at h1
  have q : ¬ ((x >>> (((8 : Int32) - 1) &&& 0x3f).toInt64) = (x >>> ((63 : Int32) &&& 0x3f).toInt64)) := by
    rw [← Int64.toInt_inj, s1, s2]
    omega
  unfold own_holds
  rw [if_neg (by decide), if_neg (by decide), if_neg q]
theorem own_in_UINT8 {x : Int64} (h1 : ¬ x < (0 : Int64)) (h2 : ¬ (255 : Int64) < x) : own_holds 0 8 x = 1 := by
  have s1 := c_lushr x (8 : Int32) 8 (by decide) (by decide)
  have r := rng64 x
  have z : (0 : Int64).toInt = 0 := by decide
  have el : (0 : Int64).toInt = 0 := by decide
  have eh : (255 : Int64).toInt = 255 := by decide
  have h3 := h1
  rw [Int64.lt_iff_toInt_lt] at h1 h2
  have q : ((x.toUInt64 >>> ((8 : Int32) &&& 0x3f).toInt64.toUInt64).toInt64) = (0 : Int64) := by
    rw [← Int64.toInt_inj, s1, z]
    omega
  unfold own_holds
  rw [if_pos (by decide), if_neg h3, if_neg (by decide), if_pos q]
theorem own_lo_UINT8 {x : Int64} (h1 : x < (0 : Int64)) : own_holds 0 8 x = 0 := by simp [own_holds, h1]
theorem own_hi_UINT8 {x : Int64} (h1 : (255 : Int64) < x) : own_holds 0 8 x = 0 := by
  have s1 := c_lushr x (8 : Int32) 8 (by decide) (by decide)
  have r := rng64 x
  have z : (0 : Int64).toInt = 0 := by decide
  have el : (0 : Int64).toInt = 0 := by decide
  have eh : (255 : Int64).toInt = 255 := by decide
  rw [Int64.lt_iff_toInt_lt] at h1
  have h3 : ¬ x < (0 : Int64) := by
    rw [Int64.lt_iff_toInt_lt, z]
    omega
  have q : ¬ (((x.toUInt64 >>> ((8 : Int32) &&& 0x3f).toInt64.toUInt64).toInt64) = (0 : Int64)) := by
    rw [← Int64.toInt_inj, s1, z]
    omega
  unfold own_holds
  rw [if_pos (by decide), if_neg h3, if_neg (by decide), if_neg q]
theorem own_in_INT16 {x : Int64} (h1 : ¬ x < (-32768 : Int64)) (h2 : ¬ (32767 : Int64) < x) : own_holds 1 16 x = 1 := by
  have s1 := c_lshr x ((16 : Int32) - 1) 15 (by decide)
  have s2 := c_lshr x (63 : Int32) 63 (by decide)
  have r := rng64 x
  have el : (-32768 : Int64).toInt = -32768 := by decide
  have eh : (32767 : Int64).toInt = 32767 := by decide
  rw [Int64.lt_iff_toInt_lt] at h1 h2
  have q : (x >>> (((16 : Int32) - 1) &&& 0x3f).toInt64) = (x >>> ((63 : Int32) &&& 0x3f).toInt64) := by
    rw [← Int64.toInt_inj, s1, s2]
    omega
  unfold own_holds
  rw [if_neg (by decide), if_neg (by decide), if_pos q]
theorem own_lo_INT16 {x : Int64} (h1 : x < (-32768 : Int64)) : own_holds 1 16 x = 0 := by
  have s1 := c_lshr x ((16 : Int32) - 1) 15 (by decide)
  have s2 := c_lshr x (63 : Int32) 63 (by decide)
  have r := rng64 x
  have el : (-32768 : Int64).toInt = -32768 := by decide
  have eh : (32767 : Int64).toInt = 32767 := by decide
  rw [Int64.lt_iff_toInt_lt] at h1
  have q : ¬ ((x >>> (((16 : Int32) - 1) &&& 0x3f).toInt64) = (x >>> ((63 : Int32) &&& 0x3f).toInt64)) := by
    rw [← Int64.toInt_inj, s1, s2]
    omega
  unfold own_holds
  rw [if_neg (by decide), if_neg (by decide), if_neg q]
theorem own_hi_INT16 {x : Int64} (h1 : (32767 : Int64) < x) : own_holds 1 16 x = 0 := by
  have s1 := c_lshr x ((16 : Int32) - 1) 15 (by decide)
  have s2 := c_lshr x (63 : Int32) 63 (by decide)
  have r := rng64 x
  have el : (-32768 : Int64).toInt = -32768 := by decide
  have eh : (32767 : Int64).toInt = 32767 := by decide
  rw [Int64.lt_iff_toInt_lt] at h1
  have q : ¬ ((x >>> (((16 : Int32) - 1) &&& 0x3f).toInt64) = (x >>> ((63 : Int32) &&& 0x3f).toInt64)) := by
    rw [← Int64.toInt_inj, s1, s2]
    omega
  unfold own_holds
  rw [if_neg (by decide), if_neg (by decide), if_neg q]
theorem own_in_UINT16 {x : Int64} (h1 : ¬ x < (0 : Int64)) (h2 : ¬ (65535 : Int64) < x) : own_holds 0 16 x = 1 := by
  have s1 := c_lushr x (16 : Int32) 16 (by decide) (by decide)
  have r := rng64 x
  have z : (0 : Int64).toInt = 0 := by decide
  have el : (0 : Int64).toInt = 0 := by decide
  have eh : (65535 : Int64).toInt = 65535 := by decide
  have h3 := h1
  rw [Int64.lt_iff_toInt_lt] at h1 h2
  have q : ((x.toUInt64 >>> ((16 : Int32) &&& 0x3f).toInt64.toUInt64).toInt64) = (0 : Int64) := by
    rw [← Int64.toInt_inj, s1, z]
    omega
  unfold own_holds
  rw [if_pos (by decide), if_neg h3, if_neg (by decide), if_pos q]
theorem own_lo_UINT16 {x : Int64} (h1 : x < (0 : Int64)) : own_holds 0 16 x = 0 := by simp [own_holds, h1]
theorem own_hi_UINT16 {x : Int64} (h1 : (65535 : Int64) < x) : own_holds 0 16 x = 0 := by
  have s1 := c_lushr x (16 : Int32) 16 (by decide) (by decide)
  have r := rng64 x
  have z : (0 : Int64).toInt = 0 := by decide
  have el : (0 : Int64).toInt = 0 := by decide
  have eh : (65535 : Int64).toInt = 65535 := by decide
  rw [Int64.lt_iff_toInt_lt] at h1
  have h3 : ¬ x < (0 : Int64) := by
    rw [Int64.lt_iff_toInt_lt, z]
    omega
  have q : ¬ (((x.toUInt64 >>> ((16 : Int32) &&& 0x3f).toInt64.toUInt64).toInt64) = (0 : Int64)) := by
    rw [← Int64.toInt_inj, s1, z]
    omega
  unfold own_holds
  rw [if_pos (by decide), if_neg h3, if_neg (by decide), if_neg q]
theorem own_in_INT32 {x : Int64} (h1 : ¬ x < (-2147483648 : Int64)) (h2 : ¬ (2147483647 : Int64) < x) : own_holds 1 32 x = 1 := by
  have s1 := c_lshr x ((32 : Int32) - 1) 31 (by decide)
  have s2 := c_lshr x (63 : Int32) 63 (by decide)
  have r := rng64 x
  have el : (-2147483648 : Int64).toInt = -2147483648 := by decide
  have eh : (2147483647 : Int64).toInt = 2147483647 := by decide
  rw [Int64.lt_iff_toInt_lt] at h1 h2
  have q : (x >>> (((32 : Int32) - 1) &&& 0x3f).toInt64) = (x >>> ((63 : Int32) &&& 0x3f).toInt64) := by
    rw [← Int64.toInt_inj, s1, s2]
    omega
  unfold own_holds
  rw [if_neg (by decide), if_neg (by decide), if_pos q]
theorem own_lo_INT32 {x : Int64} (h1 : x < (-2147483648 : Int64)) : own_holds 1 32 x = 0 := by
  have s1 := c_lshr x ((32 : Int32) - 1) 31 (by decide)
  have s2 := c_lshr x (63 : Int32) 63 (by decide)
  have r := rng64 x
  have el : (-2147483648 : Int64).toInt = -2147483648 := by decide
  have eh : (2147483647 : Int64).toInt = 2147483647 := by decide
  rw [Int64.lt_iff_toInt_lt] at h1
  have q : ¬ ((x >>> (((32 : Int32) - 1) &&& 0x3f).toInt64) = (x >>> ((63 : Int32) &&& 0x3f).toInt64)) := by
    rw [← Int64.toInt_inj, s1, s2]
    omega
  unfold own_holds
  rw [if_neg (by decide), if_neg (by decide), if_neg q]
theorem own_hi_INT32 {x : Int64} (h1 : (2147483647 : Int64) < x) : own_holds 1 32 x = 0 := by
  have s1 := c_lshr x ((32 : Int32) - 1) 31 (by decide)
  have s2 := c_lshr x (63 : Int32) 63 (by decide)
  have r := rng64 x
  have el : (-2147483648 : Int64).toInt = -2147483648 := by decide
  have eh : (2147483647 : Int64).toInt = 2147483647 := by decide
  rw [Int64.lt_iff_toInt_lt] at h1
  have q : ¬ ((x >>> (((32 : Int32) - 1) &&& 0x3f).toInt64) = (x >>> ((63 : Int32) &&& 0x3f).toInt64)) := by
    rw [← Int64.toInt_inj, s1, s2]
    omega
  unfold own_holds
  rw [if_neg (by decide), if_neg (by decide), if_neg q]
theorem own_in_UINT32 {x : Int64} (h1 : ¬ x < (0 : Int64)) (h2 : ¬ (4294967295 : Int64) < x) : own_holds 0 32 x = 1 := by
  have s1 := c_lushr x (32 : Int32) 32 (by decide) (by decide)
  have r := rng64 x
  have z : (0 : Int64).toInt = 0 := by decide
  have el : (0 : Int64).toInt = 0 := by decide
  have eh : (4294967295 : Int64).toInt = 4294967295 := by decide
  have h3 := h1
  rw [Int64.lt_iff_toInt_lt] at h1 h2
  have q : ((x.toUInt64 >>> ((32 : Int32) &&& 0x3f).toInt64.toUInt64).toInt64) = (0 : Int64) := by
    rw [← Int64.toInt_inj, s1, z]
    omega
  unfold own_holds
  rw [if_pos (by decide), if_neg h3, if_neg (by decide), if_pos q]
theorem own_lo_UINT32 {x : Int64} (h1 : x < (0 : Int64)) : own_holds 0 32 x = 0 := by simp [own_holds, h1]
theorem own_hi_UINT32 {x : Int64} (h1 : (4294967295 : Int64) < x) : own_holds 0 32 x = 0 := by
  have s1 := c_lushr x (32 : Int32) 32 (by decide) (by decide)
  have r := rng64 x
  have z : (0 : Int64).toInt = 0 := by decide
  have el : (0 : Int64).toInt = 0 := by decide
  have eh : (4294967295 : Int64).toInt = 4294967295 := by decide
  rw [Int64.lt_iff_toInt_lt] at h1
  have h3 : ¬ x < (0 : Int64) := by
    rw [Int64.lt_iff_toInt_lt, z]
    omega
  have q : ¬ (((x.toUInt64 >>> ((32 : Int32) &&& 0x3f).toInt64.toUInt64).toInt64) = (0 : Int64)) := by
    rw [← Int64.toInt_inj, s1, z]
    omega
  unfold own_holds
  rw [if_pos (by decide), if_neg h3, if_neg (by decide), if_neg q]
theorem own_in_INT64 {x : Int64} (h1 : ¬ x < (-9223372036854775808 : Int64)) (h2 : ¬ (9223372036854775807 : Int64) < x) : own_holds 1 64 x = 1 := by simp [own_holds]
theorem own_in_UINT64 {x : Int64} (h1 : ¬ x < (0 : Int64)) (h2 : ¬ (9223372036854775807 : Int64) < x) : own_holds 0 64 x = 1 := by simp [own_holds, h1]
theorem own_lo_UINT64 {x : Int64} (h1 : x < (0 : Int64)) : own_holds 0 64 x = 0 := by simp [own_holds, h1]
theorem d1_0 : decode prog_41_method_10_code 0 = .ok (.aload_n 0, 1) := by decide +kernel
theorem d1_1 : decode prog_41_method_10_code 1 = .ok (.getfield 91, 3) := by decide +kernel
theorem d1_4 : decode prog_41_method_10_code 4 = .ok (.ifCond .eq 34, 3) := by decide +kernel
theorem d1_7 : decode prog_41_method_10_code 7 = .ok (.aload_n 0, 1) := by decide +kernel
theorem d1_8 : decode prog_41_method_10_code 8 = .ok (.getfield 88, 3) := by decide +kernel
theorem d1_11 : decode prog_41_method_10_code 11 = .ok (.bipush 64, 2) := by decide +kernel
theorem d1_13 : decode prog_41_method_10_code 13 = .ok (.if_icmp .eq 19, 3) := by decide +kernel
theorem d1_16 : decode prog_41_method_10_code 16 = .ok (.lload_n 1, 1) := by decide +kernel
theorem d1_17 : decode prog_41_method_10_code 17 = .ok (.aload_n 0, 1) := by decide +kernel
theorem d1_18 : decode prog_41_method_10_code 18 = .ok (.getfield 88, 3) := by decide +kernel
theorem d1_21 : decode prog_41_method_10_code 21 = .ok (.iconst 1, 1) := by decide +kernel
theorem d1_22 : decode prog_41_method_10_code 22 = .ok (.isub, 1) := by decide +kernel
theorem d1_23 : decode prog_41_method_10_code 23 = .ok (.lshr, 1) := by decide +kernel
theorem d1_24 : decode prog_41_method_10_code 24 = .ok (.lload_n 1, 1) := by decide +kernel
theorem d1_25 : decode prog_41_method_10_code 25 = .ok (.bipush 63, 2) := by decide +kernel
theorem d1_27 : decode prog_41_method_10_code 27 = .ok (.lshr, 1) := by decide +kernel
theorem d1_28 : decode prog_41_method_10_code 28 = .ok (.lcmp, 1) := by decide +kernel
theorem d1_29 : decode prog_41_method_10_code 29 = .ok (.ifCond .ne 7, 3) := by decide +kernel
theorem d1_32 : decode prog_41_method_10_code 32 = .ok (.iconst 1, 1) := by decide +kernel
theorem d1_33 : decode prog_41_method_10_code 33 = .ok (.goto 4, 3) := by decide +kernel
theorem d1_36 : decode prog_41_method_10_code 36 = .ok (.iconst 0, 1) := by decide +kernel
theorem d1_37 : decode prog_41_method_10_code 37 = .ok (.ireturn, 1) := by decide +kernel
theorem d1_38 : decode prog_41_method_10_code 38 = .ok (.lload_n 1, 1) := by decide +kernel
theorem d1_39 : decode prog_41_method_10_code 39 = .ok (.lconst 0, 1) := by decide +kernel
theorem d1_40 : decode prog_41_method_10_code 40 = .ok (.lcmp, 1) := by decide +kernel
theorem d1_41 : decode prog_41_method_10_code 41 = .ok (.ifCond .lt 27, 3) := by decide +kernel
theorem d1_44 : decode prog_41_method_10_code 44 = .ok (.aload_n 0, 1) := by decide +kernel
theorem d1_45 : decode prog_41_method_10_code 45 = .ok (.getfield 88, 3) := by decide +kernel
theorem d1_48 : decode prog_41_method_10_code 48 = .ok (.bipush 64, 2) := by decide +kernel
theorem d1_50 : decode prog_41_method_10_code 50 = .ok (.if_icmp .eq 14, 3) := by decide +kernel
theorem d1_53 : decode prog_41_method_10_code 53 = .ok (.lload_n 1, 1) := by decide +kernel
theorem d1_54 : decode prog_41_method_10_code 54 = .ok (.aload_n 0, 1) := by decide +kernel
theorem d1_55 : decode prog_41_method_10_code 55 = .ok (.getfield 88, 3) := by decide +kernel
theorem d1_58 : decode prog_41_method_10_code 58 = .ok (.lushr, 1) := by decide +kernel
theorem d1_59 : decode prog_41_method_10_code 59 = .ok (.lconst 0, 1) := by decide +kernel
theorem d1_60 : decode prog_41_method_10_code 60 = .ok (.lcmp, 1) := by decide +kernel
theorem d1_61 : decode prog_41_method_10_code 61 = .ok (.ifCond .ne 7, 3) := by decide +kernel
theorem d1_64 : decode prog_41_method_10_code 64 = .ok (.iconst 1, 1) := by decide +kernel
theorem d1_65 : decode prog_41_method_10_code 65 = .ok (.goto 4, 3) := by decide +kernel
theorem d1_68 : decode prog_41_method_10_code 68 = .ok (.iconst 0, 1) := by decide +kernel
theorem d1_69 : decode prog_41_method_10_code 69 = .ok (.ireturn, 1) := by decide +kernel
theorem pn_com_example_tightwire_tightwire_Kind : plainName "com/example/tightwire/tightwire/Kind" = true := by first | (simp [plainName, overriddenIn]; done) | decide +kernel
theorem ef_1 (m : MethodId) (x0 : Addr) (x1 : Int64) : entryFrame m #[(.ref x0), (.long x1)] 3 = mkF m 0 #[.val (.ref x0), .val (.long x1), .second] [] := by first | (simp [entryFrame, mkF, argsToLocals, Value.category]; done) | rfl
def Q1 (x : Int64) (sg bits : Int32) (h0 : Heap) (n0 : Nat) (v : Option Value) (h : Heap) (L : List Loc) : Prop := v = some (.int (own_holds sg bits x)) ∧ Fr n0 L ∧ h = h0
set_option maxRecDepth 65536 in
set_option maxHeartbeats 40000000 in
theorem rm1 (l : Launch) (Z : State) (a0 : Array Value) (hw : ∀ d ∈ tables_1, d.before a0 Z = true) (ws : List Jvm.Cond) (a1 : Addr) (x : Int64) (sg bits : Int32) (h0 : Heap) (n0 : Nat) (O0 : Old Z n0 h0) (F1 : Fld Z h0 a1 "com/example/tightwire/tightwire/Kind" "signed" "Z" (.int sg)) (F2 : Fld Z h0 a1 "com/example/tightwire/tightwire/Kind" "bits" "I" (.int bits)) :
    MetFree l (⟨"com/example/tightwire/tightwire/Kind", "holds", "(J)Z"⟩ : MethodName) (head1 (Jvm.Cond.code (⟨"com/example/tightwire/tightwire/Kind", "holds", "(J)Z"⟩ : MethodName) prog_41_method_10_code 3 (some .boolean) :: ws) ({ frames := 0, cells := 0, slots := 0, locals := 0 } : Room)) (fun a U => a = #[(.ref a1), (.long x)] ∧ Z.Warmed39 U.vm ∧ U.heap = h0) (fun _ _ _ _ _ => True) (fun _ U o U' => ∃ v L, o = .returned v ∧ Q1 x sg bits h0 n0 v U'.heap L ∧ FrameEnd U o U' L ({ frames := 0, cells := 0, slots := 0, locals := 0 } : Room).cells ({ frames := 0, cells := 0, slots := 0, locals := 0 } : Room).slots) := by
  refine MetFree.of_bodySF (plainFor_of_name pn_com_example_tightwire_tightwire_Kind) hisR ?_
  intro p e s m args below meth kode s₁ Bd hml0 hP hK
  obtain ⟨rfl, hZ, hh⟩ := hP
  have hx := Bd.exec
  have hby := Bd.bytes
  have hml : kode.maxLocals = 3 := hml0
  have hown : s.vm.findClass "com/example/tightwire/tightwire/Kind" = some m.cls := findClass_of_methodNamed Bd.named
  have hnm := (name_of_methodNamed Bd.named Bd.method).1
  have X0 : Stand p l e ({ frames := 0, cells := 0, slots := 0, locals := 0 } : Room) s m #[(.ref a1), (.long x)] below meth kode s₁ [] 0 0 := Stand.of_body Bd
  have e0 : s₁.heap = h0 := by rw [← hh, Bd.state]; rfl
  have N0 := Fr.nil n0
  have pre0 : ∀ t, Steps p.tables e below (s₁.setTop (mkF m 0 #[.val (.ref a1), .val (.long x), .second] [])) t → Steps p.tables e below (s₁.setTop (entryFrame m #[(.ref a1), (.long x)] 3)) t := fun t k => castTop (ef_1 m a1 x) k
  have k1 := fun (t : State) (kt : Steps p.tables e below (s₁.setTop (mkF m 1 #[.val (.ref a1), .val (.long x), .second] [(.ref a1)])) t) => pre0 t (by
    refine XS.aloadN X0.here hx rfl (hb hby d1_0) rfl rfl ?_
    show Steps p.tables e below (s₁.setTop (mkF m 1 #[.val (.ref a1), .val (.long x), .second] [(.ref a1)])) _
    exact kt)
  obtain ⟨T2, X2, e2, st2⟩ := getF X0 hx hZ hown (host := "") (Or.inl (hw _ (List.mem_of_getElem? (i := 11) rfl))) Via.refl e0 F1 (g := (mkF m 1 #[.val (.ref a1), .val (.long x), .second] [(.ref a1)])) rfl rfl (hb hby d1_1)
  have k3 := fun (t : State) (kt : Steps p.tables e below (T2.setTop (mkF m 4 #[.val (.ref a1), .val (.long x), .second] [(.int sg)])) t) => k1 t (by
    refine st2 _ ?_
    show Steps p.tables e below (T2.setTop (mkF m 4 #[.val (.ref a1), .val (.long x), .second] [(.int sg)])) _
    exact kt)
  by_cases hc4_4 : sg = (0 : Int32)
  · have k5 := fun (t : State) (kt : Steps p.tables e below (T2.setTop (mkF m 41 #[.val (.ref a1), .val (.long x), .second] [(.int (lcmpW x (0 : Int64)))])) t) => k3 t (by
      refine XS.ifYes X2.here hx rfl (pc0 := 4) (pc' := 38) rfl (hb hby d1_4) rfl ((if0 _ _).trans (teq hc4_4).1) (by decide) (by decide) ?_
      show Steps p.tables e below (T2.setTop (mkF m 38 #[.val (.ref a1), .val (.long x), .second] [])) _
      refine XS.lloadN X2.here hx rfl (hb hby d1_38) rfl ?_
      show Steps p.tables e below (T2.setTop (mkF m 39 #[.val (.ref a1), .val (.long x), .second] [(.long x)])) _
      refine XS.lconst X2.here hx rfl (hb hby d1_39) ?_
      show Steps p.tables e below (T2.setTop (mkF m 40 #[.val (.ref a1), .val (.long x), .second] [(.long (0 : Int64)), (.long x)])) _
      refine XS.lcmp X2.here hx rfl (hb hby d1_40) rfl ?_
      show Steps p.tables e below (T2.setTop (mkF m 41 #[.val (.ref a1), .val (.long x), .second] [(.int (lcmpW x (0 : Int64)))])) _
      exact kt)
    by_cases hc41_6 : x < (0 : Int64)
    · have k7 := fun (t : State) (kt : Steps p.tables e below (T2.setTop (mkF m 69 #[.val (.ref a1), .val (.long x), .second] [(.int (0 : Int32))])) t) => k5 t (by
        refine XS.ifYes X2.here hx rfl (pc0 := 41) (pc' := 68) rfl (hb hby d1_41) rfl ((if0 _ _).trans (tlt ((lw_lt x (0 : Int64)).mpr hc41_6)).1) (by decide) (by decide) ?_
        show Steps p.tables e below (T2.setTop (mkF m 68 #[.val (.ref a1), .val (.long x), .second] [])) _
        refine XS.iconst X2.here hx rfl (hb hby d1_68) ?_
        show Steps p.tables e below (T2.setTop (mkF m 69 #[.val (.ref a1), .val (.long x), .second] [(.int (0 : Int32))])) _
        exact kt)
      obtain ⟨fs, hr, hrun, hended, hW, hsame⟩ := X2.leave (v := some (.int (0 : Int32))) (fun h => by rw [Bd.returns] at h; cases h)
      refine ⟨_, _, k7 _ ?_, hrun, hended, _, _, rfl, ?_, ⟨_, rfl⟩, hW, hsame.mono (by decide) (by decide)⟩
      · exact retN X2 hx (t := .boolean) Bd.returns (by simp) (hb hby d1_69) hr
      · show Q1 x sg bits h0 n0 _ T2.heap _
        rw [e2]
        exact ⟨by simp only [own_holds, hc4_4, hc41_6, if_true, if_false], N0, rfl⟩
    · have k8 := fun (t : State) (kt : Steps p.tables e below (T2.setTop (mkF m 45 #[.val (.ref a1), .val (.long x), .second] [(.ref a1)])) t) => k5 t (by
        refine XS.ifNo X2.here hx rfl (hb hby d1_41) rfl ((if0 _ _).trans (flt (fun q => hc41_6 ((lw_lt x (0 : Int64)).mp q))).1) ?_
        show Steps p.tables e below (T2.setTop (mkF m 44 #[.val (.ref a1), .val (.long x), .second] [])) _
        refine XS.aloadN X2.here hx rfl (hb hby d1_44) rfl rfl ?_
        show Steps p.tables e below (T2.setTop (mkF m 45 #[.val (.ref a1), .val (.long x), .second] [(.ref a1)])) _
        exact kt)
      obtain ⟨T9, X9, e9, st9⟩ := getF X2 hx hZ hown (host := "") (Or.inl (hw _ (List.mem_of_getElem? (i := 13) rfl))) Via.refl e2 F2 (g := (mkF m 45 #[.val (.ref a1), .val (.long x), .second] [(.ref a1)])) rfl rfl (hb hby d1_45)
      have k10 := fun (t : State) (kt : Steps p.tables e below (T9.setTop (mkF m 50 #[.val (.ref a1), .val (.long x), .second] [(.int (64 : Int32)), (.int bits)])) t) => k8 t (by
        refine st9 _ ?_
        show Steps p.tables e below (T9.setTop (mkF m 48 #[.val (.ref a1), .val (.long x), .second] [(.int bits)])) _
        refine XS.bipush X9.here hx rfl (hb hby d1_48) ?_
        show Steps p.tables e below (T9.setTop (mkF m 50 #[.val (.ref a1), .val (.long x), .second] [(.int (64 : Int32)), (.int bits)])) _
        exact kt)
      by_cases hc50_11 : bits = (64 : Int32)
      · have k12 := fun (t : State) (kt : Steps p.tables e below (T9.setTop (mkF m 69 #[.val (.ref a1), .val (.long x), .second] [(.int (1 : Int32))])) t) => k10 t (by
          refine XS.icmpYes X9.here hx rfl (pc0 := 50) (pc' := 64) rfl (hb hby d1_50) rfl (teq hc50_11).1 (by decide) (by decide) ?_
          show Steps p.tables e below (T9.setTop (mkF m 64 #[.val (.ref a1), .val (.long x), .second] [])) _
          refine XS.iconst X9.here hx rfl (hb hby d1_64) ?_
          show Steps p.tables e below (T9.setTop (mkF m 65 #[.val (.ref a1), .val (.long x), .second] [(.int (1 : Int32))])) _
          refine XS.goto X9.here hx rfl (pc0 := 65) (pc' := 69) rfl (hb hby d1_65) (by decide) (by decide) ?_
          show Steps p.tables e below (T9.setTop (mkF m 69 #[.val (.ref a1), .val (.long x), .second] [(.int (1 : Int32))])) _
          exact kt)
        obtain ⟨fs, hr, hrun, hended, hW, hsame⟩ := X9.leave (v := some (.int (1 : Int32))) (fun h => by rw [Bd.returns] at h; cases h)
        refine ⟨_, _, k12 _ ?_, hrun, hended, _, _, rfl, ?_, ⟨_, rfl⟩, hW, hsame.mono (by decide) (by decide)⟩
        · exact retN X9 hx (t := .boolean) Bd.returns (by simp) (hb hby d1_69) hr
        · show Q1 x sg bits h0 n0 _ T9.heap _
          rw [e9]
          exact ⟨by simp only [own_holds, hc4_4, hc41_6, hc50_11, if_true, if_false], N0, rfl⟩
      · have k13 := fun (t : State) (kt : Steps p.tables e below (T9.setTop (mkF m 55 #[.val (.ref a1), .val (.long x), .second] [(.ref a1), (.long x)])) t) => k10 t (by
          refine XS.icmpNo X9.here hx rfl (hb hby d1_50) rfl (feq hc50_11).1 ?_
          show Steps p.tables e below (T9.setTop (mkF m 53 #[.val (.ref a1), .val (.long x), .second] [])) _
          refine XS.lloadN X9.here hx rfl (hb hby d1_53) rfl ?_
          show Steps p.tables e below (T9.setTop (mkF m 54 #[.val (.ref a1), .val (.long x), .second] [(.long x)])) _
          refine XS.aloadN X9.here hx rfl (hb hby d1_54) rfl rfl ?_
          show Steps p.tables e below (T9.setTop (mkF m 55 #[.val (.ref a1), .val (.long x), .second] [(.ref a1), (.long x)])) _
          exact kt)
        obtain ⟨T14, X14, e14, st14⟩ := getF X9 hx hZ hown (host := "") (Or.inl (hw _ (List.mem_of_getElem? (i := 13) rfl))) Via.refl e9 F2 (g := (mkF m 55 #[.val (.ref a1), .val (.long x), .second] [(.ref a1), (.long x)])) rfl rfl (hb hby d1_55)
        have k15 := fun (t : State) (kt : Steps p.tables e below (T14.setTop (mkF m 61 #[.val (.ref a1), .val (.long x), .second] [(.int (lcmpW ((x.toUInt64 >>> (bits &&& 0x3f).toInt64.toUInt64).toInt64) (0 : Int64)))])) t) => k13 t (by
          refine st14 _ ?_
          show Steps p.tables e below (T14.setTop (mkF m 58 #[.val (.ref a1), .val (.long x), .second] [(.int bits), (.long x)])) _
          refine XS.lushr X14.here hx rfl (hb hby d1_58) rfl ?_
          show Steps p.tables e below (T14.setTop (mkF m 59 #[.val (.ref a1), .val (.long x), .second] [(.long ((x.toUInt64 >>> (bits &&& 0x3f).toInt64.toUInt64).toInt64))])) _
          refine XS.lconst X14.here hx rfl (hb hby d1_59) ?_
          show Steps p.tables e below (T14.setTop (mkF m 60 #[.val (.ref a1), .val (.long x), .second] [(.long (0 : Int64)), (.long ((x.toUInt64 >>> (bits &&& 0x3f).toInt64.toUInt64).toInt64))])) _
          refine XS.lcmp X14.here hx rfl (hb hby d1_60) rfl ?_
          show Steps p.tables e below (T14.setTop (mkF m 61 #[.val (.ref a1), .val (.long x), .second] [(.int (lcmpW ((x.toUInt64 >>> (bits &&& 0x3f).toInt64.toUInt64).toInt64) (0 : Int64)))])) _
          exact kt)
        by_cases hc61_16 : ((x.toUInt64 >>> (bits &&& 0x3f).toInt64.toUInt64).toInt64) = (0 : Int64)
        · have k17 := fun (t : State) (kt : Steps p.tables e below (T14.setTop (mkF m 69 #[.val (.ref a1), .val (.long x), .second] [(.int (1 : Int32))])) t) => k15 t (by
            refine XS.ifNo X14.here hx rfl (hb hby d1_61) rfl ((if0 _ _).trans (teq ((lw_eq ((x.toUInt64 >>> (bits &&& 0x3f).toInt64.toUInt64).toInt64) (0 : Int64)).mpr hc61_16)).2) ?_
            show Steps p.tables e below (T14.setTop (mkF m 64 #[.val (.ref a1), .val (.long x), .second] [])) _
            refine XS.iconst X14.here hx rfl (hb hby d1_64) ?_
            show Steps p.tables e below (T14.setTop (mkF m 65 #[.val (.ref a1), .val (.long x), .second] [(.int (1 : Int32))])) _
            refine XS.goto X14.here hx rfl (pc0 := 65) (pc' := 69) rfl (hb hby d1_65) (by decide) (by decide) ?_
            show Steps p.tables e below (T14.setTop (mkF m 69 #[.val (.ref a1), .val (.long x), .second] [(.int (1 : Int32))])) _
            exact kt)
          obtain ⟨fs, hr, hrun, hended, hW, hsame⟩ := X14.leave (v := some (.int (1 : Int32))) (fun h => by rw [Bd.returns] at h; cases h)
          refine ⟨_, _, k17 _ ?_, hrun, hended, _, _, rfl, ?_, ⟨_, rfl⟩, hW, hsame.mono (by decide) (by decide)⟩
          · exact retN X14 hx (t := .boolean) Bd.returns (by simp) (hb hby d1_69) hr
          · show Q1 x sg bits h0 n0 _ T14.heap _
            rw [e14]
            exact ⟨by simp only [own_holds, hc4_4, hc41_6, hc50_11, hc61_16, if_true, if_false], N0, rfl⟩
        · have k18 := fun (t : State) (kt : Steps p.tables e below (T14.setTop (mkF m 69 #[.val (.ref a1), .val (.long x), .second] [(.int (0 : Int32))])) t) => k15 t (by
            refine XS.ifYes X14.here hx rfl (pc0 := 61) (pc' := 68) rfl (hb hby d1_61) rfl ((if0 _ _).trans (feq (fun q => hc61_16 ((lw_eq ((x.toUInt64 >>> (bits &&& 0x3f).toInt64.toUInt64).toInt64) (0 : Int64)).mp q))).2) (by decide) (by decide) ?_
            show Steps p.tables e below (T14.setTop (mkF m 68 #[.val (.ref a1), .val (.long x), .second] [])) _
            refine XS.iconst X14.here hx rfl (hb hby d1_68) ?_
            show Steps p.tables e below (T14.setTop (mkF m 69 #[.val (.ref a1), .val (.long x), .second] [(.int (0 : Int32))])) _
            exact kt)
          obtain ⟨fs, hr, hrun, hended, hW, hsame⟩ := X14.leave (v := some (.int (0 : Int32))) (fun h => by rw [Bd.returns] at h; cases h)
          refine ⟨_, _, k18 _ ?_, hrun, hended, _, _, rfl, ?_, ⟨_, rfl⟩, hW, hsame.mono (by decide) (by decide)⟩
          · exact retN X14 hx (t := .boolean) Bd.returns (by simp) (hb hby d1_69) hr
          · show Q1 x sg bits h0 n0 _ T14.heap _
            rw [e14]
            exact ⟨by simp only [own_holds, hc4_4, hc41_6, hc50_11, hc61_16, if_true, if_false], N0, rfl⟩
  · have k19 := fun (t : State) (kt : Steps p.tables e below (T2.setTop (mkF m 8 #[.val (.ref a1), .val (.long x), .second] [(.ref a1)])) t) => k3 t (by
      refine XS.ifNo X2.here hx rfl (hb hby d1_4) rfl ((if0 _ _).trans (feq hc4_4).1) ?_
      show Steps p.tables e below (T2.setTop (mkF m 7 #[.val (.ref a1), .val (.long x), .second] [])) _
      refine XS.aloadN X2.here hx rfl (hb hby d1_7) rfl rfl ?_
      show Steps p.tables e below (T2.setTop (mkF m 8 #[.val (.ref a1), .val (.long x), .second] [(.ref a1)])) _
      exact kt)
    obtain ⟨T20, X20, e20, st20⟩ := getF X2 hx hZ hown (host := "") (Or.inl (hw _ (List.mem_of_getElem? (i := 13) rfl))) Via.refl e2 F2 (g := (mkF m 8 #[.val (.ref a1), .val (.long x), .second] [(.ref a1)])) rfl rfl (hb hby d1_8)
    have k21 := fun (t : State) (kt : Steps p.tables e below (T20.setTop (mkF m 13 #[.val (.ref a1), .val (.long x), .second] [(.int (64 : Int32)), (.int bits)])) t) => k19 t (by
      refine st20 _ ?_
      show Steps p.tables e below (T20.setTop (mkF m 11 #[.val (.ref a1), .val (.long x), .second] [(.int bits)])) _
      refine XS.bipush X20.here hx rfl (hb hby d1_11) ?_
      show Steps p.tables e below (T20.setTop (mkF m 13 #[.val (.ref a1), .val (.long x), .second] [(.int (64 : Int32)), (.int bits)])) _
      exact kt)
    by_cases hc13_22 : bits = (64 : Int32)
    · have k23 := fun (t : State) (kt : Steps p.tables e below (T20.setTop (mkF m 37 #[.val (.ref a1), .val (.long x), .second] [(.int (1 : Int32))])) t) => k21 t (by
        refine XS.icmpYes X20.here hx rfl (pc0 := 13) (pc' := 32) rfl (hb hby d1_13) rfl (teq hc13_22).1 (by decide) (by decide) ?_
        show Steps p.tables e below (T20.setTop (mkF m 32 #[.val (.ref a1), .val (.long x), .second] [])) _
        refine XS.iconst X20.here hx rfl (hb hby d1_32) ?_
        show Steps p.tables e below (T20.setTop (mkF m 33 #[.val (.ref a1), .val (.long x), .second] [(.int (1 : Int32))])) _
        refine XS.goto X20.here hx rfl (pc0 := 33) (pc' := 37) rfl (hb hby d1_33) (by decide) (by decide) ?_
        show Steps p.tables e below (T20.setTop (mkF m 37 #[.val (.ref a1), .val (.long x), .second] [(.int (1 : Int32))])) _
        exact kt)
      obtain ⟨fs, hr, hrun, hended, hW, hsame⟩ := X20.leave (v := some (.int (1 : Int32))) (fun h => by rw [Bd.returns] at h; cases h)
      refine ⟨_, _, k23 _ ?_, hrun, hended, _, _, rfl, ?_, ⟨_, rfl⟩, hW, hsame.mono (by decide) (by decide)⟩
      · exact retN X20 hx (t := .boolean) Bd.returns (by simp) (hb hby d1_37) hr
      · show Q1 x sg bits h0 n0 _ T20.heap _
        rw [e20]
        exact ⟨by simp only [own_holds, hc4_4, hc13_22, if_true, if_false], N0, rfl⟩
    · have k24 := fun (t : State) (kt : Steps p.tables e below (T20.setTop (mkF m 18 #[.val (.ref a1), .val (.long x), .second] [(.ref a1), (.long x)])) t) => k21 t (by
        refine XS.icmpNo X20.here hx rfl (hb hby d1_13) rfl (feq hc13_22).1 ?_
        show Steps p.tables e below (T20.setTop (mkF m 16 #[.val (.ref a1), .val (.long x), .second] [])) _
        refine XS.lloadN X20.here hx rfl (hb hby d1_16) rfl ?_
        show Steps p.tables e below (T20.setTop (mkF m 17 #[.val (.ref a1), .val (.long x), .second] [(.long x)])) _
        refine XS.aloadN X20.here hx rfl (hb hby d1_17) rfl rfl ?_
        show Steps p.tables e below (T20.setTop (mkF m 18 #[.val (.ref a1), .val (.long x), .second] [(.ref a1), (.long x)])) _
        exact kt)
      obtain ⟨T25, X25, e25, st25⟩ := getF X20 hx hZ hown (host := "") (Or.inl (hw _ (List.mem_of_getElem? (i := 13) rfl))) Via.refl e20 F2 (g := (mkF m 18 #[.val (.ref a1), .val (.long x), .second] [(.ref a1), (.long x)])) rfl rfl (hb hby d1_18)
      have k26 := fun (t : State) (kt : Steps p.tables e below (T25.setTop (mkF m 29 #[.val (.ref a1), .val (.long x), .second] [(.int (lcmpW (x >>> ((bits - (1 : Int32)) &&& 0x3f).toInt64) (x >>> ((63 : Int32) &&& 0x3f).toInt64)))])) t) => k24 t (by
        refine st25 _ ?_
        show Steps p.tables e below (T25.setTop (mkF m 21 #[.val (.ref a1), .val (.long x), .second] [(.int bits), (.long x)])) _
        refine XS.iconst X25.here hx rfl (hb hby d1_21) ?_
        show Steps p.tables e below (T25.setTop (mkF m 22 #[.val (.ref a1), .val (.long x), .second] [(.int (1 : Int32)), (.int bits), (.long x)])) _
        refine XS.isub X25.here hx rfl (hb hby d1_22) rfl ?_
        show Steps p.tables e below (T25.setTop (mkF m 23 #[.val (.ref a1), .val (.long x), .second] [(.int (bits - (1 : Int32))), (.long x)])) _
        refine XS.lshr X25.here hx rfl (hb hby d1_23) rfl ?_
        show Steps p.tables e below (T25.setTop (mkF m 24 #[.val (.ref a1), .val (.long x), .second] [(.long (x >>> ((bits - (1 : Int32)) &&& 0x3f).toInt64))])) _
        refine XS.lloadN X25.here hx rfl (hb hby d1_24) rfl ?_
        show Steps p.tables e below (T25.setTop (mkF m 25 #[.val (.ref a1), .val (.long x), .second] [(.long x), (.long (x >>> ((bits - (1 : Int32)) &&& 0x3f).toInt64))])) _
        refine XS.bipush X25.here hx rfl (hb hby d1_25) ?_
        show Steps p.tables e below (T25.setTop (mkF m 27 #[.val (.ref a1), .val (.long x), .second] [(.int (63 : Int32)), (.long x), (.long (x >>> ((bits - (1 : Int32)) &&& 0x3f).toInt64))])) _
        refine XS.lshr X25.here hx rfl (hb hby d1_27) rfl ?_
        show Steps p.tables e below (T25.setTop (mkF m 28 #[.val (.ref a1), .val (.long x), .second] [(.long (x >>> ((63 : Int32) &&& 0x3f).toInt64)), (.long (x >>> ((bits - (1 : Int32)) &&& 0x3f).toInt64))])) _
        refine XS.lcmp X25.here hx rfl (hb hby d1_28) rfl ?_
        show Steps p.tables e below (T25.setTop (mkF m 29 #[.val (.ref a1), .val (.long x), .second] [(.int (lcmpW (x >>> ((bits - (1 : Int32)) &&& 0x3f).toInt64) (x >>> ((63 : Int32) &&& 0x3f).toInt64)))])) _
        exact kt)
      by_cases hc29_27 : (x >>> ((bits - (1 : Int32)) &&& 0x3f).toInt64) = (x >>> ((63 : Int32) &&& 0x3f).toInt64)
      · have k28 := fun (t : State) (kt : Steps p.tables e below (T25.setTop (mkF m 37 #[.val (.ref a1), .val (.long x), .second] [(.int (1 : Int32))])) t) => k26 t (by
          refine XS.ifNo X25.here hx rfl (hb hby d1_29) rfl ((if0 _ _).trans (teq ((lw_eq (x >>> ((bits - (1 : Int32)) &&& 0x3f).toInt64) (x >>> ((63 : Int32) &&& 0x3f).toInt64)).mpr hc29_27)).2) ?_
          show Steps p.tables e below (T25.setTop (mkF m 32 #[.val (.ref a1), .val (.long x), .second] [])) _
          refine XS.iconst X25.here hx rfl (hb hby d1_32) ?_
          show Steps p.tables e below (T25.setTop (mkF m 33 #[.val (.ref a1), .val (.long x), .second] [(.int (1 : Int32))])) _
          refine XS.goto X25.here hx rfl (pc0 := 33) (pc' := 37) rfl (hb hby d1_33) (by decide) (by decide) ?_
          show Steps p.tables e below (T25.setTop (mkF m 37 #[.val (.ref a1), .val (.long x), .second] [(.int (1 : Int32))])) _
          exact kt)
        obtain ⟨fs, hr, hrun, hended, hW, hsame⟩ := X25.leave (v := some (.int (1 : Int32))) (fun h => by rw [Bd.returns] at h; cases h)
        refine ⟨_, _, k28 _ ?_, hrun, hended, _, _, rfl, ?_, ⟨_, rfl⟩, hW, hsame.mono (by decide) (by decide)⟩
        · exact retN X25 hx (t := .boolean) Bd.returns (by simp) (hb hby d1_37) hr
        · show Q1 x sg bits h0 n0 _ T25.heap _
          rw [e25]
          exact ⟨by simp only [own_holds, hc4_4, hc13_22, hc29_27, if_true, if_false], N0, rfl⟩
      · have k29 := fun (t : State) (kt : Steps p.tables e below (T25.setTop (mkF m 37 #[.val (.ref a1), .val (.long x), .second] [(.int (0 : Int32))])) t) => k26 t (by
          refine XS.ifYes X25.here hx rfl (pc0 := 29) (pc' := 36) rfl (hb hby d1_29) rfl ((if0 _ _).trans (feq (fun q => hc29_27 ((lw_eq (x >>> ((bits - (1 : Int32)) &&& 0x3f).toInt64) (x >>> ((63 : Int32) &&& 0x3f).toInt64)).mp q))).2) (by decide) (by decide) ?_
          show Steps p.tables e below (T25.setTop (mkF m 36 #[.val (.ref a1), .val (.long x), .second] [])) _
          refine XS.iconst X25.here hx rfl (hb hby d1_36) ?_
          show Steps p.tables e below (T25.setTop (mkF m 37 #[.val (.ref a1), .val (.long x), .second] [(.int (0 : Int32))])) _
          exact kt)
        obtain ⟨fs, hr, hrun, hended, hW, hsame⟩ := X25.leave (v := some (.int (0 : Int32))) (fun h => by rw [Bd.returns] at h; cases h)
        refine ⟨_, _, k29 _ ?_, hrun, hended, _, _, rfl, ?_, ⟨_, rfl⟩, hW, hsame.mono (by decide) (by decide)⟩
        · exact retN X25 hx (t := .boolean) Bd.returns (by simp) (hb hby d1_37) hr
        · show Q1 x sg bits h0 n0 _ T25.heap _
          rw [e25]
          exact ⟨by simp only [own_holds, hc4_4, hc13_22, hc29_27, if_true, if_false], N0, rfl⟩

theorem pd_0 : parseMethodDescriptor "(J)Z" = some ⟨[.long], some .boolean⟩ := by decide +kernel
theorem pn_com_example_tightwire_tightwire_KindHoldsPinLaw : plainName "com/example/tightwire/tightwire/KindHoldsPinLaw" = true := by first | (simp [plainName, overriddenIn]; done) | decide +kernel
theorem ef_0 (m : MethodId) (x0 : Int32) (x1 : Int64) (x2 : Int32) : entryFrame m #[(.int x0), (.long x1), (.int x2)] maxLocals = mkF m 0 #[.val (.int x0), .val (.long x1), .second, .val (.int x2), .unset, .unset, .unset, .unset, .unset, .unset, .unset, .unset, .unset, .unset, .unset, .unset] [] := by first | (simp [entryFrame, mkF, argsToLocals, Value.category, maxLocals]; done) | rfl
def Q0 (n0 : Nat) (v : Option Value) (h : Heap) (L : List Loc) : Prop := v = some (.int 1) ∧ Fr n0 L
set_option maxRecDepth 65536 in
set_option maxHeartbeats 40000000 in
theorem rm0 (l : Launch) (Z : State) (a0 : Array Value) (hw : ∀ d ∈ tables_1, d.before a0 Z = true) (ws : List Jvm.Cond) (p1 : Int32) (p2 : Int64) (p3 : Int32) (aINT8 : Addr) (aINT32 : Addr) (aUINT64 : Addr) (aINT16 : Addr) (aUINT8 : Addr) (aUINT16 : Addr) (aINT64 : Addr) (aUINT32 : Addr) (h0 : Heap) (n0 : Nat) (O0 : Old Z n0 h0) (S_INT8 : Sta Z Z.heap "com/example/tightwire/tightwire/Kind" "INT8" "Lcom/example/tightwire/tightwire/Kind;" (.ref aINT8)) (E_INT8 : Exa Z Z.heap aINT8 "com/example/tightwire/tightwire/Kind") (F_INT8_signed : Fld Z Z.heap aINT8 "com/example/tightwire/tightwire/Kind" "signed" "Z" (.int (1 : Int32))) (F_INT8_bits : Fld Z Z.heap aINT8 "com/example/tightwire/tightwire/Kind" "bits" "I" (.int (8 : Int32))) (S_INT32 : Sta Z Z.heap "com/example/tightwire/tightwire/Kind" "INT32" "Lcom/example/tightwire/tightwire/Kind;" (.ref aINT32)) (E_INT32 : Exa Z Z.heap aINT32 "com/example/tightwire/tightwire/Kind") (F_INT32_signed : Fld Z Z.heap aINT32 "com/example/tightwire/tightwire/Kind" "signed" "Z" (.int (1 : Int32))) (F_INT32_bits : Fld Z Z.heap aINT32 "com/example/tightwire/tightwire/Kind" "bits" "I" (.int (32 : Int32))) (S_UINT64 : Sta Z Z.heap "com/example/tightwire/tightwire/Kind" "UINT64" "Lcom/example/tightwire/tightwire/Kind;" (.ref aUINT64)) (E_UINT64 : Exa Z Z.heap aUINT64 "com/example/tightwire/tightwire/Kind") (F_UINT64_signed : Fld Z Z.heap aUINT64 "com/example/tightwire/tightwire/Kind" "signed" "Z" (.int (0 : Int32))) (F_UINT64_bits : Fld Z Z.heap aUINT64 "com/example/tightwire/tightwire/Kind" "bits" "I" (.int (64 : Int32))) (S_INT16 : Sta Z Z.heap "com/example/tightwire/tightwire/Kind" "INT16" "Lcom/example/tightwire/tightwire/Kind;" (.ref aINT16)) (E_INT16 : Exa Z Z.heap aINT16 "com/example/tightwire/tightwire/Kind") (F_INT16_signed : Fld Z Z.heap aINT16 "com/example/tightwire/tightwire/Kind" "signed" "Z" (.int (1 : Int32))) (F_INT16_bits : Fld Z Z.heap aINT16 "com/example/tightwire/tightwire/Kind" "bits" "I" (.int (16 : Int32))) (S_UINT8 : Sta Z Z.heap "com/example/tightwire/tightwire/Kind" "UINT8" "Lcom/example/tightwire/tightwire/Kind;" (.ref aUINT8)) (E_UINT8 : Exa Z Z.heap aUINT8 "com/example/tightwire/tightwire/Kind") (F_UINT8_signed : Fld Z Z.heap aUINT8 "com/example/tightwire/tightwire/Kind" "signed" "Z" (.int (0 : Int32))) (F_UINT8_bits : Fld Z Z.heap aUINT8 "com/example/tightwire/tightwire/Kind" "bits" "I" (.int (8 : Int32))) (S_UINT16 : Sta Z Z.heap "com/example/tightwire/tightwire/Kind" "UINT16" "Lcom/example/tightwire/tightwire/Kind;" (.ref aUINT16)) (E_UINT16 : Exa Z Z.heap aUINT16 "com/example/tightwire/tightwire/Kind") (F_UINT16_signed : Fld Z Z.heap aUINT16 "com/example/tightwire/tightwire/Kind" "signed" "Z" (.int (0 : Int32))) (F_UINT16_bits : Fld Z Z.heap aUINT16 "com/example/tightwire/tightwire/Kind" "bits" "I" (.int (16 : Int32))) (S_INT64 : Sta Z Z.heap "com/example/tightwire/tightwire/Kind" "INT64" "Lcom/example/tightwire/tightwire/Kind;" (.ref aINT64)) (E_INT64 : Exa Z Z.heap aINT64 "com/example/tightwire/tightwire/Kind") (F_INT64_signed : Fld Z Z.heap aINT64 "com/example/tightwire/tightwire/Kind" "signed" "Z" (.int (1 : Int32))) (F_INT64_bits : Fld Z Z.heap aINT64 "com/example/tightwire/tightwire/Kind" "bits" "I" (.int (64 : Int32))) (S_UINT32 : Sta Z Z.heap "com/example/tightwire/tightwire/Kind" "UINT32" "Lcom/example/tightwire/tightwire/Kind;" (.ref aUINT32)) (E_UINT32 : Exa Z Z.heap aUINT32 "com/example/tightwire/tightwire/Kind") (F_UINT32_signed : Fld Z Z.heap aUINT32 "com/example/tightwire/tightwire/Kind" "signed" "Z" (.int (0 : Int32))) (F_UINT32_bits : Fld Z Z.heap aUINT32 "com/example/tightwire/tightwire/Kind" "bits" "I" (.int (32 : Int32))) :
    MetFree l x (head1 (Jvm.Cond.code x code maxLocals ret :: ws) room_1) (fun a U => a = #[(.int p1), (.long p2), (.int p3)] ∧ Z.Warmed39 U.vm ∧ U.heap = h0) (fun _ _ _ _ _ => True) (fun _ U o U' => ∃ v L, o = .returned v ∧ Q0 n0 v U'.heap L ∧ FrameEnd U o U' L 0 0) := by
  refine MetFree.of_bodySF (plainFor_of_name pn_com_example_tightwire_tightwire_KindHoldsPinLaw) hisR ?_
  intro p e s m args below meth kode s₁ Bd hml0 hP hK
  obtain ⟨rfl, hZ, hh⟩ := hP
  have hx := Bd.exec
  have hby := Bd.bytes
  have hml : kode.maxLocals = 16 := hml0
  have hown : s.vm.findClass "com/example/tightwire/tightwire/KindHoldsPinLaw" = some m.cls := findClass_of_methodNamed Bd.named
  have hnm := (name_of_methodNamed Bd.named Bd.method).1
  have X0 : Stand p l e room_1 s m #[(.int p1), (.long p2), (.int p3)] below meth kode s₁ [] 0 0 := Stand.of_body Bd
  have e0 : s₁.heap = h0 := by rw [← hh, Bd.state]; rfl
  have N0 := Fr.nil n0
  have pre0 : ∀ t, Steps p.tables e below (s₁.setTop (mkF m 0 #[.val (.int p1), .val (.long p2), .second, .val (.int p3), .unset, .unset, .unset, .unset, .unset, .unset, .unset, .unset, .unset, .unset, .unset, .unset] [])) t → Steps p.tables e below (s₁.setTop (entryFrame m #[(.int p1), (.long p2), (.int p3)] maxLocals)) t := fun t k => castTop (ef_0 m p1 p2 p3) k
  rcases own_sel p1 with hk | hk | hk | hk | hk | hk | hk | hk
  · have k1 := fun (t : State) (kt : Steps p.tables e below (s₁.setTop (mkF m 8 #[.val (.int p1), .val (.long p2), .second, .val (.int p3), .val (.int (p1 &&& (7 : Int32))), .unset, .unset, .unset, .unset, .unset, .unset, .unset, .unset, .unset, .unset, .unset] [(.int (p1 &&& (7 : Int32)))])) t) => pre0 t (by
      refine XS.iloadN X0.here hx rfl (hb hby at_0) rfl ?_
      show Steps p.tables e below (s₁.setTop (mkF m 1 #[.val (.int p1), .val (.long p2), .second, .val (.int p3), .unset, .unset, .unset, .unset, .unset, .unset, .unset, .unset, .unset, .unset, .unset, .unset] [(.int p1)])) _
      refine XS.bipush X0.here hx rfl (hb hby at_1) ?_
      show Steps p.tables e below (s₁.setTop (mkF m 3 #[.val (.int p1), .val (.long p2), .second, .val (.int p3), .unset, .unset, .unset, .unset, .unset, .unset, .unset, .unset, .unset, .unset, .unset, .unset] [(.int (7 : Int32)), (.int p1)])) _
      refine XS.iand X0.here hx rfl (hb hby at_3) rfl ?_
      show Steps p.tables e below (s₁.setTop (mkF m 4 #[.val (.int p1), .val (.long p2), .second, .val (.int p3), .unset, .unset, .unset, .unset, .unset, .unset, .unset, .unset, .unset, .unset, .unset, .unset] [(.int (p1 &&& (7 : Int32)))])) _
      refine XS.istore X0.here hx rfl (hb hby at_4) rfl (l' := #[.val (.int p1), .val (.long p2), .second, .val (.int p3), .val (.int (p1 &&& (7 : Int32))), .unset, .unset, .unset, .unset, .unset, .unset, .unset, .unset, .unset, .unset, .unset]) rfl ?_
      show Steps p.tables e below (s₁.setTop (mkF m 6 #[.val (.int p1), .val (.long p2), .second, .val (.int p3), .val (.int (p1 &&& (7 : Int32))), .unset, .unset, .unset, .unset, .unset, .unset, .unset, .unset, .unset, .unset, .unset] [])) _
      refine XS.iload X0.here hx rfl (hb hby at_6) rfl ?_
      show Steps p.tables e below (s₁.setTop (mkF m 8 #[.val (.int p1), .val (.long p2), .second, .val (.int p3), .val (.int (p1 &&& (7 : Int32))), .unset, .unset, .unset, .unset, .unset, .unset, .unset, .unset, .unset, .unset, .unset] [(.int (p1 &&& (7 : Int32)))])) _
      exact kt)
    have k2 := fun (t : State) (kt : Steps p.tables e below (s₁.setTop (mkF m 11 #[.val (.int p1), .val (.long p2), .second, .val (.int p3), .val (.int (p1 &&& (7 : Int32))), .unset, .unset, .unset, .unset, .unset, .unset, .unset, .unset, .unset, .unset, .unset] [])) t) => k1 t (by
      refine XS.ifNo X0.here hx rfl (hb hby at_8) rfl ((if0 _ _).trans (teq hk).2) ?_
      show Steps p.tables e below (s₁.setTop (mkF m 11 #[.val (.int p1), .val (.long p2), .second, .val (.int p3), .val (.int (p1 &&& (7 : Int32))), .unset, .unset, .unset, .unset, .unset, .unset, .unset, .unset, .unset, .unset, .unset] [])) _
      exact kt)
    obtain ⟨T3, X3, e3, st3⟩ := getS2 X0 hx hZ hown (host := "") (Or.inl (hw _ (List.mem_of_getElem? (i := 0) rfl))) Via.refl e0 (S_INT8.ext O0.2) (g := (mkF m 11 #[.val (.int p1), .val (.long p2), .second, .val (.int p3), .val (.int (p1 &&& (7 : Int32))), .unset, .unset, .unset, .unset, .unset, .unset, .unset, .unset, .unset, .unset, .unset] [])) rfl (hb hby at_11)
    have k4 := fun (t : State) (kt : Steps p.tables e below (T3.setTop (mkF m 181 #[.val (.int p1), .val (.long p2), .second, .val (.int p3), .val (.int (p1 &&& (7 : Int32))), .val (.ref aINT8), .val (.long (-128 : Int64)), .second, .val (.long (127 : Int64)), .second, .unset, .unset, .unset, .unset, .unset, .unset] [])) t) => k2 t (by
      refine st3 _ ?_
      show Steps p.tables e below (T3.setTop (mkF m 14 #[.val (.int p1), .val (.long p2), .second, .val (.int p3), .val (.int (p1 &&& (7 : Int32))), .unset, .unset, .unset, .unset, .unset, .unset, .unset, .unset, .unset, .unset, .unset] [(.ref aINT8)])) _
      refine XS.astore X3.here hx rfl (hb hby at_14) rfl rfl (l' := #[.val (.int p1), .val (.long p2), .second, .val (.int p3), .val (.int (p1 &&& (7 : Int32))), .val (.ref aINT8), .unset, .unset, .unset, .unset, .unset, .unset, .unset, .unset, .unset, .unset]) rfl ?_
      show Steps p.tables e below (T3.setTop (mkF m 16 #[.val (.int p1), .val (.long p2), .second, .val (.int p3), .val (.int (p1 &&& (7 : Int32))), .val (.ref aINT8), .unset, .unset, .unset, .unset, .unset, .unset, .unset, .unset, .unset, .unset] [])) _
      refine X3.ldc2Long hx hown (mvT hZ (hw _ (List.mem_of_getElem? (i := 3) rfl))) (g := (mkF m 16 #[.val (.int p1), .val (.long p2), .second, .val (.int p3), .val (.int (p1 &&& (7 : Int32))), .val (.ref aINT8), .unset, .unset, .unset, .unset, .unset, .unset, .unset, .unset, .unset, .unset] [])) rfl (hb hby at_16) _ ?_
      show Steps p.tables e below (T3.setTop (mkF m 19 #[.val (.int p1), .val (.long p2), .second, .val (.int p3), .val (.int (p1 &&& (7 : Int32))), .val (.ref aINT8), .unset, .unset, .unset, .unset, .unset, .unset, .unset, .unset, .unset, .unset] [(.long (-128 : Int64))])) _
      refine XS.lstore X3.here hx rfl (hb hby at_19) rfl (l' := #[.val (.int p1), .val (.long p2), .second, .val (.int p3), .val (.int (p1 &&& (7 : Int32))), .val (.ref aINT8), .val (.long (-128 : Int64)), .second, .unset, .unset, .unset, .unset, .unset, .unset, .unset, .unset]) rfl ?_
      show Steps p.tables e below (T3.setTop (mkF m 21 #[.val (.int p1), .val (.long p2), .second, .val (.int p3), .val (.int (p1 &&& (7 : Int32))), .val (.ref aINT8), .val (.long (-128 : Int64)), .second, .unset, .unset, .unset, .unset, .unset, .unset, .unset, .unset] [])) _
      refine X3.ldc2Long hx hown (mvT hZ (hw _ (List.mem_of_getElem? (i := 4) rfl))) (g := (mkF m 21 #[.val (.int p1), .val (.long p2), .second, .val (.int p3), .val (.int (p1 &&& (7 : Int32))), .val (.ref aINT8), .val (.long (-128 : Int64)), .second, .unset, .unset, .unset, .unset, .unset, .unset, .unset, .unset] [])) rfl (hb hby at_21) _ ?_
      show Steps p.tables e below (T3.setTop (mkF m 24 #[.val (.int p1), .val (.long p2), .second, .val (.int p3), .val (.int (p1 &&& (7 : Int32))), .val (.ref aINT8), .val (.long (-128 : Int64)), .second, .unset, .unset, .unset, .unset, .unset, .unset, .unset, .unset] [(.long (127 : Int64))])) _
      refine XS.lstore X3.here hx rfl (hb hby at_24) rfl (l' := #[.val (.int p1), .val (.long p2), .second, .val (.int p3), .val (.int (p1 &&& (7 : Int32))), .val (.ref aINT8), .val (.long (-128 : Int64)), .second, .val (.long (127 : Int64)), .second, .unset, .unset, .unset, .unset, .unset, .unset]) rfl ?_
      show Steps p.tables e below (T3.setTop (mkF m 26 #[.val (.int p1), .val (.long p2), .second, .val (.int p3), .val (.int (p1 &&& (7 : Int32))), .val (.ref aINT8), .val (.long (-128 : Int64)), .second, .val (.long (127 : Int64)), .second, .unset, .unset, .unset, .unset, .unset, .unset] [])) _
      refine XS.goto X3.here hx rfl (pc0 := 26) (pc' := 181) rfl (hb hby at_26) (by decide) (by decide) ?_
      show Steps p.tables e below (T3.setTop (mkF m 181 #[.val (.int p1), .val (.long p2), .second, .val (.int p3), .val (.int (p1 &&& (7 : Int32))), .val (.ref aINT8), .val (.long (-128 : Int64)), .second, .val (.long (127 : Int64)), .second, .unset, .unset, .unset, .unset, .unset, .unset] [])) _
      exact kt)
    refine cps (A := ∃ xv : Int64, ∀ t, Steps p.tables e below (T3.setTop (mkF m 244 #[.val (.int p1), .val (.long p2), .second, .val (.int p3), .val (.int (p1 &&& (7 : Int32))), .val (.ref aINT8), .val (.long (-128 : Int64)), .second, .val (.long (127 : Int64)), .second, .val (.int (p3 &&& (3 : Int32))), .val (.long ((p2 &&& (3 : Int64)) - (1 : Int64))), .second, .val (.long xv), .second, .unset] [])) t → Steps p.tables e below (s₁.setTop (entryFrame m #[(.int p1), (.long p2), (.int p3)] maxLocals)) t) ?_ ?_
    · intro join
      have k5 := fun (t : State) (kt : Steps p.tables e below (T3.setTop (mkF m 197 #[.val (.int p1), .val (.long p2), .second, .val (.int p3), .val (.int (p1 &&& (7 : Int32))), .val (.ref aINT8), .val (.long (-128 : Int64)), .second, .val (.long (127 : Int64)), .second, .val (.int (p3 &&& (3 : Int32))), .val (.long ((p2 &&& (3 : Int64)) - (1 : Int64))), .second, .unset, .unset, .unset] [(.int (p3 &&& (3 : Int32)))])) t) => k4 t (by
        refine XS.iloadN X3.here hx rfl (hb hby at_181) rfl ?_
        show Steps p.tables e below (T3.setTop (mkF m 182 #[.val (.int p1), .val (.long p2), .second, .val (.int p3), .val (.int (p1 &&& (7 : Int32))), .val (.ref aINT8), .val (.long (-128 : Int64)), .second, .val (.long (127 : Int64)), .second, .unset, .unset, .unset, .unset, .unset, .unset] [(.int p3)])) _
        refine XS.iconst X3.here hx rfl (hb hby at_182) ?_
        show Steps p.tables e below (T3.setTop (mkF m 183 #[.val (.int p1), .val (.long p2), .second, .val (.int p3), .val (.int (p1 &&& (7 : Int32))), .val (.ref aINT8), .val (.long (-128 : Int64)), .second, .val (.long (127 : Int64)), .second, .unset, .unset, .unset, .unset, .unset, .unset] [(.int (3 : Int32)), (.int p3)])) _
        refine XS.iand X3.here hx rfl (hb hby at_183) rfl ?_
        show Steps p.tables e below (T3.setTop (mkF m 184 #[.val (.int p1), .val (.long p2), .second, .val (.int p3), .val (.int (p1 &&& (7 : Int32))), .val (.ref aINT8), .val (.long (-128 : Int64)), .second, .val (.long (127 : Int64)), .second, .unset, .unset, .unset, .unset, .unset, .unset] [(.int (p3 &&& (3 : Int32)))])) _
        refine XS.istore X3.here hx rfl (hb hby at_184) rfl (l' := #[.val (.int p1), .val (.long p2), .second, .val (.int p3), .val (.int (p1 &&& (7 : Int32))), .val (.ref aINT8), .val (.long (-128 : Int64)), .second, .val (.long (127 : Int64)), .second, .val (.int (p3 &&& (3 : Int32))), .unset, .unset, .unset, .unset, .unset]) rfl ?_
        show Steps p.tables e below (T3.setTop (mkF m 186 #[.val (.int p1), .val (.long p2), .second, .val (.int p3), .val (.int (p1 &&& (7 : Int32))), .val (.ref aINT8), .val (.long (-128 : Int64)), .second, .val (.long (127 : Int64)), .second, .val (.int (p3 &&& (3 : Int32))), .unset, .unset, .unset, .unset, .unset] [])) _
        refine XS.lloadN X3.here hx rfl (hb hby at_186) rfl ?_
        show Steps p.tables e below (T3.setTop (mkF m 187 #[.val (.int p1), .val (.long p2), .second, .val (.int p3), .val (.int (p1 &&& (7 : Int32))), .val (.ref aINT8), .val (.long (-128 : Int64)), .second, .val (.long (127 : Int64)), .second, .val (.int (p3 &&& (3 : Int32))), .unset, .unset, .unset, .unset, .unset] [(.long p2)])) _
        refine X3.ldc2Long hx hown (mvT hZ (hw _ (List.mem_of_getElem? (i := 5) rfl))) (g := (mkF m 187 #[.val (.int p1), .val (.long p2), .second, .val (.int p3), .val (.int (p1 &&& (7 : Int32))), .val (.ref aINT8), .val (.long (-128 : Int64)), .second, .val (.long (127 : Int64)), .second, .val (.int (p3 &&& (3 : Int32))), .unset, .unset, .unset, .unset, .unset] [(.long p2)])) rfl (hb hby at_187) _ ?_
        show Steps p.tables e below (T3.setTop (mkF m 190 #[.val (.int p1), .val (.long p2), .second, .val (.int p3), .val (.int (p1 &&& (7 : Int32))), .val (.ref aINT8), .val (.long (-128 : Int64)), .second, .val (.long (127 : Int64)), .second, .val (.int (p3 &&& (3 : Int32))), .unset, .unset, .unset, .unset, .unset] [(.long (3 : Int64)), (.long p2)])) _
        refine XS.land X3.here hx rfl (hb hby at_190) rfl ?_
        show Steps p.tables e below (T3.setTop (mkF m 191 #[.val (.int p1), .val (.long p2), .second, .val (.int p3), .val (.int (p1 &&& (7 : Int32))), .val (.ref aINT8), .val (.long (-128 : Int64)), .second, .val (.long (127 : Int64)), .second, .val (.int (p3 &&& (3 : Int32))), .unset, .unset, .unset, .unset, .unset] [(.long (p2 &&& (3 : Int64)))])) _
        refine XS.lconst X3.here hx rfl (hb hby at_191) ?_
        show Steps p.tables e below (T3.setTop (mkF m 192 #[.val (.int p1), .val (.long p2), .second, .val (.int p3), .val (.int (p1 &&& (7 : Int32))), .val (.ref aINT8), .val (.long (-128 : Int64)), .second, .val (.long (127 : Int64)), .second, .val (.int (p3 &&& (3 : Int32))), .unset, .unset, .unset, .unset, .unset] [(.long (1 : Int64)), (.long (p2 &&& (3 : Int64)))])) _
        refine XS.lsub X3.here hx rfl (hb hby at_192) rfl ?_
        show Steps p.tables e below (T3.setTop (mkF m 193 #[.val (.int p1), .val (.long p2), .second, .val (.int p3), .val (.int (p1 &&& (7 : Int32))), .val (.ref aINT8), .val (.long (-128 : Int64)), .second, .val (.long (127 : Int64)), .second, .val (.int (p3 &&& (3 : Int32))), .unset, .unset, .unset, .unset, .unset] [(.long ((p2 &&& (3 : Int64)) - (1 : Int64)))])) _
        refine XS.lstore X3.here hx rfl (hb hby at_193) rfl (l' := #[.val (.int p1), .val (.long p2), .second, .val (.int p3), .val (.int (p1 &&& (7 : Int32))), .val (.ref aINT8), .val (.long (-128 : Int64)), .second, .val (.long (127 : Int64)), .second, .val (.int (p3 &&& (3 : Int32))), .val (.long ((p2 &&& (3 : Int64)) - (1 : Int64))), .second, .unset, .unset, .unset]) rfl ?_
        show Steps p.tables e below (T3.setTop (mkF m 195 #[.val (.int p1), .val (.long p2), .second, .val (.int p3), .val (.int (p1 &&& (7 : Int32))), .val (.ref aINT8), .val (.long (-128 : Int64)), .second, .val (.long (127 : Int64)), .second, .val (.int (p3 &&& (3 : Int32))), .val (.long ((p2 &&& (3 : Int64)) - (1 : Int64))), .second, .unset, .unset, .unset] [])) _
        refine XS.iload X3.here hx rfl (hb hby at_195) rfl ?_
        show Steps p.tables e below (T3.setTop (mkF m 197 #[.val (.int p1), .val (.long p2), .second, .val (.int p3), .val (.int (p1 &&& (7 : Int32))), .val (.ref aINT8), .val (.long (-128 : Int64)), .second, .val (.long (127 : Int64)), .second, .val (.int (p3 &&& (3 : Int32))), .val (.long ((p2 &&& (3 : Int64)) - (1 : Int64))), .second, .unset, .unset, .unset] [(.int (p3 &&& (3 : Int32)))])) _
        exact kt)
      by_cases hc197_6 : (p3 &&& (3 : Int32)) = (0 : Int32)
      · have k7 := fun (t : State) (kt : Steps p.tables e below (T3.setTop (mkF m 244 #[.val (.int p1), .val (.long p2), .second, .val (.int p3), .val (.int (p1 &&& (7 : Int32))), .val (.ref aINT8), .val (.long (-128 : Int64)), .second, .val (.long (127 : Int64)), .second, .val (.int (p3 &&& (3 : Int32))), .val (.long ((p2 &&& (3 : Int64)) - (1 : Int64))), .second, .val (.long p2), .second, .unset] [])) t) => k5 t (by
          refine XS.ifNo X3.here hx rfl (hb hby at_197) rfl ((if0 _ _).trans (teq hc197_6).2) ?_
          show Steps p.tables e below (T3.setTop (mkF m 200 #[.val (.int p1), .val (.long p2), .second, .val (.int p3), .val (.int (p1 &&& (7 : Int32))), .val (.ref aINT8), .val (.long (-128 : Int64)), .second, .val (.long (127 : Int64)), .second, .val (.int (p3 &&& (3 : Int32))), .val (.long ((p2 &&& (3 : Int64)) - (1 : Int64))), .second, .unset, .unset, .unset] [])) _
          refine XS.lloadN X3.here hx rfl (hb hby at_200) rfl ?_
          show Steps p.tables e below (T3.setTop (mkF m 201 #[.val (.int p1), .val (.long p2), .second, .val (.int p3), .val (.int (p1 &&& (7 : Int32))), .val (.ref aINT8), .val (.long (-128 : Int64)), .second, .val (.long (127 : Int64)), .second, .val (.int (p3 &&& (3 : Int32))), .val (.long ((p2 &&& (3 : Int64)) - (1 : Int64))), .second, .unset, .unset, .unset] [(.long p2)])) _
          refine XS.lstore X3.here hx rfl (hb hby at_201) rfl (l' := #[.val (.int p1), .val (.long p2), .second, .val (.int p3), .val (.int (p1 &&& (7 : Int32))), .val (.ref aINT8), .val (.long (-128 : Int64)), .second, .val (.long (127 : Int64)), .second, .val (.int (p3 &&& (3 : Int32))), .val (.long ((p2 &&& (3 : Int64)) - (1 : Int64))), .second, .val (.long p2), .second, .unset]) rfl ?_
          show Steps p.tables e below (T3.setTop (mkF m 203 #[.val (.int p1), .val (.long p2), .second, .val (.int p3), .val (.int (p1 &&& (7 : Int32))), .val (.ref aINT8), .val (.long (-128 : Int64)), .second, .val (.long (127 : Int64)), .second, .val (.int (p3 &&& (3 : Int32))), .val (.long ((p2 &&& (3 : Int64)) - (1 : Int64))), .second, .val (.long p2), .second, .unset] [])) _
          refine XS.goto X3.here hx rfl (pc0 := 203) (pc' := 244) rfl (hb hby at_203) (by decide) (by decide) ?_
          show Steps p.tables e below (T3.setTop (mkF m 244 #[.val (.int p1), .val (.long p2), .second, .val (.int p3), .val (.int (p1 &&& (7 : Int32))), .val (.ref aINT8), .val (.long (-128 : Int64)), .second, .val (.long (127 : Int64)), .second, .val (.int (p3 &&& (3 : Int32))), .val (.long ((p2 &&& (3 : Int64)) - (1 : Int64))), .second, .val (.long p2), .second, .unset] [])) _
          exact kt)
        exact join ⟨_, k7⟩
      · have k8 := fun (t : State) (kt : Steps p.tables e below (T3.setTop (mkF m 209 #[.val (.int p1), .val (.long p2), .second, .val (.int p3), .val (.int (p1 &&& (7 : Int32))), .val (.ref aINT8), .val (.long (-128 : Int64)), .second, .val (.long (127 : Int64)), .second, .val (.int (p3 &&& (3 : Int32))), .val (.long ((p2 &&& (3 : Int64)) - (1 : Int64))), .second, .unset, .unset, .unset] [(.int (1 : Int32)), (.int (p3 &&& (3 : Int32)))])) t) => k5 t (by
          refine XS.ifYes X3.here hx rfl (pc0 := 197) (pc' := 206) rfl (hb hby at_197) rfl ((if0 _ _).trans (feq hc197_6).2) (by decide) (by decide) ?_
          show Steps p.tables e below (T3.setTop (mkF m 206 #[.val (.int p1), .val (.long p2), .second, .val (.int p3), .val (.int (p1 &&& (7 : Int32))), .val (.ref aINT8), .val (.long (-128 : Int64)), .second, .val (.long (127 : Int64)), .second, .val (.int (p3 &&& (3 : Int32))), .val (.long ((p2 &&& (3 : Int64)) - (1 : Int64))), .second, .unset, .unset, .unset] [])) _
          refine XS.iload X3.here hx rfl (hb hby at_206) rfl ?_
          show Steps p.tables e below (T3.setTop (mkF m 208 #[.val (.int p1), .val (.long p2), .second, .val (.int p3), .val (.int (p1 &&& (7 : Int32))), .val (.ref aINT8), .val (.long (-128 : Int64)), .second, .val (.long (127 : Int64)), .second, .val (.int (p3 &&& (3 : Int32))), .val (.long ((p2 &&& (3 : Int64)) - (1 : Int64))), .second, .unset, .unset, .unset] [(.int (p3 &&& (3 : Int32)))])) _
          refine XS.iconst X3.here hx rfl (hb hby at_208) ?_
          show Steps p.tables e below (T3.setTop (mkF m 209 #[.val (.int p1), .val (.long p2), .second, .val (.int p3), .val (.int (p1 &&& (7 : Int32))), .val (.ref aINT8), .val (.long (-128 : Int64)), .second, .val (.long (127 : Int64)), .second, .val (.int (p3 &&& (3 : Int32))), .val (.long ((p2 &&& (3 : Int64)) - (1 : Int64))), .second, .unset, .unset, .unset] [(.int (1 : Int32)), (.int (p3 &&& (3 : Int32)))])) _
          exact kt)
        by_cases hc209_9 : (p3 &&& (3 : Int32)) = (1 : Int32)
        · have k10 := fun (t : State) (kt : Steps p.tables e below (T3.setTop (mkF m 244 #[.val (.int p1), .val (.long p2), .second, .val (.int p3), .val (.int (p1 &&& (7 : Int32))), .val (.ref aINT8), .val (.long (-128 : Int64)), .second, .val (.long (127 : Int64)), .second, .val (.int (p3 &&& (3 : Int32))), .val (.long ((p2 &&& (3 : Int64)) - (1 : Int64))), .second, .val (.long ((127 : Int64) + ((p2 &&& (3 : Int64)) - (1 : Int64)))), .second, .unset] [])) t) => k8 t (by
            refine XS.icmpNo X3.here hx rfl (hb hby at_209) rfl (teq hc209_9).2 ?_
            show Steps p.tables e below (T3.setTop (mkF m 212 #[.val (.int p1), .val (.long p2), .second, .val (.int p3), .val (.int (p1 &&& (7 : Int32))), .val (.ref aINT8), .val (.long (-128 : Int64)), .second, .val (.long (127 : Int64)), .second, .val (.int (p3 &&& (3 : Int32))), .val (.long ((p2 &&& (3 : Int64)) - (1 : Int64))), .second, .unset, .unset, .unset] [])) _
            refine XS.lload X3.here hx rfl (hb hby at_212) rfl ?_
            show Steps p.tables e below (T3.setTop (mkF m 214 #[.val (.int p1), .val (.long p2), .second, .val (.int p3), .val (.int (p1 &&& (7 : Int32))), .val (.ref aINT8), .val (.long (-128 : Int64)), .second, .val (.long (127 : Int64)), .second, .val (.int (p3 &&& (3 : Int32))), .val (.long ((p2 &&& (3 : Int64)) - (1 : Int64))), .second, .unset, .unset, .unset] [(.long (127 : Int64))])) _
            refine XS.lload X3.here hx rfl (hb hby at_214) rfl ?_
            show Steps p.tables e below (T3.setTop (mkF m 216 #[.val (.int p1), .val (.long p2), .second, .val (.int p3), .val (.int (p1 &&& (7 : Int32))), .val (.ref aINT8), .val (.long (-128 : Int64)), .second, .val (.long (127 : Int64)), .second, .val (.int (p3 &&& (3 : Int32))), .val (.long ((p2 &&& (3 : Int64)) - (1 : Int64))), .second, .unset, .unset, .unset] [(.long ((p2 &&& (3 : Int64)) - (1 : Int64))), (.long (127 : Int64))])) _
            refine XS.ladd X3.here hx rfl (hb hby at_216) rfl ?_
            show Steps p.tables e below (T3.setTop (mkF m 217 #[.val (.int p1), .val (.long p2), .second, .val (.int p3), .val (.int (p1 &&& (7 : Int32))), .val (.ref aINT8), .val (.long (-128 : Int64)), .second, .val (.long (127 : Int64)), .second, .val (.int (p3 &&& (3 : Int32))), .val (.long ((p2 &&& (3 : Int64)) - (1 : Int64))), .second, .unset, .unset, .unset] [(.long ((127 : Int64) + ((p2 &&& (3 : Int64)) - (1 : Int64))))])) _
            refine XS.lstore X3.here hx rfl (hb hby at_217) rfl (l' := #[.val (.int p1), .val (.long p2), .second, .val (.int p3), .val (.int (p1 &&& (7 : Int32))), .val (.ref aINT8), .val (.long (-128 : Int64)), .second, .val (.long (127 : Int64)), .second, .val (.int (p3 &&& (3 : Int32))), .val (.long ((p2 &&& (3 : Int64)) - (1 : Int64))), .second, .val (.long ((127 : Int64) + ((p2 &&& (3 : Int64)) - (1 : Int64)))), .second, .unset]) rfl ?_
            show Steps p.tables e below (T3.setTop (mkF m 219 #[.val (.int p1), .val (.long p2), .second, .val (.int p3), .val (.int (p1 &&& (7 : Int32))), .val (.ref aINT8), .val (.long (-128 : Int64)), .second, .val (.long (127 : Int64)), .second, .val (.int (p3 &&& (3 : Int32))), .val (.long ((p2 &&& (3 : Int64)) - (1 : Int64))), .second, .val (.long ((127 : Int64) + ((p2 &&& (3 : Int64)) - (1 : Int64)))), .second, .unset] [])) _
            refine XS.goto X3.here hx rfl (pc0 := 219) (pc' := 244) rfl (hb hby at_219) (by decide) (by decide) ?_
            show Steps p.tables e below (T3.setTop (mkF m 244 #[.val (.int p1), .val (.long p2), .second, .val (.int p3), .val (.int (p1 &&& (7 : Int32))), .val (.ref aINT8), .val (.long (-128 : Int64)), .second, .val (.long (127 : Int64)), .second, .val (.int (p3 &&& (3 : Int32))), .val (.long ((p2 &&& (3 : Int64)) - (1 : Int64))), .second, .val (.long ((127 : Int64) + ((p2 &&& (3 : Int64)) - (1 : Int64)))), .second, .unset] [])) _
            exact kt)
          exact join ⟨_, k10⟩
        · have k11 := fun (t : State) (kt : Steps p.tables e below (T3.setTop (mkF m 225 #[.val (.int p1), .val (.long p2), .second, .val (.int p3), .val (.int (p1 &&& (7 : Int32))), .val (.ref aINT8), .val (.long (-128 : Int64)), .second, .val (.long (127 : Int64)), .second, .val (.int (p3 &&& (3 : Int32))), .val (.long ((p2 &&& (3 : Int64)) - (1 : Int64))), .second, .unset, .unset, .unset] [(.int (2 : Int32)), (.int (p3 &&& (3 : Int32)))])) t) => k8 t (by
            refine XS.icmpYes X3.here hx rfl (pc0 := 209) (pc' := 222) rfl (hb hby at_209) rfl (feq hc209_9).2 (by decide) (by decide) ?_
            show Steps p.tables e below (T3.setTop (mkF m 222 #[.val (.int p1), .val (.long p2), .second, .val (.int p3), .val (.int (p1 &&& (7 : Int32))), .val (.ref aINT8), .val (.long (-128 : Int64)), .second, .val (.long (127 : Int64)), .second, .val (.int (p3 &&& (3 : Int32))), .val (.long ((p2 &&& (3 : Int64)) - (1 : Int64))), .second, .unset, .unset, .unset] [])) _
            refine XS.iload X3.here hx rfl (hb hby at_222) rfl ?_
            show Steps p.tables e below (T3.setTop (mkF m 224 #[.val (.int p1), .val (.long p2), .second, .val (.int p3), .val (.int (p1 &&& (7 : Int32))), .val (.ref aINT8), .val (.long (-128 : Int64)), .second, .val (.long (127 : Int64)), .second, .val (.int (p3 &&& (3 : Int32))), .val (.long ((p2 &&& (3 : Int64)) - (1 : Int64))), .second, .unset, .unset, .unset] [(.int (p3 &&& (3 : Int32)))])) _
            refine XS.iconst X3.here hx rfl (hb hby at_224) ?_
            show Steps p.tables e below (T3.setTop (mkF m 225 #[.val (.int p1), .val (.long p2), .second, .val (.int p3), .val (.int (p1 &&& (7 : Int32))), .val (.ref aINT8), .val (.long (-128 : Int64)), .second, .val (.long (127 : Int64)), .second, .val (.int (p3 &&& (3 : Int32))), .val (.long ((p2 &&& (3 : Int64)) - (1 : Int64))), .second, .unset, .unset, .unset] [(.int (2 : Int32)), (.int (p3 &&& (3 : Int32)))])) _
            exact kt)
          by_cases hc225_12 : (p3 &&& (3 : Int32)) = (2 : Int32)
          · have k13 := fun (t : State) (kt : Steps p.tables e below (T3.setTop (mkF m 244 #[.val (.int p1), .val (.long p2), .second, .val (.int p3), .val (.int (p1 &&& (7 : Int32))), .val (.ref aINT8), .val (.long (-128 : Int64)), .second, .val (.long (127 : Int64)), .second, .val (.int (p3 &&& (3 : Int32))), .val (.long ((p2 &&& (3 : Int64)) - (1 : Int64))), .second, .val (.long ((-128 : Int64) - ((p2 &&& (3 : Int64)) - (1 : Int64)))), .second, .unset] [])) t) => k11 t (by
              refine XS.icmpNo X3.here hx rfl (hb hby at_225) rfl (teq hc225_12).2 ?_
              show Steps p.tables e below (T3.setTop (mkF m 228 #[.val (.int p1), .val (.long p2), .second, .val (.int p3), .val (.int (p1 &&& (7 : Int32))), .val (.ref aINT8), .val (.long (-128 : Int64)), .second, .val (.long (127 : Int64)), .second, .val (.int (p3 &&& (3 : Int32))), .val (.long ((p2 &&& (3 : Int64)) - (1 : Int64))), .second, .unset, .unset, .unset] [])) _
              refine XS.lload X3.here hx rfl (hb hby at_228) rfl ?_
              show Steps p.tables e below (T3.setTop (mkF m 230 #[.val (.int p1), .val (.long p2), .second, .val (.int p3), .val (.int (p1 &&& (7 : Int32))), .val (.ref aINT8), .val (.long (-128 : Int64)), .second, .val (.long (127 : Int64)), .second, .val (.int (p3 &&& (3 : Int32))), .val (.long ((p2 &&& (3 : Int64)) - (1 : Int64))), .second, .unset, .unset, .unset] [(.long (-128 : Int64))])) _
              refine XS.lload X3.here hx rfl (hb hby at_230) rfl ?_
              show Steps p.tables e below (T3.setTop (mkF m 232 #[.val (.int p1), .val (.long p2), .second, .val (.int p3), .val (.int (p1 &&& (7 : Int32))), .val (.ref aINT8), .val (.long (-128 : Int64)), .second, .val (.long (127 : Int64)), .second, .val (.int (p3 &&& (3 : Int32))), .val (.long ((p2 &&& (3 : Int64)) - (1 : Int64))), .second, .unset, .unset, .unset] [(.long ((p2 &&& (3 : Int64)) - (1 : Int64))), (.long (-128 : Int64))])) _
              refine XS.lsub X3.here hx rfl (hb hby at_232) rfl ?_
              show Steps p.tables e below (T3.setTop (mkF m 233 #[.val (.int p1), .val (.long p2), .second, .val (.int p3), .val (.int (p1 &&& (7 : Int32))), .val (.ref aINT8), .val (.long (-128 : Int64)), .second, .val (.long (127 : Int64)), .second, .val (.int (p3 &&& (3 : Int32))), .val (.long ((p2 &&& (3 : Int64)) - (1 : Int64))), .second, .unset, .unset, .unset] [(.long ((-128 : Int64) - ((p2 &&& (3 : Int64)) - (1 : Int64))))])) _
              refine XS.lstore X3.here hx rfl (hb hby at_233) rfl (l' := #[.val (.int p1), .val (.long p2), .second, .val (.int p3), .val (.int (p1 &&& (7 : Int32))), .val (.ref aINT8), .val (.long (-128 : Int64)), .second, .val (.long (127 : Int64)), .second, .val (.int (p3 &&& (3 : Int32))), .val (.long ((p2 &&& (3 : Int64)) - (1 : Int64))), .second, .val (.long ((-128 : Int64) - ((p2 &&& (3 : Int64)) - (1 : Int64)))), .second, .unset]) rfl ?_
              show Steps p.tables e below (T3.setTop (mkF m 235 #[.val (.int p1), .val (.long p2), .second, .val (.int p3), .val (.int (p1 &&& (7 : Int32))), .val (.ref aINT8), .val (.long (-128 : Int64)), .second, .val (.long (127 : Int64)), .second, .val (.int (p3 &&& (3 : Int32))), .val (.long ((p2 &&& (3 : Int64)) - (1 : Int64))), .second, .val (.long ((-128 : Int64) - ((p2 &&& (3 : Int64)) - (1 : Int64)))), .second, .unset] [])) _
              refine XS.goto X3.here hx rfl (pc0 := 235) (pc' := 244) rfl (hb hby at_235) (by decide) (by decide) ?_
              show Steps p.tables e below (T3.setTop (mkF m 244 #[.val (.int p1), .val (.long p2), .second, .val (.int p3), .val (.int (p1 &&& (7 : Int32))), .val (.ref aINT8), .val (.long (-128 : Int64)), .second, .val (.long (127 : Int64)), .second, .val (.int (p3 &&& (3 : Int32))), .val (.long ((p2 &&& (3 : Int64)) - (1 : Int64))), .second, .val (.long ((-128 : Int64) - ((p2 &&& (3 : Int64)) - (1 : Int64)))), .second, .unset] [])) _
              exact kt)
            exact join ⟨_, k13⟩
          · have k14 := fun (t : State) (kt : Steps p.tables e below (T3.setTop (mkF m 244 #[.val (.int p1), .val (.long p2), .second, .val (.int p3), .val (.int (p1 &&& (7 : Int32))), .val (.ref aINT8), .val (.long (-128 : Int64)), .second, .val (.long (127 : Int64)), .second, .val (.int (p3 &&& (3 : Int32))), .val (.long ((p2 &&& (3 : Int64)) - (1 : Int64))), .second, .val (.long (p2 >>> ((48 : Int32) &&& 0x3f).toInt64)), .second, .unset] [])) t) => k11 t (by
              refine XS.icmpYes X3.here hx rfl (pc0 := 225) (pc' := 238) rfl (hb hby at_225) rfl (feq hc225_12).2 (by decide) (by decide) ?_
              show Steps p.tables e below (T3.setTop (mkF m 238 #[.val (.int p1), .val (.long p2), .second, .val (.int p3), .val (.int (p1 &&& (7 : Int32))), .val (.ref aINT8), .val (.long (-128 : Int64)), .second, .val (.long (127 : Int64)), .second, .val (.int (p3 &&& (3 : Int32))), .val (.long ((p2 &&& (3 : Int64)) - (1 : Int64))), .second, .unset, .unset, .unset] [])) _
              refine XS.lloadN X3.here hx rfl (hb hby at_238) rfl ?_
              show Steps p.tables e below (T3.setTop (mkF m 239 #[.val (.int p1), .val (.long p2), .second, .val (.int p3), .val (.int (p1 &&& (7 : Int32))), .val (.ref aINT8), .val (.long (-128 : Int64)), .second, .val (.long (127 : Int64)), .second, .val (.int (p3 &&& (3 : Int32))), .val (.long ((p2 &&& (3 : Int64)) - (1 : Int64))), .second, .unset, .unset, .unset] [(.long p2)])) _
              refine XS.bipush X3.here hx rfl (hb hby at_239) ?_
              show Steps p.tables e below (T3.setTop (mkF m 241 #[.val (.int p1), .val (.long p2), .second, .val (.int p3), .val (.int (p1 &&& (7 : Int32))), .val (.ref aINT8), .val (.long (-128 : Int64)), .second, .val (.long (127 : Int64)), .second, .val (.int (p3 &&& (3 : Int32))), .val (.long ((p2 &&& (3 : Int64)) - (1 : Int64))), .second, .unset, .unset, .unset] [(.int (48 : Int32)), (.long p2)])) _
              refine XS.lshr X3.here hx rfl (hb hby at_241) rfl ?_
              show Steps p.tables e below (T3.setTop (mkF m 242 #[.val (.int p1), .val (.long p2), .second, .val (.int p3), .val (.int (p1 &&& (7 : Int32))), .val (.ref aINT8), .val (.long (-128 : Int64)), .second, .val (.long (127 : Int64)), .second, .val (.int (p3 &&& (3 : Int32))), .val (.long ((p2 &&& (3 : Int64)) - (1 : Int64))), .second, .unset, .unset, .unset] [(.long (p2 >>> ((48 : Int32) &&& 0x3f).toInt64))])) _
              refine XS.lstore X3.here hx rfl (hb hby at_242) rfl (l' := #[.val (.int p1), .val (.long p2), .second, .val (.int p3), .val (.int (p1 &&& (7 : Int32))), .val (.ref aINT8), .val (.long (-128 : Int64)), .second, .val (.long (127 : Int64)), .second, .val (.int (p3 &&& (3 : Int32))), .val (.long ((p2 &&& (3 : Int64)) - (1 : Int64))), .second, .val (.long (p2 >>> ((48 : Int32) &&& 0x3f).toInt64)), .second, .unset]) rfl ?_
              show Steps p.tables e below (T3.setTop (mkF m 244 #[.val (.int p1), .val (.long p2), .second, .val (.int p3), .val (.int (p1 &&& (7 : Int32))), .val (.ref aINT8), .val (.long (-128 : Int64)), .second, .val (.long (127 : Int64)), .second, .val (.int (p3 &&& (3 : Int32))), .val (.long ((p2 &&& (3 : Int64)) - (1 : Int64))), .second, .val (.long (p2 >>> ((48 : Int32) &&& 0x3f).toInt64)), .second, .unset] [])) _
              exact kt)
            exact join ⟨_, k14⟩
    · rintro ⟨xv, kJ⟩
      have k15 := fun (t : State) (kt : Steps p.tables e below (T3.setTop (mkF m 249 #[.val (.int p1), .val (.long p2), .second, .val (.int p3), .val (.int (p1 &&& (7 : Int32))), .val (.ref aINT8), .val (.long (-128 : Int64)), .second, .val (.long (127 : Int64)), .second, .val (.int (p3 &&& (3 : Int32))), .val (.long ((p2 &&& (3 : Int64)) - (1 : Int64))), .second, .val (.long xv), .second, .unset] [(.int (lcmpW (-128 : Int64) xv))])) t) => kJ t (by
        refine XS.lload X3.here hx rfl (hb hby at_244) rfl ?_
        show Steps p.tables e below (T3.setTop (mkF m 246 #[.val (.int p1), .val (.long p2), .second, .val (.int p3), .val (.int (p1 &&& (7 : Int32))), .val (.ref aINT8), .val (.long (-128 : Int64)), .second, .val (.long (127 : Int64)), .second, .val (.int (p3 &&& (3 : Int32))), .val (.long ((p2 &&& (3 : Int64)) - (1 : Int64))), .second, .val (.long xv), .second, .unset] [(.long (-128 : Int64))])) _
        refine XS.lload X3.here hx rfl (hb hby at_246) rfl ?_
        show Steps p.tables e below (T3.setTop (mkF m 248 #[.val (.int p1), .val (.long p2), .second, .val (.int p3), .val (.int (p1 &&& (7 : Int32))), .val (.ref aINT8), .val (.long (-128 : Int64)), .second, .val (.long (127 : Int64)), .second, .val (.int (p3 &&& (3 : Int32))), .val (.long ((p2 &&& (3 : Int64)) - (1 : Int64))), .second, .val (.long xv), .second, .unset] [(.long xv), (.long (-128 : Int64))])) _
        refine XS.lcmp X3.here hx rfl (hb hby at_248) rfl ?_
        show Steps p.tables e below (T3.setTop (mkF m 249 #[.val (.int p1), .val (.long p2), .second, .val (.int p3), .val (.int (p1 &&& (7 : Int32))), .val (.ref aINT8), .val (.long (-128 : Int64)), .second, .val (.long (127 : Int64)), .second, .val (.int (p3 &&& (3 : Int32))), .val (.long ((p2 &&& (3 : Int64)) - (1 : Int64))), .second, .val (.long xv), .second, .unset] [(.int (lcmpW (-128 : Int64) xv))])) _
        exact kt)
      by_cases hc249_16 : xv < (-128 : Int64)
      · have k17 := fun (t : State) (kt : Steps p.tables e below (T3.setTop (mkF m 271 #[.val (.int p1), .val (.long p2), .second, .val (.int p3), .val (.int (p1 &&& (7 : Int32))), .val (.ref aINT8), .val (.long (-128 : Int64)), .second, .val (.long (127 : Int64)), .second, .val (.int (p3 &&& (3 : Int32))), .val (.long ((p2 &&& (3 : Int64)) - (1 : Int64))), .second, .val (.long xv), .second, .val (.int (0 : Int32))] [(.long xv), (.ref aINT8)])) t) => k15 t (by
          refine XS.ifYes X3.here hx rfl (pc0 := 249) (pc' := 264) rfl (hb hby at_249) rfl ((if0 _ _).trans (tlt ((lw_gt (-128 : Int64) xv).mpr hc249_16)).2.2.1) (by decide) (by decide) ?_
          show Steps p.tables e below (T3.setTop (mkF m 264 #[.val (.int p1), .val (.long p2), .second, .val (.int p3), .val (.int (p1 &&& (7 : Int32))), .val (.ref aINT8), .val (.long (-128 : Int64)), .second, .val (.long (127 : Int64)), .second, .val (.int (p3 &&& (3 : Int32))), .val (.long ((p2 &&& (3 : Int64)) - (1 : Int64))), .second, .val (.long xv), .second, .unset] [])) _
          refine XS.iconst X3.here hx rfl (hb hby at_264) ?_
          show Steps p.tables e below (T3.setTop (mkF m 265 #[.val (.int p1), .val (.long p2), .second, .val (.int p3), .val (.int (p1 &&& (7 : Int32))), .val (.ref aINT8), .val (.long (-128 : Int64)), .second, .val (.long (127 : Int64)), .second, .val (.int (p3 &&& (3 : Int32))), .val (.long ((p2 &&& (3 : Int64)) - (1 : Int64))), .second, .val (.long xv), .second, .unset] [(.int (0 : Int32))])) _
          refine XS.istore X3.here hx rfl (hb hby at_265) rfl (l' := #[.val (.int p1), .val (.long p2), .second, .val (.int p3), .val (.int (p1 &&& (7 : Int32))), .val (.ref aINT8), .val (.long (-128 : Int64)), .second, .val (.long (127 : Int64)), .second, .val (.int (p3 &&& (3 : Int32))), .val (.long ((p2 &&& (3 : Int64)) - (1 : Int64))), .second, .val (.long xv), .second, .val (.int (0 : Int32))]) rfl ?_
          show Steps p.tables e below (T3.setTop (mkF m 267 #[.val (.int p1), .val (.long p2), .second, .val (.int p3), .val (.int (p1 &&& (7 : Int32))), .val (.ref aINT8), .val (.long (-128 : Int64)), .second, .val (.long (127 : Int64)), .second, .val (.int (p3 &&& (3 : Int32))), .val (.long ((p2 &&& (3 : Int64)) - (1 : Int64))), .second, .val (.long xv), .second, .val (.int (0 : Int32))] [])) _
          refine XS.aload X3.here hx rfl (hb hby at_267) rfl rfl ?_
          show Steps p.tables e below (T3.setTop (mkF m 269 #[.val (.int p1), .val (.long p2), .second, .val (.int p3), .val (.int (p1 &&& (7 : Int32))), .val (.ref aINT8), .val (.long (-128 : Int64)), .second, .val (.long (127 : Int64)), .second, .val (.int (p3 &&& (3 : Int32))), .val (.long ((p2 &&& (3 : Int64)) - (1 : Int64))), .second, .val (.long xv), .second, .val (.int (0 : Int32))] [(.ref aINT8)])) _
          refine XS.lload X3.here hx rfl (hb hby at_269) rfl ?_
          show Steps p.tables e below (T3.setTop (mkF m 271 #[.val (.int p1), .val (.long p2), .second, .val (.int p3), .val (.int (p1 &&& (7 : Int32))), .val (.ref aINT8), .val (.long (-128 : Int64)), .second, .val (.long (127 : Int64)), .second, .val (.int (p3 &&& (3 : Int32))), .val (.long ((p2 &&& (3 : Int64)) - (1 : Int64))), .second, .val (.long xv), .second, .val (.int (0 : Int32))] [(.long xv), (.ref aINT8)])) _
          exact kt)
        obtain ⟨cq18, kq18, q18a, q18b, q18c⟩ := isOf hZ e3 (E_INT8.ext O0.2)
        obtain ⟨_, _, ⟨T18, L18, k18, n18⟩, -, X18, ⟨Lc18, hQ18, l18, y18, z18⟩, st18⟩ := X3.virtualBack hx (y := (⟨"com/example/tightwire/tightwire/Kind", "holds", "(J)Z"⟩ : MethodName)) (z := (⟨"com/example/tightwire/tightwire/Kind", "holds", "(J)Z"⟩ : MethodName)) hown (mvT hZ (hw _ (List.mem_of_getElem? (i := 6) rfl))) (mvT hZ (hw _ (List.mem_of_getElem? (i := 7) rfl))) (notFace_of_selects (args := #[]) (mvT hZ (hw _ (List.mem_of_getElem? (i := 9) rfl)))) (mvT hZ (hw _ (List.mem_of_getElem? (i := 9) rfl))) (mvT hZ (hw _ (List.mem_of_getElem? (i := 8) rfl))) (by decide) (backOf (W := 0) (rm1 l Z a0 hw [] aINT8 xv (1 : Int32) (8 : Int32) h0 n0 O0 (F_INT8_signed.ext O0.2) (F_INT8_bits.ext O0.2)) hZ (hw _ (List.mem_of_getElem? (i := 10) rfl)) (hw _ (List.mem_of_getElem? (i := 1) rfl)) (by decide) (by decide)) q18a q18c (g := (mkF m 271 #[.val (.int p1), .val (.long p2), .second, .val (.int p3), .val (.int (p1 &&& (7 : Int32))), .val (.ref aINT8), .val (.long (-128 : Int64)), .second, .val (.long (127 : Int64)), .second, .val (.int (p3 &&& (3 : Int32))), .val (.long ((p2 &&& (3 : Int64)) - (1 : Int64))), .second, .val (.long xv), .second, .val (.int (0 : Int32))] [(.long xv), (.ref aINT8)])) rfl (by rw [hml]; rfl) (Steps.refl _) (argsL := [(.long xv)]) (rest := []) (lenOf pd_0 rfl) rfl (by show 2 * 0 + _ ≤ _; exact Nat.le_of_eq rfl) (hb hby at_271) (fun _ _ => ⟨rfl, e3, (by decide : 0 + 0 ≤ _), (by decide : 0 + 0 ≤ _)⟩)
        dsimp only [Pt.U, Pt.locs, Pt.cells, Pt.slots] at X18 l18 y18 z18 st18 hQ18
        subst l18 y18 z18
        obtain ⟨rfl, Nq18, eh18⟩ := hQ18
        have N18 := Fr.app N0 Nq18
        have k19 := fun (t : State) (kt : Steps p.tables e below (T18.setTop (mkF m 276 #[.val (.int p1), .val (.long p2), .second, .val (.int p3), .val (.int (p1 &&& (7 : Int32))), .val (.ref aINT8), .val (.long (-128 : Int64)), .second, .val (.long (127 : Int64)), .second, .val (.int (p3 &&& (3 : Int32))), .val (.long ((p2 &&& (3 : Int64)) - (1 : Int64))), .second, .val (.long xv), .second, .val (.int (0 : Int32))] [(.int (0 : Int32)), (.int (own_holds (1 : Int32) (8 : Int32) xv))])) t) => k17 t (by
          refine st18.trans ?_
          show Steps p.tables e below (T18.setTop (mkF m 274 #[.val (.int p1), .val (.long p2), .second, .val (.int p3), .val (.int (p1 &&& (7 : Int32))), .val (.ref aINT8), .val (.long (-128 : Int64)), .second, .val (.long (127 : Int64)), .second, .val (.int (p3 &&& (3 : Int32))), .val (.long ((p2 &&& (3 : Int64)) - (1 : Int64))), .second, .val (.long xv), .second, .val (.int (0 : Int32))] [(.int (own_holds (1 : Int32) (8 : Int32) xv))])) _
          refine XS.iload X18.here hx rfl (hb hby at_274) rfl ?_
          show Steps p.tables e below (T18.setTop (mkF m 276 #[.val (.int p1), .val (.long p2), .second, .val (.int p3), .val (.int (p1 &&& (7 : Int32))), .val (.ref aINT8), .val (.long (-128 : Int64)), .second, .val (.long (127 : Int64)), .second, .val (.int (p3 &&& (3 : Int32))), .val (.long ((p2 &&& (3 : Int64)) - (1 : Int64))), .second, .val (.long xv), .second, .val (.int (0 : Int32))] [(.int (0 : Int32)), (.int (own_holds (1 : Int32) (8 : Int32) xv))])) _
          exact kt)
        have k20 := fun (t : State) (kt : Steps p.tables e below (T18.setTop (mkF m 284 #[.val (.int p1), .val (.long p2), .second, .val (.int p3), .val (.int (p1 &&& (7 : Int32))), .val (.ref aINT8), .val (.long (-128 : Int64)), .second, .val (.long (127 : Int64)), .second, .val (.int (p3 &&& (3 : Int32))), .val (.long ((p2 &&& (3 : Int64)) - (1 : Int64))), .second, .val (.long xv), .second, .val (.int (0 : Int32))] [(.int (1 : Int32))])) t) => k19 t (by
          refine XS.icmpNo X18.here hx rfl (hb hby at_276) rfl (teq (own_lo_INT8 hc249_16)).2 ?_
          show Steps p.tables e below (T18.setTop (mkF m 279 #[.val (.int p1), .val (.long p2), .second, .val (.int p3), .val (.int (p1 &&& (7 : Int32))), .val (.ref aINT8), .val (.long (-128 : Int64)), .second, .val (.long (127 : Int64)), .second, .val (.int (p3 &&& (3 : Int32))), .val (.long ((p2 &&& (3 : Int64)) - (1 : Int64))), .second, .val (.long xv), .second, .val (.int (0 : Int32))] [])) _
          refine XS.iconst X18.here hx rfl (hb hby at_279) ?_
          show Steps p.tables e below (T18.setTop (mkF m 280 #[.val (.int p1), .val (.long p2), .second, .val (.int p3), .val (.int (p1 &&& (7 : Int32))), .val (.ref aINT8), .val (.long (-128 : Int64)), .second, .val (.long (127 : Int64)), .second, .val (.int (p3 &&& (3 : Int32))), .val (.long ((p2 &&& (3 : Int64)) - (1 : Int64))), .second, .val (.long xv), .second, .val (.int (0 : Int32))] [(.int (1 : Int32))])) _
          refine XS.goto X18.here hx rfl (pc0 := 280) (pc' := 284) rfl (hb hby at_280) (by decide) (by decide) ?_
          show Steps p.tables e below (T18.setTop (mkF m 284 #[.val (.int p1), .val (.long p2), .second, .val (.int p3), .val (.int (p1 &&& (7 : Int32))), .val (.ref aINT8), .val (.long (-128 : Int64)), .second, .val (.long (127 : Int64)), .second, .val (.int (p3 &&& (3 : Int32))), .val (.long ((p2 &&& (3 : Int64)) - (1 : Int64))), .second, .val (.long xv), .second, .val (.int (0 : Int32))] [(.int (1 : Int32))])) _
          exact kt)
        obtain ⟨fs, hr, hrun, hended, hW, hsame⟩ := X18.leave (v := some (.int (1 : Int32))) (fun h => by rw [Bd.returns] at h; cases h)
        refine ⟨_, _, k20 _ ?_, hrun, hended, _, _, rfl, ?_, ⟨_, rfl⟩, hW, hsame.mono (by decide) (by decide)⟩
        · exact retN X18 hx (t := .boolean) Bd.returns (by simp) (hb hby at_284) hr
        · show Q0 n0 _ T18.heap _
          rw [eh18]
          exact ⟨rfl, N18⟩
      · have k21 := fun (t : State) (kt : Steps p.tables e below (T3.setTop (mkF m 257 #[.val (.int p1), .val (.long p2), .second, .val (.int p3), .val (.int (p1 &&& (7 : Int32))), .val (.ref aINT8), .val (.long (-128 : Int64)), .second, .val (.long (127 : Int64)), .second, .val (.int (p3 &&& (3 : Int32))), .val (.long ((p2 &&& (3 : Int64)) - (1 : Int64))), .second, .val (.long xv), .second, .unset] [(.int (lcmpW xv (127 : Int64)))])) t) => k15 t (by
          refine XS.ifNo X3.here hx rfl (hb hby at_249) rfl ((if0 _ _).trans (flt (fun q => hc249_16 ((lw_gt (-128 : Int64) xv).mp q))).2.2.1) ?_
          show Steps p.tables e below (T3.setTop (mkF m 252 #[.val (.int p1), .val (.long p2), .second, .val (.int p3), .val (.int (p1 &&& (7 : Int32))), .val (.ref aINT8), .val (.long (-128 : Int64)), .second, .val (.long (127 : Int64)), .second, .val (.int (p3 &&& (3 : Int32))), .val (.long ((p2 &&& (3 : Int64)) - (1 : Int64))), .second, .val (.long xv), .second, .unset] [])) _
          refine XS.lload X3.here hx rfl (hb hby at_252) rfl ?_
          show Steps p.tables e below (T3.setTop (mkF m 254 #[.val (.int p1), .val (.long p2), .second, .val (.int p3), .val (.int (p1 &&& (7 : Int32))), .val (.ref aINT8), .val (.long (-128 : Int64)), .second, .val (.long (127 : Int64)), .second, .val (.int (p3 &&& (3 : Int32))), .val (.long ((p2 &&& (3 : Int64)) - (1 : Int64))), .second, .val (.long xv), .second, .unset] [(.long xv)])) _
          refine XS.lload X3.here hx rfl (hb hby at_254) rfl ?_
          show Steps p.tables e below (T3.setTop (mkF m 256 #[.val (.int p1), .val (.long p2), .second, .val (.int p3), .val (.int (p1 &&& (7 : Int32))), .val (.ref aINT8), .val (.long (-128 : Int64)), .second, .val (.long (127 : Int64)), .second, .val (.int (p3 &&& (3 : Int32))), .val (.long ((p2 &&& (3 : Int64)) - (1 : Int64))), .second, .val (.long xv), .second, .unset] [(.long (127 : Int64)), (.long xv)])) _
          refine XS.lcmp X3.here hx rfl (hb hby at_256) rfl ?_
          show Steps p.tables e below (T3.setTop (mkF m 257 #[.val (.int p1), .val (.long p2), .second, .val (.int p3), .val (.int (p1 &&& (7 : Int32))), .val (.ref aINT8), .val (.long (-128 : Int64)), .second, .val (.long (127 : Int64)), .second, .val (.int (p3 &&& (3 : Int32))), .val (.long ((p2 &&& (3 : Int64)) - (1 : Int64))), .second, .val (.long xv), .second, .unset] [(.int (lcmpW xv (127 : Int64)))])) _
          exact kt)
        by_cases hc257_22 : (127 : Int64) < xv
        · have k23 := fun (t : State) (kt : Steps p.tables e below (T3.setTop (mkF m 271 #[.val (.int p1), .val (.long p2), .second, .val (.int p3), .val (.int (p1 &&& (7 : Int32))), .val (.ref aINT8), .val (.long (-128 : Int64)), .second, .val (.long (127 : Int64)), .second, .val (.int (p3 &&& (3 : Int32))), .val (.long ((p2 &&& (3 : Int64)) - (1 : Int64))), .second, .val (.long xv), .second, .val (.int (0 : Int32))] [(.long xv), (.ref aINT8)])) t) => k21 t (by
            refine XS.ifYes X3.here hx rfl (pc0 := 257) (pc' := 264) rfl (hb hby at_257) rfl ((if0 _ _).trans (tlt ((lw_gt xv (127 : Int64)).mpr hc257_22)).2.2.1) (by decide) (by decide) ?_
            show Steps p.tables e below (T3.setTop (mkF m 264 #[.val (.int p1), .val (.long p2), .second, .val (.int p3), .val (.int (p1 &&& (7 : Int32))), .val (.ref aINT8), .val (.long (-128 : Int64)), .second, .val (.long (127 : Int64)), .second, .val (.int (p3 &&& (3 : Int32))), .val (.long ((p2 &&& (3 : Int64)) - (1 : Int64))), .second, .val (.long xv), .second, .unset] [])) _
            refine XS.iconst X3.here hx rfl (hb hby at_264) ?_
            show Steps p.tables e below (T3.setTop (mkF m 265 #[.val (.int p1), .val (.long p2), .second, .val (.int p3), .val (.int (p1 &&& (7 : Int32))), .val (.ref aINT8), .val (.long (-128 : Int64)), .second, .val (.long (127 : Int64)), .second, .val (.int (p3 &&& (3 : Int32))), .val (.long ((p2 &&& (3 : Int64)) - (1 : Int64))), .second, .val (.long xv), .second, .unset] [(.int (0 : Int32))])) _
            refine XS.istore X3.here hx rfl (hb hby at_265) rfl (l' := #[.val (.int p1), .val (.long p2), .second, .val (.int p3), .val (.int (p1 &&& (7 : Int32))), .val (.ref aINT8), .val (.long (-128 : Int64)), .second, .val (.long (127 : Int64)), .second, .val (.int (p3 &&& (3 : Int32))), .val (.long ((p2 &&& (3 : Int64)) - (1 : Int64))), .second, .val (.long xv), .second, .val (.int (0 : Int32))]) rfl ?_
            show Steps p.tables e below (T3.setTop (mkF m 267 #[.val (.int p1), .val (.long p2), .second, .val (.int p3), .val (.int (p1 &&& (7 : Int32))), .val (.ref aINT8), .val (.long (-128 : Int64)), .second, .val (.long (127 : Int64)), .second, .val (.int (p3 &&& (3 : Int32))), .val (.long ((p2 &&& (3 : Int64)) - (1 : Int64))), .second, .val (.long xv), .second, .val (.int (0 : Int32))] [])) _
            refine XS.aload X3.here hx rfl (hb hby at_267) rfl rfl ?_
            show Steps p.tables e below (T3.setTop (mkF m 269 #[.val (.int p1), .val (.long p2), .second, .val (.int p3), .val (.int (p1 &&& (7 : Int32))), .val (.ref aINT8), .val (.long (-128 : Int64)), .second, .val (.long (127 : Int64)), .second, .val (.int (p3 &&& (3 : Int32))), .val (.long ((p2 &&& (3 : Int64)) - (1 : Int64))), .second, .val (.long xv), .second, .val (.int (0 : Int32))] [(.ref aINT8)])) _
            refine XS.lload X3.here hx rfl (hb hby at_269) rfl ?_
            show Steps p.tables e below (T3.setTop (mkF m 271 #[.val (.int p1), .val (.long p2), .second, .val (.int p3), .val (.int (p1 &&& (7 : Int32))), .val (.ref aINT8), .val (.long (-128 : Int64)), .second, .val (.long (127 : Int64)), .second, .val (.int (p3 &&& (3 : Int32))), .val (.long ((p2 &&& (3 : Int64)) - (1 : Int64))), .second, .val (.long xv), .second, .val (.int (0 : Int32))] [(.long xv), (.ref aINT8)])) _
            exact kt)
          obtain ⟨cq24, kq24, q24a, q24b, q24c⟩ := isOf hZ e3 (E_INT8.ext O0.2)
          obtain ⟨_, _, ⟨T24, L24, k24, n24⟩, -, X24, ⟨Lc24, hQ24, l24, y24, z24⟩, st24⟩ := X3.virtualBack hx (y := (⟨"com/example/tightwire/tightwire/Kind", "holds", "(J)Z"⟩ : MethodName)) (z := (⟨"com/example/tightwire/tightwire/Kind", "holds", "(J)Z"⟩ : MethodName)) hown (mvT hZ (hw _ (List.mem_of_getElem? (i := 6) rfl))) (mvT hZ (hw _ (List.mem_of_getElem? (i := 7) rfl))) (notFace_of_selects (args := #[]) (mvT hZ (hw _ (List.mem_of_getElem? (i := 9) rfl)))) (mvT hZ (hw _ (List.mem_of_getElem? (i := 9) rfl))) (mvT hZ (hw _ (List.mem_of_getElem? (i := 8) rfl))) (by decide) (backOf (W := 0) (rm1 l Z a0 hw [] aINT8 xv (1 : Int32) (8 : Int32) h0 n0 O0 (F_INT8_signed.ext O0.2) (F_INT8_bits.ext O0.2)) hZ (hw _ (List.mem_of_getElem? (i := 10) rfl)) (hw _ (List.mem_of_getElem? (i := 1) rfl)) (by decide) (by decide)) q24a q24c (g := (mkF m 271 #[.val (.int p1), .val (.long p2), .second, .val (.int p3), .val (.int (p1 &&& (7 : Int32))), .val (.ref aINT8), .val (.long (-128 : Int64)), .second, .val (.long (127 : Int64)), .second, .val (.int (p3 &&& (3 : Int32))), .val (.long ((p2 &&& (3 : Int64)) - (1 : Int64))), .second, .val (.long xv), .second, .val (.int (0 : Int32))] [(.long xv), (.ref aINT8)])) rfl (by rw [hml]; rfl) (Steps.refl _) (argsL := [(.long xv)]) (rest := []) (lenOf pd_0 rfl) rfl (by show 2 * 0 + _ ≤ _; exact Nat.le_of_eq rfl) (hb hby at_271) (fun _ _ => ⟨rfl, e3, (by decide : 0 + 0 ≤ _), (by decide : 0 + 0 ≤ _)⟩)
          dsimp only [Pt.U, Pt.locs, Pt.cells, Pt.slots] at X24 l24 y24 z24 st24 hQ24
          subst l24 y24 z24
          obtain ⟨rfl, Nq24, eh24⟩ := hQ24
          have N24 := Fr.app N0 Nq24
          have k25 := fun (t : State) (kt : Steps p.tables e below (T24.setTop (mkF m 276 #[.val (.int p1), .val (.long p2), .second, .val (.int p3), .val (.int (p1 &&& (7 : Int32))), .val (.ref aINT8), .val (.long (-128 : Int64)), .second, .val (.long (127 : Int64)), .second, .val (.int (p3 &&& (3 : Int32))), .val (.long ((p2 &&& (3 : Int64)) - (1 : Int64))), .second, .val (.long xv), .second, .val (.int (0 : Int32))] [(.int (0 : Int32)), (.int (own_holds (1 : Int32) (8 : Int32) xv))])) t) => k23 t (by
            refine st24.trans ?_
            show Steps p.tables e below (T24.setTop (mkF m 274 #[.val (.int p1), .val (.long p2), .second, .val (.int p3), .val (.int (p1 &&& (7 : Int32))), .val (.ref aINT8), .val (.long (-128 : Int64)), .second, .val (.long (127 : Int64)), .second, .val (.int (p3 &&& (3 : Int32))), .val (.long ((p2 &&& (3 : Int64)) - (1 : Int64))), .second, .val (.long xv), .second, .val (.int (0 : Int32))] [(.int (own_holds (1 : Int32) (8 : Int32) xv))])) _
            refine XS.iload X24.here hx rfl (hb hby at_274) rfl ?_
            show Steps p.tables e below (T24.setTop (mkF m 276 #[.val (.int p1), .val (.long p2), .second, .val (.int p3), .val (.int (p1 &&& (7 : Int32))), .val (.ref aINT8), .val (.long (-128 : Int64)), .second, .val (.long (127 : Int64)), .second, .val (.int (p3 &&& (3 : Int32))), .val (.long ((p2 &&& (3 : Int64)) - (1 : Int64))), .second, .val (.long xv), .second, .val (.int (0 : Int32))] [(.int (0 : Int32)), (.int (own_holds (1 : Int32) (8 : Int32) xv))])) _
            exact kt)
          have k26 := fun (t : State) (kt : Steps p.tables e below (T24.setTop (mkF m 284 #[.val (.int p1), .val (.long p2), .second, .val (.int p3), .val (.int (p1 &&& (7 : Int32))), .val (.ref aINT8), .val (.long (-128 : Int64)), .second, .val (.long (127 : Int64)), .second, .val (.int (p3 &&& (3 : Int32))), .val (.long ((p2 &&& (3 : Int64)) - (1 : Int64))), .second, .val (.long xv), .second, .val (.int (0 : Int32))] [(.int (1 : Int32))])) t) => k25 t (by
            refine XS.icmpNo X24.here hx rfl (hb hby at_276) rfl (teq (own_hi_INT8 hc257_22)).2 ?_
            show Steps p.tables e below (T24.setTop (mkF m 279 #[.val (.int p1), .val (.long p2), .second, .val (.int p3), .val (.int (p1 &&& (7 : Int32))), .val (.ref aINT8), .val (.long (-128 : Int64)), .second, .val (.long (127 : Int64)), .second, .val (.int (p3 &&& (3 : Int32))), .val (.long ((p2 &&& (3 : Int64)) - (1 : Int64))), .second, .val (.long xv), .second, .val (.int (0 : Int32))] [])) _
            refine XS.iconst X24.here hx rfl (hb hby at_279) ?_
            show Steps p.tables e below (T24.setTop (mkF m 280 #[.val (.int p1), .val (.long p2), .second, .val (.int p3), .val (.int (p1 &&& (7 : Int32))), .val (.ref aINT8), .val (.long (-128 : Int64)), .second, .val (.long (127 : Int64)), .second, .val (.int (p3 &&& (3 : Int32))), .val (.long ((p2 &&& (3 : Int64)) - (1 : Int64))), .second, .val (.long xv), .second, .val (.int (0 : Int32))] [(.int (1 : Int32))])) _
            refine XS.goto X24.here hx rfl (pc0 := 280) (pc' := 284) rfl (hb hby at_280) (by decide) (by decide) ?_
            show Steps p.tables e below (T24.setTop (mkF m 284 #[.val (.int p1), .val (.long p2), .second, .val (.int p3), .val (.int (p1 &&& (7 : Int32))), .val (.ref aINT8), .val (.long (-128 : Int64)), .second, .val (.long (127 : Int64)), .second, .val (.int (p3 &&& (3 : Int32))), .val (.long ((p2 &&& (3 : Int64)) - (1 : Int64))), .second, .val (.long xv), .second, .val (.int (0 : Int32))] [(.int (1 : Int32))])) _
            exact kt)
          obtain ⟨fs, hr, hrun, hended, hW, hsame⟩ := X24.leave (v := some (.int (1 : Int32))) (fun h => by rw [Bd.returns] at h; cases h)
          refine ⟨_, _, k26 _ ?_, hrun, hended, _, _, rfl, ?_, ⟨_, rfl⟩, hW, hsame.mono (by decide) (by decide)⟩
          · exact retN X24 hx (t := .boolean) Bd.returns (by simp) (hb hby at_284) hr
          · show Q0 n0 _ T24.heap _
            rw [eh24]
            exact ⟨rfl, N24⟩
        · have k27 := fun (t : State) (kt : Steps p.tables e below (T3.setTop (mkF m 271 #[.val (.int p1), .val (.long p2), .second, .val (.int p3), .val (.int (p1 &&& (7 : Int32))), .val (.ref aINT8), .val (.long (-128 : Int64)), .second, .val (.long (127 : Int64)), .second, .val (.int (p3 &&& (3 : Int32))), .val (.long ((p2 &&& (3 : Int64)) - (1 : Int64))), .second, .val (.long xv), .second, .val (.int (1 : Int32))] [(.long xv), (.ref aINT8)])) t) => k21 t (by
            refine XS.ifNo X3.here hx rfl (hb hby at_257) rfl ((if0 _ _).trans (flt (fun q => hc257_22 ((lw_gt xv (127 : Int64)).mp q))).2.2.1) ?_
            show Steps p.tables e below (T3.setTop (mkF m 260 #[.val (.int p1), .val (.long p2), .second, .val (.int p3), .val (.int (p1 &&& (7 : Int32))), .val (.ref aINT8), .val (.long (-128 : Int64)), .second, .val (.long (127 : Int64)), .second, .val (.int (p3 &&& (3 : Int32))), .val (.long ((p2 &&& (3 : Int64)) - (1 : Int64))), .second, .val (.long xv), .second, .unset] [])) _
            refine XS.iconst X3.here hx rfl (hb hby at_260) ?_
            show Steps p.tables e below (T3.setTop (mkF m 261 #[.val (.int p1), .val (.long p2), .second, .val (.int p3), .val (.int (p1 &&& (7 : Int32))), .val (.ref aINT8), .val (.long (-128 : Int64)), .second, .val (.long (127 : Int64)), .second, .val (.int (p3 &&& (3 : Int32))), .val (.long ((p2 &&& (3 : Int64)) - (1 : Int64))), .second, .val (.long xv), .second, .unset] [(.int (1 : Int32))])) _
            refine XS.goto X3.here hx rfl (pc0 := 261) (pc' := 265) rfl (hb hby at_261) (by decide) (by decide) ?_
            show Steps p.tables e below (T3.setTop (mkF m 265 #[.val (.int p1), .val (.long p2), .second, .val (.int p3), .val (.int (p1 &&& (7 : Int32))), .val (.ref aINT8), .val (.long (-128 : Int64)), .second, .val (.long (127 : Int64)), .second, .val (.int (p3 &&& (3 : Int32))), .val (.long ((p2 &&& (3 : Int64)) - (1 : Int64))), .second, .val (.long xv), .second, .unset] [(.int (1 : Int32))])) _
            refine XS.istore X3.here hx rfl (hb hby at_265) rfl (l' := #[.val (.int p1), .val (.long p2), .second, .val (.int p3), .val (.int (p1 &&& (7 : Int32))), .val (.ref aINT8), .val (.long (-128 : Int64)), .second, .val (.long (127 : Int64)), .second, .val (.int (p3 &&& (3 : Int32))), .val (.long ((p2 &&& (3 : Int64)) - (1 : Int64))), .second, .val (.long xv), .second, .val (.int (1 : Int32))]) rfl ?_
            show Steps p.tables e below (T3.setTop (mkF m 267 #[.val (.int p1), .val (.long p2), .second, .val (.int p3), .val (.int (p1 &&& (7 : Int32))), .val (.ref aINT8), .val (.long (-128 : Int64)), .second, .val (.long (127 : Int64)), .second, .val (.int (p3 &&& (3 : Int32))), .val (.long ((p2 &&& (3 : Int64)) - (1 : Int64))), .second, .val (.long xv), .second, .val (.int (1 : Int32))] [])) _
            refine XS.aload X3.here hx rfl (hb hby at_267) rfl rfl ?_
            show Steps p.tables e below (T3.setTop (mkF m 269 #[.val (.int p1), .val (.long p2), .second, .val (.int p3), .val (.int (p1 &&& (7 : Int32))), .val (.ref aINT8), .val (.long (-128 : Int64)), .second, .val (.long (127 : Int64)), .second, .val (.int (p3 &&& (3 : Int32))), .val (.long ((p2 &&& (3 : Int64)) - (1 : Int64))), .second, .val (.long xv), .second, .val (.int (1 : Int32))] [(.ref aINT8)])) _
            refine XS.lload X3.here hx rfl (hb hby at_269) rfl ?_
            show Steps p.tables e below (T3.setTop (mkF m 271 #[.val (.int p1), .val (.long p2), .second, .val (.int p3), .val (.int (p1 &&& (7 : Int32))), .val (.ref aINT8), .val (.long (-128 : Int64)), .second, .val (.long (127 : Int64)), .second, .val (.int (p3 &&& (3 : Int32))), .val (.long ((p2 &&& (3 : Int64)) - (1 : Int64))), .second, .val (.long xv), .second, .val (.int (1 : Int32))] [(.long xv), (.ref aINT8)])) _
            exact kt)
          obtain ⟨cq28, kq28, q28a, q28b, q28c⟩ := isOf hZ e3 (E_INT8.ext O0.2)
          obtain ⟨_, _, ⟨T28, L28, k28, n28⟩, -, X28, ⟨Lc28, hQ28, l28, y28, z28⟩, st28⟩ := X3.virtualBack hx (y := (⟨"com/example/tightwire/tightwire/Kind", "holds", "(J)Z"⟩ : MethodName)) (z := (⟨"com/example/tightwire/tightwire/Kind", "holds", "(J)Z"⟩ : MethodName)) hown (mvT hZ (hw _ (List.mem_of_getElem? (i := 6) rfl))) (mvT hZ (hw _ (List.mem_of_getElem? (i := 7) rfl))) (notFace_of_selects (args := #[]) (mvT hZ (hw _ (List.mem_of_getElem? (i := 9) rfl)))) (mvT hZ (hw _ (List.mem_of_getElem? (i := 9) rfl))) (mvT hZ (hw _ (List.mem_of_getElem? (i := 8) rfl))) (by decide) (backOf (W := 0) (rm1 l Z a0 hw [] aINT8 xv (1 : Int32) (8 : Int32) h0 n0 O0 (F_INT8_signed.ext O0.2) (F_INT8_bits.ext O0.2)) hZ (hw _ (List.mem_of_getElem? (i := 10) rfl)) (hw _ (List.mem_of_getElem? (i := 1) rfl)) (by decide) (by decide)) q28a q28c (g := (mkF m 271 #[.val (.int p1), .val (.long p2), .second, .val (.int p3), .val (.int (p1 &&& (7 : Int32))), .val (.ref aINT8), .val (.long (-128 : Int64)), .second, .val (.long (127 : Int64)), .second, .val (.int (p3 &&& (3 : Int32))), .val (.long ((p2 &&& (3 : Int64)) - (1 : Int64))), .second, .val (.long xv), .second, .val (.int (1 : Int32))] [(.long xv), (.ref aINT8)])) rfl (by rw [hml]; rfl) (Steps.refl _) (argsL := [(.long xv)]) (rest := []) (lenOf pd_0 rfl) rfl (by show 2 * 0 + _ ≤ _; exact Nat.le_of_eq rfl) (hb hby at_271) (fun _ _ => ⟨rfl, e3, (by decide : 0 + 0 ≤ _), (by decide : 0 + 0 ≤ _)⟩)
          dsimp only [Pt.U, Pt.locs, Pt.cells, Pt.slots] at X28 l28 y28 z28 st28 hQ28
          subst l28 y28 z28
          obtain ⟨rfl, Nq28, eh28⟩ := hQ28
          have N28 := Fr.app N0 Nq28
          have k29 := fun (t : State) (kt : Steps p.tables e below (T28.setTop (mkF m 276 #[.val (.int p1), .val (.long p2), .second, .val (.int p3), .val (.int (p1 &&& (7 : Int32))), .val (.ref aINT8), .val (.long (-128 : Int64)), .second, .val (.long (127 : Int64)), .second, .val (.int (p3 &&& (3 : Int32))), .val (.long ((p2 &&& (3 : Int64)) - (1 : Int64))), .second, .val (.long xv), .second, .val (.int (1 : Int32))] [(.int (1 : Int32)), (.int (own_holds (1 : Int32) (8 : Int32) xv))])) t) => k27 t (by
            refine st28.trans ?_
            show Steps p.tables e below (T28.setTop (mkF m 274 #[.val (.int p1), .val (.long p2), .second, .val (.int p3), .val (.int (p1 &&& (7 : Int32))), .val (.ref aINT8), .val (.long (-128 : Int64)), .second, .val (.long (127 : Int64)), .second, .val (.int (p3 &&& (3 : Int32))), .val (.long ((p2 &&& (3 : Int64)) - (1 : Int64))), .second, .val (.long xv), .second, .val (.int (1 : Int32))] [(.int (own_holds (1 : Int32) (8 : Int32) xv))])) _
            refine XS.iload X28.here hx rfl (hb hby at_274) rfl ?_
            show Steps p.tables e below (T28.setTop (mkF m 276 #[.val (.int p1), .val (.long p2), .second, .val (.int p3), .val (.int (p1 &&& (7 : Int32))), .val (.ref aINT8), .val (.long (-128 : Int64)), .second, .val (.long (127 : Int64)), .second, .val (.int (p3 &&& (3 : Int32))), .val (.long ((p2 &&& (3 : Int64)) - (1 : Int64))), .second, .val (.long xv), .second, .val (.int (1 : Int32))] [(.int (1 : Int32)), (.int (own_holds (1 : Int32) (8 : Int32) xv))])) _
            exact kt)
          have k30 := fun (t : State) (kt : Steps p.tables e below (T28.setTop (mkF m 284 #[.val (.int p1), .val (.long p2), .second, .val (.int p3), .val (.int (p1 &&& (7 : Int32))), .val (.ref aINT8), .val (.long (-128 : Int64)), .second, .val (.long (127 : Int64)), .second, .val (.int (p3 &&& (3 : Int32))), .val (.long ((p2 &&& (3 : Int64)) - (1 : Int64))), .second, .val (.long xv), .second, .val (.int (1 : Int32))] [(.int (1 : Int32))])) t) => k29 t (by
            refine XS.icmpNo X28.here hx rfl (hb hby at_276) rfl (teq (own_in_INT8 hc249_16 hc257_22)).2 ?_
            show Steps p.tables e below (T28.setTop (mkF m 279 #[.val (.int p1), .val (.long p2), .second, .val (.int p3), .val (.int (p1 &&& (7 : Int32))), .val (.ref aINT8), .val (.long (-128 : Int64)), .second, .val (.long (127 : Int64)), .second, .val (.int (p3 &&& (3 : Int32))), .val (.long ((p2 &&& (3 : Int64)) - (1 : Int64))), .second, .val (.long xv), .second, .val (.int (1 : Int32))] [])) _
            refine XS.iconst X28.here hx rfl (hb hby at_279) ?_
            show Steps p.tables e below (T28.setTop (mkF m 280 #[.val (.int p1), .val (.long p2), .second, .val (.int p3), .val (.int (p1 &&& (7 : Int32))), .val (.ref aINT8), .val (.long (-128 : Int64)), .second, .val (.long (127 : Int64)), .second, .val (.int (p3 &&& (3 : Int32))), .val (.long ((p2 &&& (3 : Int64)) - (1 : Int64))), .second, .val (.long xv), .second, .val (.int (1 : Int32))] [(.int (1 : Int32))])) _
            refine XS.goto X28.here hx rfl (pc0 := 280) (pc' := 284) rfl (hb hby at_280) (by decide) (by decide) ?_
            show Steps p.tables e below (T28.setTop (mkF m 284 #[.val (.int p1), .val (.long p2), .second, .val (.int p3), .val (.int (p1 &&& (7 : Int32))), .val (.ref aINT8), .val (.long (-128 : Int64)), .second, .val (.long (127 : Int64)), .second, .val (.int (p3 &&& (3 : Int32))), .val (.long ((p2 &&& (3 : Int64)) - (1 : Int64))), .second, .val (.long xv), .second, .val (.int (1 : Int32))] [(.int (1 : Int32))])) _
            exact kt)
          obtain ⟨fs, hr, hrun, hended, hW, hsame⟩ := X28.leave (v := some (.int (1 : Int32))) (fun h => by rw [Bd.returns] at h; cases h)
          refine ⟨_, _, k30 _ ?_, hrun, hended, _, _, rfl, ?_, ⟨_, rfl⟩, hW, hsame.mono (by decide) (by decide)⟩
          · exact retN X28 hx (t := .boolean) Bd.returns (by simp) (hb hby at_284) hr
          · show Q0 n0 _ T28.heap _
            rw [eh28]
            exact ⟨rfl, N28⟩
  · have k31 := fun (t : State) (kt : Steps p.tables e below (s₁.setTop (mkF m 8 #[.val (.int p1), .val (.long p2), .second, .val (.int p3), .val (.int (p1 &&& (7 : Int32))), .unset, .unset, .unset, .unset, .unset, .unset, .unset, .unset, .unset, .unset, .unset] [(.int (p1 &&& (7 : Int32)))])) t) => pre0 t (by
      refine XS.iloadN X0.here hx rfl (hb hby at_0) rfl ?_
      show Steps p.tables e below (s₁.setTop (mkF m 1 #[.val (.int p1), .val (.long p2), .second, .val (.int p3), .unset, .unset, .unset, .unset, .unset, .unset, .unset, .unset, .unset, .unset, .unset, .unset] [(.int p1)])) _
      refine XS.bipush X0.here hx rfl (hb hby at_1) ?_
      show Steps p.tables e below (s₁.setTop (mkF m 3 #[.val (.int p1), .val (.long p2), .second, .val (.int p3), .unset, .unset, .unset, .unset, .unset, .unset, .unset, .unset, .unset, .unset, .unset, .unset] [(.int (7 : Int32)), (.int p1)])) _
      refine XS.iand X0.here hx rfl (hb hby at_3) rfl ?_
      show Steps p.tables e below (s₁.setTop (mkF m 4 #[.val (.int p1), .val (.long p2), .second, .val (.int p3), .unset, .unset, .unset, .unset, .unset, .unset, .unset, .unset, .unset, .unset, .unset, .unset] [(.int (p1 &&& (7 : Int32)))])) _
      refine XS.istore X0.here hx rfl (hb hby at_4) rfl (l' := #[.val (.int p1), .val (.long p2), .second, .val (.int p3), .val (.int (p1 &&& (7 : Int32))), .unset, .unset, .unset, .unset, .unset, .unset, .unset, .unset, .unset, .unset, .unset]) rfl ?_
      show Steps p.tables e below (s₁.setTop (mkF m 6 #[.val (.int p1), .val (.long p2), .second, .val (.int p3), .val (.int (p1 &&& (7 : Int32))), .unset, .unset, .unset, .unset, .unset, .unset, .unset, .unset, .unset, .unset, .unset] [])) _
      refine XS.iload X0.here hx rfl (hb hby at_6) rfl ?_
      show Steps p.tables e below (s₁.setTop (mkF m 8 #[.val (.int p1), .val (.long p2), .second, .val (.int p3), .val (.int (p1 &&& (7 : Int32))), .unset, .unset, .unset, .unset, .unset, .unset, .unset, .unset, .unset, .unset, .unset] [(.int (p1 &&& (7 : Int32)))])) _
      exact kt)
    have k32 := fun (t : State) (kt : Steps p.tables e below (s₁.setTop (mkF m 32 #[.val (.int p1), .val (.long p2), .second, .val (.int p3), .val (.int (p1 &&& (7 : Int32))), .unset, .unset, .unset, .unset, .unset, .unset, .unset, .unset, .unset, .unset, .unset] [(.int (1 : Int32)), (.int (p1 &&& (7 : Int32)))])) t) => k31 t (by
      refine XS.ifYes X0.here hx rfl (pc0 := 8) (pc' := 29) rfl (hb hby at_8) rfl ((if0 _ _).trans (feq (by rw [hk]; decide)).2) (by decide) (by decide) ?_
      show Steps p.tables e below (s₁.setTop (mkF m 29 #[.val (.int p1), .val (.long p2), .second, .val (.int p3), .val (.int (p1 &&& (7 : Int32))), .unset, .unset, .unset, .unset, .unset, .unset, .unset, .unset, .unset, .unset, .unset] [])) _
      refine XS.iload X0.here hx rfl (hb hby at_29) rfl ?_
      show Steps p.tables e below (s₁.setTop (mkF m 31 #[.val (.int p1), .val (.long p2), .second, .val (.int p3), .val (.int (p1 &&& (7 : Int32))), .unset, .unset, .unset, .unset, .unset, .unset, .unset, .unset, .unset, .unset, .unset] [(.int (p1 &&& (7 : Int32)))])) _
      refine XS.iconst X0.here hx rfl (hb hby at_31) ?_
      show Steps p.tables e below (s₁.setTop (mkF m 32 #[.val (.int p1), .val (.long p2), .second, .val (.int p3), .val (.int (p1 &&& (7 : Int32))), .unset, .unset, .unset, .unset, .unset, .unset, .unset, .unset, .unset, .unset, .unset] [(.int (1 : Int32)), (.int (p1 &&& (7 : Int32)))])) _
      exact kt)
    have k33 := fun (t : State) (kt : Steps p.tables e below (s₁.setTop (mkF m 35 #[.val (.int p1), .val (.long p2), .second, .val (.int p3), .val (.int (p1 &&& (7 : Int32))), .unset, .unset, .unset, .unset, .unset, .unset, .unset, .unset, .unset, .unset, .unset] [])) t) => k32 t (by
      refine XS.icmpNo X0.here hx rfl (hb hby at_32) rfl (teq hk).2 ?_
      show Steps p.tables e below (s₁.setTop (mkF m 35 #[.val (.int p1), .val (.long p2), .second, .val (.int p3), .val (.int (p1 &&& (7 : Int32))), .unset, .unset, .unset, .unset, .unset, .unset, .unset, .unset, .unset, .unset, .unset] [])) _
      exact kt)
    obtain ⟨T34, X34, e34, st34⟩ := getS2 X0 hx hZ hown (host := "") (Or.inl (hw _ (List.mem_of_getElem? (i := 26) rfl))) Via.refl e0 (S_UINT8.ext O0.2) (g := (mkF m 35 #[.val (.int p1), .val (.long p2), .second, .val (.int p3), .val (.int (p1 &&& (7 : Int32))), .unset, .unset, .unset, .unset, .unset, .unset, .unset, .unset, .unset, .unset, .unset] [])) rfl (hb hby at_35)
    have k35 := fun (t : State) (kt : Steps p.tables e below (T34.setTop (mkF m 181 #[.val (.int p1), .val (.long p2), .second, .val (.int p3), .val (.int (p1 &&& (7 : Int32))), .val (.ref aUINT8), .val (.long (0 : Int64)), .second, .val (.long (255 : Int64)), .second, .unset, .unset, .unset, .unset, .unset, .unset] [])) t) => k33 t (by
      refine st34 _ ?_
      show Steps p.tables e below (T34.setTop (mkF m 38 #[.val (.int p1), .val (.long p2), .second, .val (.int p3), .val (.int (p1 &&& (7 : Int32))), .unset, .unset, .unset, .unset, .unset, .unset, .unset, .unset, .unset, .unset, .unset] [(.ref aUINT8)])) _
      refine XS.astore X34.here hx rfl (hb hby at_38) rfl rfl (l' := #[.val (.int p1), .val (.long p2), .second, .val (.int p3), .val (.int (p1 &&& (7 : Int32))), .val (.ref aUINT8), .unset, .unset, .unset, .unset, .unset, .unset, .unset, .unset, .unset, .unset]) rfl ?_
      show Steps p.tables e below (T34.setTop (mkF m 40 #[.val (.int p1), .val (.long p2), .second, .val (.int p3), .val (.int (p1 &&& (7 : Int32))), .val (.ref aUINT8), .unset, .unset, .unset, .unset, .unset, .unset, .unset, .unset, .unset, .unset] [])) _
      refine XS.lconst X34.here hx rfl (hb hby at_40) ?_
      show Steps p.tables e below (T34.setTop (mkF m 41 #[.val (.int p1), .val (.long p2), .second, .val (.int p3), .val (.int (p1 &&& (7 : Int32))), .val (.ref aUINT8), .unset, .unset, .unset, .unset, .unset, .unset, .unset, .unset, .unset, .unset] [(.long (0 : Int64))])) _
      refine XS.lstore X34.here hx rfl (hb hby at_41) rfl (l' := #[.val (.int p1), .val (.long p2), .second, .val (.int p3), .val (.int (p1 &&& (7 : Int32))), .val (.ref aUINT8), .val (.long (0 : Int64)), .second, .unset, .unset, .unset, .unset, .unset, .unset, .unset, .unset]) rfl ?_
      show Steps p.tables e below (T34.setTop (mkF m 43 #[.val (.int p1), .val (.long p2), .second, .val (.int p3), .val (.int (p1 &&& (7 : Int32))), .val (.ref aUINT8), .val (.long (0 : Int64)), .second, .unset, .unset, .unset, .unset, .unset, .unset, .unset, .unset] [])) _
      refine X34.ldc2Long hx hown (mvT hZ (hw _ (List.mem_of_getElem? (i := 28) rfl))) (g := (mkF m 43 #[.val (.int p1), .val (.long p2), .second, .val (.int p3), .val (.int (p1 &&& (7 : Int32))), .val (.ref aUINT8), .val (.long (0 : Int64)), .second, .unset, .unset, .unset, .unset, .unset, .unset, .unset, .unset] [])) rfl (hb hby at_43) _ ?_
      show Steps p.tables e below (T34.setTop (mkF m 46 #[.val (.int p1), .val (.long p2), .second, .val (.int p3), .val (.int (p1 &&& (7 : Int32))), .val (.ref aUINT8), .val (.long (0 : Int64)), .second, .unset, .unset, .unset, .unset, .unset, .unset, .unset, .unset] [(.long (255 : Int64))])) _
      refine XS.lstore X34.here hx rfl (hb hby at_46) rfl (l' := #[.val (.int p1), .val (.long p2), .second, .val (.int p3), .val (.int (p1 &&& (7 : Int32))), .val (.ref aUINT8), .val (.long (0 : Int64)), .second, .val (.long (255 : Int64)), .second, .unset, .unset, .unset, .unset, .unset, .unset]) rfl ?_
      show Steps p.tables e below (T34.setTop (mkF m 48 #[.val (.int p1), .val (.long p2), .second, .val (.int p3), .val (.int (p1 &&& (7 : Int32))), .val (.ref aUINT8), .val (.long (0 : Int64)), .second, .val (.long (255 : Int64)), .second, .unset, .unset, .unset, .unset, .unset, .unset] [])) _
      refine XS.goto X34.here hx rfl (pc0 := 48) (pc' := 181) rfl (hb hby at_48) (by decide) (by decide) ?_
      show Steps p.tables e below (T34.setTop (mkF m 181 #[.val (.int p1), .val (.long p2), .second, .val (.int p3), .val (.int (p1 &&& (7 : Int32))), .val (.ref aUINT8), .val (.long (0 : Int64)), .second, .val (.long (255 : Int64)), .second, .unset, .unset, .unset, .unset, .unset, .unset] [])) _
      exact kt)
    refine cps (A := ∃ xv : Int64, ∀ t, Steps p.tables e below (T34.setTop (mkF m 244 #[.val (.int p1), .val (.long p2), .second, .val (.int p3), .val (.int (p1 &&& (7 : Int32))), .val (.ref aUINT8), .val (.long (0 : Int64)), .second, .val (.long (255 : Int64)), .second, .val (.int (p3 &&& (3 : Int32))), .val (.long ((p2 &&& (3 : Int64)) - (1 : Int64))), .second, .val (.long xv), .second, .unset] [])) t → Steps p.tables e below (s₁.setTop (entryFrame m #[(.int p1), (.long p2), (.int p3)] maxLocals)) t) ?_ ?_
    · intro join
      have k36 := fun (t : State) (kt : Steps p.tables e below (T34.setTop (mkF m 197 #[.val (.int p1), .val (.long p2), .second, .val (.int p3), .val (.int (p1 &&& (7 : Int32))), .val (.ref aUINT8), .val (.long (0 : Int64)), .second, .val (.long (255 : Int64)), .second, .val (.int (p3 &&& (3 : Int32))), .val (.long ((p2 &&& (3 : Int64)) - (1 : Int64))), .second, .unset, .unset, .unset] [(.int (p3 &&& (3 : Int32)))])) t) => k35 t (by
        refine XS.iloadN X34.here hx rfl (hb hby at_181) rfl ?_
        show Steps p.tables e below (T34.setTop (mkF m 182 #[.val (.int p1), .val (.long p2), .second, .val (.int p3), .val (.int (p1 &&& (7 : Int32))), .val (.ref aUINT8), .val (.long (0 : Int64)), .second, .val (.long (255 : Int64)), .second, .unset, .unset, .unset, .unset, .unset, .unset] [(.int p3)])) _
        refine XS.iconst X34.here hx rfl (hb hby at_182) ?_
        show Steps p.tables e below (T34.setTop (mkF m 183 #[.val (.int p1), .val (.long p2), .second, .val (.int p3), .val (.int (p1 &&& (7 : Int32))), .val (.ref aUINT8), .val (.long (0 : Int64)), .second, .val (.long (255 : Int64)), .second, .unset, .unset, .unset, .unset, .unset, .unset] [(.int (3 : Int32)), (.int p3)])) _
        refine XS.iand X34.here hx rfl (hb hby at_183) rfl ?_
        show Steps p.tables e below (T34.setTop (mkF m 184 #[.val (.int p1), .val (.long p2), .second, .val (.int p3), .val (.int (p1 &&& (7 : Int32))), .val (.ref aUINT8), .val (.long (0 : Int64)), .second, .val (.long (255 : Int64)), .second, .unset, .unset, .unset, .unset, .unset, .unset] [(.int (p3 &&& (3 : Int32)))])) _
        refine XS.istore X34.here hx rfl (hb hby at_184) rfl (l' := #[.val (.int p1), .val (.long p2), .second, .val (.int p3), .val (.int (p1 &&& (7 : Int32))), .val (.ref aUINT8), .val (.long (0 : Int64)), .second, .val (.long (255 : Int64)), .second, .val (.int (p3 &&& (3 : Int32))), .unset, .unset, .unset, .unset, .unset]) rfl ?_
        show Steps p.tables e below (T34.setTop (mkF m 186 #[.val (.int p1), .val (.long p2), .second, .val (.int p3), .val (.int (p1 &&& (7 : Int32))), .val (.ref aUINT8), .val (.long (0 : Int64)), .second, .val (.long (255 : Int64)), .second, .val (.int (p3 &&& (3 : Int32))), .unset, .unset, .unset, .unset, .unset] [])) _
        refine XS.lloadN X34.here hx rfl (hb hby at_186) rfl ?_
        show Steps p.tables e below (T34.setTop (mkF m 187 #[.val (.int p1), .val (.long p2), .second, .val (.int p3), .val (.int (p1 &&& (7 : Int32))), .val (.ref aUINT8), .val (.long (0 : Int64)), .second, .val (.long (255 : Int64)), .second, .val (.int (p3 &&& (3 : Int32))), .unset, .unset, .unset, .unset, .unset] [(.long p2)])) _
        refine X34.ldc2Long hx hown (mvT hZ (hw _ (List.mem_of_getElem? (i := 5) rfl))) (g := (mkF m 187 #[.val (.int p1), .val (.long p2), .second, .val (.int p3), .val (.int (p1 &&& (7 : Int32))), .val (.ref aUINT8), .val (.long (0 : Int64)), .second, .val (.long (255 : Int64)), .second, .val (.int (p3 &&& (3 : Int32))), .unset, .unset, .unset, .unset, .unset] [(.long p2)])) rfl (hb hby at_187) _ ?_
        show Steps p.tables e below (T34.setTop (mkF m 190 #[.val (.int p1), .val (.long p2), .second, .val (.int p3), .val (.int (p1 &&& (7 : Int32))), .val (.ref aUINT8), .val (.long (0 : Int64)), .second, .val (.long (255 : Int64)), .second, .val (.int (p3 &&& (3 : Int32))), .unset, .unset, .unset, .unset, .unset] [(.long (3 : Int64)), (.long p2)])) _
        refine XS.land X34.here hx rfl (hb hby at_190) rfl ?_
        show Steps p.tables e below (T34.setTop (mkF m 191 #[.val (.int p1), .val (.long p2), .second, .val (.int p3), .val (.int (p1 &&& (7 : Int32))), .val (.ref aUINT8), .val (.long (0 : Int64)), .second, .val (.long (255 : Int64)), .second, .val (.int (p3 &&& (3 : Int32))), .unset, .unset, .unset, .unset, .unset] [(.long (p2 &&& (3 : Int64)))])) _
        refine XS.lconst X34.here hx rfl (hb hby at_191) ?_
        show Steps p.tables e below (T34.setTop (mkF m 192 #[.val (.int p1), .val (.long p2), .second, .val (.int p3), .val (.int (p1 &&& (7 : Int32))), .val (.ref aUINT8), .val (.long (0 : Int64)), .second, .val (.long (255 : Int64)), .second, .val (.int (p3 &&& (3 : Int32))), .unset, .unset, .unset, .unset, .unset] [(.long (1 : Int64)), (.long (p2 &&& (3 : Int64)))])) _
        refine XS.lsub X34.here hx rfl (hb hby at_192) rfl ?_
        show Steps p.tables e below (T34.setTop (mkF m 193 #[.val (.int p1), .val (.long p2), .second, .val (.int p3), .val (.int (p1 &&& (7 : Int32))), .val (.ref aUINT8), .val (.long (0 : Int64)), .second, .val (.long (255 : Int64)), .second, .val (.int (p3 &&& (3 : Int32))), .unset, .unset, .unset, .unset, .unset] [(.long ((p2 &&& (3 : Int64)) - (1 : Int64)))])) _
        refine XS.lstore X34.here hx rfl (hb hby at_193) rfl (l' := #[.val (.int p1), .val (.long p2), .second, .val (.int p3), .val (.int (p1 &&& (7 : Int32))), .val (.ref aUINT8), .val (.long (0 : Int64)), .second, .val (.long (255 : Int64)), .second, .val (.int (p3 &&& (3 : Int32))), .val (.long ((p2 &&& (3 : Int64)) - (1 : Int64))), .second, .unset, .unset, .unset]) rfl ?_
        show Steps p.tables e below (T34.setTop (mkF m 195 #[.val (.int p1), .val (.long p2), .second, .val (.int p3), .val (.int (p1 &&& (7 : Int32))), .val (.ref aUINT8), .val (.long (0 : Int64)), .second, .val (.long (255 : Int64)), .second, .val (.int (p3 &&& (3 : Int32))), .val (.long ((p2 &&& (3 : Int64)) - (1 : Int64))), .second, .unset, .unset, .unset] [])) _
        refine XS.iload X34.here hx rfl (hb hby at_195) rfl ?_
        show Steps p.tables e below (T34.setTop (mkF m 197 #[.val (.int p1), .val (.long p2), .second, .val (.int p3), .val (.int (p1 &&& (7 : Int32))), .val (.ref aUINT8), .val (.long (0 : Int64)), .second, .val (.long (255 : Int64)), .second, .val (.int (p3 &&& (3 : Int32))), .val (.long ((p2 &&& (3 : Int64)) - (1 : Int64))), .second, .unset, .unset, .unset] [(.int (p3 &&& (3 : Int32)))])) _
        exact kt)
      by_cases hc197_37 : (p3 &&& (3 : Int32)) = (0 : Int32)
      · have k38 := fun (t : State) (kt : Steps p.tables e below (T34.setTop (mkF m 244 #[.val (.int p1), .val (.long p2), .second, .val (.int p3), .val (.int (p1 &&& (7 : Int32))), .val (.ref aUINT8), .val (.long (0 : Int64)), .second, .val (.long (255 : Int64)), .second, .val (.int (p3 &&& (3 : Int32))), .val (.long ((p2 &&& (3 : Int64)) - (1 : Int64))), .second, .val (.long p2), .second, .unset] [])) t) => k36 t (by
          refine XS.ifNo X34.here hx rfl (hb hby at_197) rfl ((if0 _ _).trans (teq hc197_37).2) ?_
          show Steps p.tables e below (T34.setTop (mkF m 200 #[.val (.int p1), .val (.long p2), .second, .val (.int p3), .val (.int (p1 &&& (7 : Int32))), .val (.ref aUINT8), .val (.long (0 : Int64)), .second, .val (.long (255 : Int64)), .second, .val (.int (p3 &&& (3 : Int32))), .val (.long ((p2 &&& (3 : Int64)) - (1 : Int64))), .second, .unset, .unset, .unset] [])) _
          refine XS.lloadN X34.here hx rfl (hb hby at_200) rfl ?_
          show Steps p.tables e below (T34.setTop (mkF m 201 #[.val (.int p1), .val (.long p2), .second, .val (.int p3), .val (.int (p1 &&& (7 : Int32))), .val (.ref aUINT8), .val (.long (0 : Int64)), .second, .val (.long (255 : Int64)), .second, .val (.int (p3 &&& (3 : Int32))), .val (.long ((p2 &&& (3 : Int64)) - (1 : Int64))), .second, .unset, .unset, .unset] [(.long p2)])) _
          refine XS.lstore X34.here hx rfl (hb hby at_201) rfl (l' := #[.val (.int p1), .val (.long p2), .second, .val (.int p3), .val (.int (p1 &&& (7 : Int32))), .val (.ref aUINT8), .val (.long (0 : Int64)), .second, .val (.long (255 : Int64)), .second, .val (.int (p3 &&& (3 : Int32))), .val (.long ((p2 &&& (3 : Int64)) - (1 : Int64))), .second, .val (.long p2), .second, .unset]) rfl ?_
          show Steps p.tables e below (T34.setTop (mkF m 203 #[.val (.int p1), .val (.long p2), .second, .val (.int p3), .val (.int (p1 &&& (7 : Int32))), .val (.ref aUINT8), .val (.long (0 : Int64)), .second, .val (.long (255 : Int64)), .second, .val (.int (p3 &&& (3 : Int32))), .val (.long ((p2 &&& (3 : Int64)) - (1 : Int64))), .second, .val (.long p2), .second, .unset] [])) _
          refine XS.goto X34.here hx rfl (pc0 := 203) (pc' := 244) rfl (hb hby at_203) (by decide) (by decide) ?_
          show Steps p.tables e below (T34.setTop (mkF m 244 #[.val (.int p1), .val (.long p2), .second, .val (.int p3), .val (.int (p1 &&& (7 : Int32))), .val (.ref aUINT8), .val (.long (0 : Int64)), .second, .val (.long (255 : Int64)), .second, .val (.int (p3 &&& (3 : Int32))), .val (.long ((p2 &&& (3 : Int64)) - (1 : Int64))), .second, .val (.long p2), .second, .unset] [])) _
          exact kt)
        exact join ⟨_, k38⟩
      · have k39 := fun (t : State) (kt : Steps p.tables e below (T34.setTop (mkF m 209 #[.val (.int p1), .val (.long p2), .second, .val (.int p3), .val (.int (p1 &&& (7 : Int32))), .val (.ref aUINT8), .val (.long (0 : Int64)), .second, .val (.long (255 : Int64)), .second, .val (.int (p3 &&& (3 : Int32))), .val (.long ((p2 &&& (3 : Int64)) - (1 : Int64))), .second, .unset, .unset, .unset] [(.int (1 : Int32)), (.int (p3 &&& (3 : Int32)))])) t) => k36 t (by
          refine XS.ifYes X34.here hx rfl (pc0 := 197) (pc' := 206) rfl (hb hby at_197) rfl ((if0 _ _).trans (feq hc197_37).2) (by decide) (by decide) ?_
          show Steps p.tables e below (T34.setTop (mkF m 206 #[.val (.int p1), .val (.long p2), .second, .val (.int p3), .val (.int (p1 &&& (7 : Int32))), .val (.ref aUINT8), .val (.long (0 : Int64)), .second, .val (.long (255 : Int64)), .second, .val (.int (p3 &&& (3 : Int32))), .val (.long ((p2 &&& (3 : Int64)) - (1 : Int64))), .second, .unset, .unset, .unset] [])) _
          refine XS.iload X34.here hx rfl (hb hby at_206) rfl ?_
          show Steps p.tables e below (T34.setTop (mkF m 208 #[.val (.int p1), .val (.long p2), .second, .val (.int p3), .val (.int (p1 &&& (7 : Int32))), .val (.ref aUINT8), .val (.long (0 : Int64)), .second, .val (.long (255 : Int64)), .second, .val (.int (p3 &&& (3 : Int32))), .val (.long ((p2 &&& (3 : Int64)) - (1 : Int64))), .second, .unset, .unset, .unset] [(.int (p3 &&& (3 : Int32)))])) _
          refine XS.iconst X34.here hx rfl (hb hby at_208) ?_
          show Steps p.tables e below (T34.setTop (mkF m 209 #[.val (.int p1), .val (.long p2), .second, .val (.int p3), .val (.int (p1 &&& (7 : Int32))), .val (.ref aUINT8), .val (.long (0 : Int64)), .second, .val (.long (255 : Int64)), .second, .val (.int (p3 &&& (3 : Int32))), .val (.long ((p2 &&& (3 : Int64)) - (1 : Int64))), .second, .unset, .unset, .unset] [(.int (1 : Int32)), (.int (p3 &&& (3 : Int32)))])) _
          exact kt)
        by_cases hc209_40 : (p3 &&& (3 : Int32)) = (1 : Int32)
        · have k41 := fun (t : State) (kt : Steps p.tables e below (T34.setTop (mkF m 244 #[.val (.int p1), .val (.long p2), .second, .val (.int p3), .val (.int (p1 &&& (7 : Int32))), .val (.ref aUINT8), .val (.long (0 : Int64)), .second, .val (.long (255 : Int64)), .second, .val (.int (p3 &&& (3 : Int32))), .val (.long ((p2 &&& (3 : Int64)) - (1 : Int64))), .second, .val (.long ((255 : Int64) + ((p2 &&& (3 : Int64)) - (1 : Int64)))), .second, .unset] [])) t) => k39 t (by
            refine XS.icmpNo X34.here hx rfl (hb hby at_209) rfl (teq hc209_40).2 ?_
            show Steps p.tables e below (T34.setTop (mkF m 212 #[.val (.int p1), .val (.long p2), .second, .val (.int p3), .val (.int (p1 &&& (7 : Int32))), .val (.ref aUINT8), .val (.long (0 : Int64)), .second, .val (.long (255 : Int64)), .second, .val (.int (p3 &&& (3 : Int32))), .val (.long ((p2 &&& (3 : Int64)) - (1 : Int64))), .second, .unset, .unset, .unset] [])) _
            refine XS.lload X34.here hx rfl (hb hby at_212) rfl ?_
            show Steps p.tables e below (T34.setTop (mkF m 214 #[.val (.int p1), .val (.long p2), .second, .val (.int p3), .val (.int (p1 &&& (7 : Int32))), .val (.ref aUINT8), .val (.long (0 : Int64)), .second, .val (.long (255 : Int64)), .second, .val (.int (p3 &&& (3 : Int32))), .val (.long ((p2 &&& (3 : Int64)) - (1 : Int64))), .second, .unset, .unset, .unset] [(.long (255 : Int64))])) _
            refine XS.lload X34.here hx rfl (hb hby at_214) rfl ?_
            show Steps p.tables e below (T34.setTop (mkF m 216 #[.val (.int p1), .val (.long p2), .second, .val (.int p3), .val (.int (p1 &&& (7 : Int32))), .val (.ref aUINT8), .val (.long (0 : Int64)), .second, .val (.long (255 : Int64)), .second, .val (.int (p3 &&& (3 : Int32))), .val (.long ((p2 &&& (3 : Int64)) - (1 : Int64))), .second, .unset, .unset, .unset] [(.long ((p2 &&& (3 : Int64)) - (1 : Int64))), (.long (255 : Int64))])) _
            refine XS.ladd X34.here hx rfl (hb hby at_216) rfl ?_
            show Steps p.tables e below (T34.setTop (mkF m 217 #[.val (.int p1), .val (.long p2), .second, .val (.int p3), .val (.int (p1 &&& (7 : Int32))), .val (.ref aUINT8), .val (.long (0 : Int64)), .second, .val (.long (255 : Int64)), .second, .val (.int (p3 &&& (3 : Int32))), .val (.long ((p2 &&& (3 : Int64)) - (1 : Int64))), .second, .unset, .unset, .unset] [(.long ((255 : Int64) + ((p2 &&& (3 : Int64)) - (1 : Int64))))])) _
            refine XS.lstore X34.here hx rfl (hb hby at_217) rfl (l' := #[.val (.int p1), .val (.long p2), .second, .val (.int p3), .val (.int (p1 &&& (7 : Int32))), .val (.ref aUINT8), .val (.long (0 : Int64)), .second, .val (.long (255 : Int64)), .second, .val (.int (p3 &&& (3 : Int32))), .val (.long ((p2 &&& (3 : Int64)) - (1 : Int64))), .second, .val (.long ((255 : Int64) + ((p2 &&& (3 : Int64)) - (1 : Int64)))), .second, .unset]) rfl ?_
            show Steps p.tables e below (T34.setTop (mkF m 219 #[.val (.int p1), .val (.long p2), .second, .val (.int p3), .val (.int (p1 &&& (7 : Int32))), .val (.ref aUINT8), .val (.long (0 : Int64)), .second, .val (.long (255 : Int64)), .second, .val (.int (p3 &&& (3 : Int32))), .val (.long ((p2 &&& (3 : Int64)) - (1 : Int64))), .second, .val (.long ((255 : Int64) + ((p2 &&& (3 : Int64)) - (1 : Int64)))), .second, .unset] [])) _
            refine XS.goto X34.here hx rfl (pc0 := 219) (pc' := 244) rfl (hb hby at_219) (by decide) (by decide) ?_
            show Steps p.tables e below (T34.setTop (mkF m 244 #[.val (.int p1), .val (.long p2), .second, .val (.int p3), .val (.int (p1 &&& (7 : Int32))), .val (.ref aUINT8), .val (.long (0 : Int64)), .second, .val (.long (255 : Int64)), .second, .val (.int (p3 &&& (3 : Int32))), .val (.long ((p2 &&& (3 : Int64)) - (1 : Int64))), .second, .val (.long ((255 : Int64) + ((p2 &&& (3 : Int64)) - (1 : Int64)))), .second, .unset] [])) _
            exact kt)
          exact join ⟨_, k41⟩
        · have k42 := fun (t : State) (kt : Steps p.tables e below (T34.setTop (mkF m 225 #[.val (.int p1), .val (.long p2), .second, .val (.int p3), .val (.int (p1 &&& (7 : Int32))), .val (.ref aUINT8), .val (.long (0 : Int64)), .second, .val (.long (255 : Int64)), .second, .val (.int (p3 &&& (3 : Int32))), .val (.long ((p2 &&& (3 : Int64)) - (1 : Int64))), .second, .unset, .unset, .unset] [(.int (2 : Int32)), (.int (p3 &&& (3 : Int32)))])) t) => k39 t (by
            refine XS.icmpYes X34.here hx rfl (pc0 := 209) (pc' := 222) rfl (hb hby at_209) rfl (feq hc209_40).2 (by decide) (by decide) ?_
            show Steps p.tables e below (T34.setTop (mkF m 222 #[.val (.int p1), .val (.long p2), .second, .val (.int p3), .val (.int (p1 &&& (7 : Int32))), .val (.ref aUINT8), .val (.long (0 : Int64)), .second, .val (.long (255 : Int64)), .second, .val (.int (p3 &&& (3 : Int32))), .val (.long ((p2 &&& (3 : Int64)) - (1 : Int64))), .second, .unset, .unset, .unset] [])) _
            refine XS.iload X34.here hx rfl (hb hby at_222) rfl ?_
            show Steps p.tables e below (T34.setTop (mkF m 224 #[.val (.int p1), .val (.long p2), .second, .val (.int p3), .val (.int (p1 &&& (7 : Int32))), .val (.ref aUINT8), .val (.long (0 : Int64)), .second, .val (.long (255 : Int64)), .second, .val (.int (p3 &&& (3 : Int32))), .val (.long ((p2 &&& (3 : Int64)) - (1 : Int64))), .second, .unset, .unset, .unset] [(.int (p3 &&& (3 : Int32)))])) _
            refine XS.iconst X34.here hx rfl (hb hby at_224) ?_
            show Steps p.tables e below (T34.setTop (mkF m 225 #[.val (.int p1), .val (.long p2), .second, .val (.int p3), .val (.int (p1 &&& (7 : Int32))), .val (.ref aUINT8), .val (.long (0 : Int64)), .second, .val (.long (255 : Int64)), .second, .val (.int (p3 &&& (3 : Int32))), .val (.long ((p2 &&& (3 : Int64)) - (1 : Int64))), .second, .unset, .unset, .unset] [(.int (2 : Int32)), (.int (p3 &&& (3 : Int32)))])) _
            exact kt)
          by_cases hc225_43 : (p3 &&& (3 : Int32)) = (2 : Int32)
          · have k44 := fun (t : State) (kt : Steps p.tables e below (T34.setTop (mkF m 244 #[.val (.int p1), .val (.long p2), .second, .val (.int p3), .val (.int (p1 &&& (7 : Int32))), .val (.ref aUINT8), .val (.long (0 : Int64)), .second, .val (.long (255 : Int64)), .second, .val (.int (p3 &&& (3 : Int32))), .val (.long ((p2 &&& (3 : Int64)) - (1 : Int64))), .second, .val (.long ((0 : Int64) - ((p2 &&& (3 : Int64)) - (1 : Int64)))), .second, .unset] [])) t) => k42 t (by
              refine XS.icmpNo X34.here hx rfl (hb hby at_225) rfl (teq hc225_43).2 ?_
              show Steps p.tables e below (T34.setTop (mkF m 228 #[.val (.int p1), .val (.long p2), .second, .val (.int p3), .val (.int (p1 &&& (7 : Int32))), .val (.ref aUINT8), .val (.long (0 : Int64)), .second, .val (.long (255 : Int64)), .second, .val (.int (p3 &&& (3 : Int32))), .val (.long ((p2 &&& (3 : Int64)) - (1 : Int64))), .second, .unset, .unset, .unset] [])) _
              refine XS.lload X34.here hx rfl (hb hby at_228) rfl ?_
              show Steps p.tables e below (T34.setTop (mkF m 230 #[.val (.int p1), .val (.long p2), .second, .val (.int p3), .val (.int (p1 &&& (7 : Int32))), .val (.ref aUINT8), .val (.long (0 : Int64)), .second, .val (.long (255 : Int64)), .second, .val (.int (p3 &&& (3 : Int32))), .val (.long ((p2 &&& (3 : Int64)) - (1 : Int64))), .second, .unset, .unset, .unset] [(.long (0 : Int64))])) _
              refine XS.lload X34.here hx rfl (hb hby at_230) rfl ?_
              show Steps p.tables e below (T34.setTop (mkF m 232 #[.val (.int p1), .val (.long p2), .second, .val (.int p3), .val (.int (p1 &&& (7 : Int32))), .val (.ref aUINT8), .val (.long (0 : Int64)), .second, .val (.long (255 : Int64)), .second, .val (.int (p3 &&& (3 : Int32))), .val (.long ((p2 &&& (3 : Int64)) - (1 : Int64))), .second, .unset, .unset, .unset] [(.long ((p2 &&& (3 : Int64)) - (1 : Int64))), (.long (0 : Int64))])) _
              refine XS.lsub X34.here hx rfl (hb hby at_232) rfl ?_
              show Steps p.tables e below (T34.setTop (mkF m 233 #[.val (.int p1), .val (.long p2), .second, .val (.int p3), .val (.int (p1 &&& (7 : Int32))), .val (.ref aUINT8), .val (.long (0 : Int64)), .second, .val (.long (255 : Int64)), .second, .val (.int (p3 &&& (3 : Int32))), .val (.long ((p2 &&& (3 : Int64)) - (1 : Int64))), .second, .unset, .unset, .unset] [(.long ((0 : Int64) - ((p2 &&& (3 : Int64)) - (1 : Int64))))])) _
              refine XS.lstore X34.here hx rfl (hb hby at_233) rfl (l' := #[.val (.int p1), .val (.long p2), .second, .val (.int p3), .val (.int (p1 &&& (7 : Int32))), .val (.ref aUINT8), .val (.long (0 : Int64)), .second, .val (.long (255 : Int64)), .second, .val (.int (p3 &&& (3 : Int32))), .val (.long ((p2 &&& (3 : Int64)) - (1 : Int64))), .second, .val (.long ((0 : Int64) - ((p2 &&& (3 : Int64)) - (1 : Int64)))), .second, .unset]) rfl ?_
              show Steps p.tables e below (T34.setTop (mkF m 235 #[.val (.int p1), .val (.long p2), .second, .val (.int p3), .val (.int (p1 &&& (7 : Int32))), .val (.ref aUINT8), .val (.long (0 : Int64)), .second, .val (.long (255 : Int64)), .second, .val (.int (p3 &&& (3 : Int32))), .val (.long ((p2 &&& (3 : Int64)) - (1 : Int64))), .second, .val (.long ((0 : Int64) - ((p2 &&& (3 : Int64)) - (1 : Int64)))), .second, .unset] [])) _
              refine XS.goto X34.here hx rfl (pc0 := 235) (pc' := 244) rfl (hb hby at_235) (by decide) (by decide) ?_
              show Steps p.tables e below (T34.setTop (mkF m 244 #[.val (.int p1), .val (.long p2), .second, .val (.int p3), .val (.int (p1 &&& (7 : Int32))), .val (.ref aUINT8), .val (.long (0 : Int64)), .second, .val (.long (255 : Int64)), .second, .val (.int (p3 &&& (3 : Int32))), .val (.long ((p2 &&& (3 : Int64)) - (1 : Int64))), .second, .val (.long ((0 : Int64) - ((p2 &&& (3 : Int64)) - (1 : Int64)))), .second, .unset] [])) _
              exact kt)
            exact join ⟨_, k44⟩
          · have k45 := fun (t : State) (kt : Steps p.tables e below (T34.setTop (mkF m 244 #[.val (.int p1), .val (.long p2), .second, .val (.int p3), .val (.int (p1 &&& (7 : Int32))), .val (.ref aUINT8), .val (.long (0 : Int64)), .second, .val (.long (255 : Int64)), .second, .val (.int (p3 &&& (3 : Int32))), .val (.long ((p2 &&& (3 : Int64)) - (1 : Int64))), .second, .val (.long (p2 >>> ((48 : Int32) &&& 0x3f).toInt64)), .second, .unset] [])) t) => k42 t (by
              refine XS.icmpYes X34.here hx rfl (pc0 := 225) (pc' := 238) rfl (hb hby at_225) rfl (feq hc225_43).2 (by decide) (by decide) ?_
              show Steps p.tables e below (T34.setTop (mkF m 238 #[.val (.int p1), .val (.long p2), .second, .val (.int p3), .val (.int (p1 &&& (7 : Int32))), .val (.ref aUINT8), .val (.long (0 : Int64)), .second, .val (.long (255 : Int64)), .second, .val (.int (p3 &&& (3 : Int32))), .val (.long ((p2 &&& (3 : Int64)) - (1 : Int64))), .second, .unset, .unset, .unset] [])) _
              refine XS.lloadN X34.here hx rfl (hb hby at_238) rfl ?_
              show Steps p.tables e below (T34.setTop (mkF m 239 #[.val (.int p1), .val (.long p2), .second, .val (.int p3), .val (.int (p1 &&& (7 : Int32))), .val (.ref aUINT8), .val (.long (0 : Int64)), .second, .val (.long (255 : Int64)), .second, .val (.int (p3 &&& (3 : Int32))), .val (.long ((p2 &&& (3 : Int64)) - (1 : Int64))), .second, .unset, .unset, .unset] [(.long p2)])) _
              refine XS.bipush X34.here hx rfl (hb hby at_239) ?_
              show Steps p.tables e below (T34.setTop (mkF m 241 #[.val (.int p1), .val (.long p2), .second, .val (.int p3), .val (.int (p1 &&& (7 : Int32))), .val (.ref aUINT8), .val (.long (0 : Int64)), .second, .val (.long (255 : Int64)), .second, .val (.int (p3 &&& (3 : Int32))), .val (.long ((p2 &&& (3 : Int64)) - (1 : Int64))), .second, .unset, .unset, .unset] [(.int (48 : Int32)), (.long p2)])) _
              refine XS.lshr X34.here hx rfl (hb hby at_241) rfl ?_
              show Steps p.tables e below (T34.setTop (mkF m 242 #[.val (.int p1), .val (.long p2), .second, .val (.int p3), .val (.int (p1 &&& (7 : Int32))), .val (.ref aUINT8), .val (.long (0 : Int64)), .second, .val (.long (255 : Int64)), .second, .val (.int (p3 &&& (3 : Int32))), .val (.long ((p2 &&& (3 : Int64)) - (1 : Int64))), .second, .unset, .unset, .unset] [(.long (p2 >>> ((48 : Int32) &&& 0x3f).toInt64))])) _
              refine XS.lstore X34.here hx rfl (hb hby at_242) rfl (l' := #[.val (.int p1), .val (.long p2), .second, .val (.int p3), .val (.int (p1 &&& (7 : Int32))), .val (.ref aUINT8), .val (.long (0 : Int64)), .second, .val (.long (255 : Int64)), .second, .val (.int (p3 &&& (3 : Int32))), .val (.long ((p2 &&& (3 : Int64)) - (1 : Int64))), .second, .val (.long (p2 >>> ((48 : Int32) &&& 0x3f).toInt64)), .second, .unset]) rfl ?_
              show Steps p.tables e below (T34.setTop (mkF m 244 #[.val (.int p1), .val (.long p2), .second, .val (.int p3), .val (.int (p1 &&& (7 : Int32))), .val (.ref aUINT8), .val (.long (0 : Int64)), .second, .val (.long (255 : Int64)), .second, .val (.int (p3 &&& (3 : Int32))), .val (.long ((p2 &&& (3 : Int64)) - (1 : Int64))), .second, .val (.long (p2 >>> ((48 : Int32) &&& 0x3f).toInt64)), .second, .unset] [])) _
              exact kt)
            exact join ⟨_, k45⟩
    · rintro ⟨xv, kJ⟩
      have k46 := fun (t : State) (kt : Steps p.tables e below (T34.setTop (mkF m 249 #[.val (.int p1), .val (.long p2), .second, .val (.int p3), .val (.int (p1 &&& (7 : Int32))), .val (.ref aUINT8), .val (.long (0 : Int64)), .second, .val (.long (255 : Int64)), .second, .val (.int (p3 &&& (3 : Int32))), .val (.long ((p2 &&& (3 : Int64)) - (1 : Int64))), .second, .val (.long xv), .second, .unset] [(.int (lcmpW (0 : Int64) xv))])) t) => kJ t (by
        refine XS.lload X34.here hx rfl (hb hby at_244) rfl ?_
        show Steps p.tables e below (T34.setTop (mkF m 246 #[.val (.int p1), .val (.long p2), .second, .val (.int p3), .val (.int (p1 &&& (7 : Int32))), .val (.ref aUINT8), .val (.long (0 : Int64)), .second, .val (.long (255 : Int64)), .second, .val (.int (p3 &&& (3 : Int32))), .val (.long ((p2 &&& (3 : Int64)) - (1 : Int64))), .second, .val (.long xv), .second, .unset] [(.long (0 : Int64))])) _
        refine XS.lload X34.here hx rfl (hb hby at_246) rfl ?_
        show Steps p.tables e below (T34.setTop (mkF m 248 #[.val (.int p1), .val (.long p2), .second, .val (.int p3), .val (.int (p1 &&& (7 : Int32))), .val (.ref aUINT8), .val (.long (0 : Int64)), .second, .val (.long (255 : Int64)), .second, .val (.int (p3 &&& (3 : Int32))), .val (.long ((p2 &&& (3 : Int64)) - (1 : Int64))), .second, .val (.long xv), .second, .unset] [(.long xv), (.long (0 : Int64))])) _
        refine XS.lcmp X34.here hx rfl (hb hby at_248) rfl ?_
        show Steps p.tables e below (T34.setTop (mkF m 249 #[.val (.int p1), .val (.long p2), .second, .val (.int p3), .val (.int (p1 &&& (7 : Int32))), .val (.ref aUINT8), .val (.long (0 : Int64)), .second, .val (.long (255 : Int64)), .second, .val (.int (p3 &&& (3 : Int32))), .val (.long ((p2 &&& (3 : Int64)) - (1 : Int64))), .second, .val (.long xv), .second, .unset] [(.int (lcmpW (0 : Int64) xv))])) _
        exact kt)
      by_cases hc249_47 : xv < (0 : Int64)
      · have k48 := fun (t : State) (kt : Steps p.tables e below (T34.setTop (mkF m 271 #[.val (.int p1), .val (.long p2), .second, .val (.int p3), .val (.int (p1 &&& (7 : Int32))), .val (.ref aUINT8), .val (.long (0 : Int64)), .second, .val (.long (255 : Int64)), .second, .val (.int (p3 &&& (3 : Int32))), .val (.long ((p2 &&& (3 : Int64)) - (1 : Int64))), .second, .val (.long xv), .second, .val (.int (0 : Int32))] [(.long xv), (.ref aUINT8)])) t) => k46 t (by
          refine XS.ifYes X34.here hx rfl (pc0 := 249) (pc' := 264) rfl (hb hby at_249) rfl ((if0 _ _).trans (tlt ((lw_gt (0 : Int64) xv).mpr hc249_47)).2.2.1) (by decide) (by decide) ?_
          show Steps p.tables e below (T34.setTop (mkF m 264 #[.val (.int p1), .val (.long p2), .second, .val (.int p3), .val (.int (p1 &&& (7 : Int32))), .val (.ref aUINT8), .val (.long (0 : Int64)), .second, .val (.long (255 : Int64)), .second, .val (.int (p3 &&& (3 : Int32))), .val (.long ((p2 &&& (3 : Int64)) - (1 : Int64))), .second, .val (.long xv), .second, .unset] [])) _
          refine XS.iconst X34.here hx rfl (hb hby at_264) ?_
          show Steps p.tables e below (T34.setTop (mkF m 265 #[.val (.int p1), .val (.long p2), .second, .val (.int p3), .val (.int (p1 &&& (7 : Int32))), .val (.ref aUINT8), .val (.long (0 : Int64)), .second, .val (.long (255 : Int64)), .second, .val (.int (p3 &&& (3 : Int32))), .val (.long ((p2 &&& (3 : Int64)) - (1 : Int64))), .second, .val (.long xv), .second, .unset] [(.int (0 : Int32))])) _
          refine XS.istore X34.here hx rfl (hb hby at_265) rfl (l' := #[.val (.int p1), .val (.long p2), .second, .val (.int p3), .val (.int (p1 &&& (7 : Int32))), .val (.ref aUINT8), .val (.long (0 : Int64)), .second, .val (.long (255 : Int64)), .second, .val (.int (p3 &&& (3 : Int32))), .val (.long ((p2 &&& (3 : Int64)) - (1 : Int64))), .second, .val (.long xv), .second, .val (.int (0 : Int32))]) rfl ?_
          show Steps p.tables e below (T34.setTop (mkF m 267 #[.val (.int p1), .val (.long p2), .second, .val (.int p3), .val (.int (p1 &&& (7 : Int32))), .val (.ref aUINT8), .val (.long (0 : Int64)), .second, .val (.long (255 : Int64)), .second, .val (.int (p3 &&& (3 : Int32))), .val (.long ((p2 &&& (3 : Int64)) - (1 : Int64))), .second, .val (.long xv), .second, .val (.int (0 : Int32))] [])) _
          refine XS.aload X34.here hx rfl (hb hby at_267) rfl rfl ?_
          show Steps p.tables e below (T34.setTop (mkF m 269 #[.val (.int p1), .val (.long p2), .second, .val (.int p3), .val (.int (p1 &&& (7 : Int32))), .val (.ref aUINT8), .val (.long (0 : Int64)), .second, .val (.long (255 : Int64)), .second, .val (.int (p3 &&& (3 : Int32))), .val (.long ((p2 &&& (3 : Int64)) - (1 : Int64))), .second, .val (.long xv), .second, .val (.int (0 : Int32))] [(.ref aUINT8)])) _
          refine XS.lload X34.here hx rfl (hb hby at_269) rfl ?_
          show Steps p.tables e below (T34.setTop (mkF m 271 #[.val (.int p1), .val (.long p2), .second, .val (.int p3), .val (.int (p1 &&& (7 : Int32))), .val (.ref aUINT8), .val (.long (0 : Int64)), .second, .val (.long (255 : Int64)), .second, .val (.int (p3 &&& (3 : Int32))), .val (.long ((p2 &&& (3 : Int64)) - (1 : Int64))), .second, .val (.long xv), .second, .val (.int (0 : Int32))] [(.long xv), (.ref aUINT8)])) _
          exact kt)
        obtain ⟨cq49, kq49, q49a, q49b, q49c⟩ := isOf hZ e34 (E_UINT8.ext O0.2)
        obtain ⟨_, _, ⟨T49, L49, k49, n49⟩, -, X49, ⟨Lc49, hQ49, l49, y49, z49⟩, st49⟩ := X34.virtualBack hx (y := (⟨"com/example/tightwire/tightwire/Kind", "holds", "(J)Z"⟩ : MethodName)) (z := (⟨"com/example/tightwire/tightwire/Kind", "holds", "(J)Z"⟩ : MethodName)) hown (mvT hZ (hw _ (List.mem_of_getElem? (i := 6) rfl))) (mvT hZ (hw _ (List.mem_of_getElem? (i := 7) rfl))) (notFace_of_selects (args := #[]) (mvT hZ (hw _ (List.mem_of_getElem? (i := 9) rfl)))) (mvT hZ (hw _ (List.mem_of_getElem? (i := 9) rfl))) (mvT hZ (hw _ (List.mem_of_getElem? (i := 8) rfl))) (by decide) (backOf (W := 0) (rm1 l Z a0 hw [] aUINT8 xv (0 : Int32) (8 : Int32) h0 n0 O0 (F_UINT8_signed.ext O0.2) (F_UINT8_bits.ext O0.2)) hZ (hw _ (List.mem_of_getElem? (i := 10) rfl)) (hw _ (List.mem_of_getElem? (i := 1) rfl)) (by decide) (by decide)) q49a q49c (g := (mkF m 271 #[.val (.int p1), .val (.long p2), .second, .val (.int p3), .val (.int (p1 &&& (7 : Int32))), .val (.ref aUINT8), .val (.long (0 : Int64)), .second, .val (.long (255 : Int64)), .second, .val (.int (p3 &&& (3 : Int32))), .val (.long ((p2 &&& (3 : Int64)) - (1 : Int64))), .second, .val (.long xv), .second, .val (.int (0 : Int32))] [(.long xv), (.ref aUINT8)])) rfl (by rw [hml]; rfl) (Steps.refl _) (argsL := [(.long xv)]) (rest := []) (lenOf pd_0 rfl) rfl (by show 2 * 0 + _ ≤ _; exact Nat.le_of_eq rfl) (hb hby at_271) (fun _ _ => ⟨rfl, e34, (by decide : 0 + 0 ≤ _), (by decide : 0 + 0 ≤ _)⟩)
        dsimp only [Pt.U, Pt.locs, Pt.cells, Pt.slots] at X49 l49 y49 z49 st49 hQ49
        subst l49 y49 z49
        obtain ⟨rfl, Nq49, eh49⟩ := hQ49
        have N49 := Fr.app N0 Nq49
        have k50 := fun (t : State) (kt : Steps p.tables e below (T49.setTop (mkF m 276 #[.val (.int p1), .val (.long p2), .second, .val (.int p3), .val (.int (p1 &&& (7 : Int32))), .val (.ref aUINT8), .val (.long (0 : Int64)), .second, .val (.long (255 : Int64)), .second, .val (.int (p3 &&& (3 : Int32))), .val (.long ((p2 &&& (3 : Int64)) - (1 : Int64))), .second, .val (.long xv), .second, .val (.int (0 : Int32))] [(.int (0 : Int32)), (.int (own_holds (0 : Int32) (8 : Int32) xv))])) t) => k48 t (by
          refine st49.trans ?_
          show Steps p.tables e below (T49.setTop (mkF m 274 #[.val (.int p1), .val (.long p2), .second, .val (.int p3), .val (.int (p1 &&& (7 : Int32))), .val (.ref aUINT8), .val (.long (0 : Int64)), .second, .val (.long (255 : Int64)), .second, .val (.int (p3 &&& (3 : Int32))), .val (.long ((p2 &&& (3 : Int64)) - (1 : Int64))), .second, .val (.long xv), .second, .val (.int (0 : Int32))] [(.int (own_holds (0 : Int32) (8 : Int32) xv))])) _
          refine XS.iload X49.here hx rfl (hb hby at_274) rfl ?_
          show Steps p.tables e below (T49.setTop (mkF m 276 #[.val (.int p1), .val (.long p2), .second, .val (.int p3), .val (.int (p1 &&& (7 : Int32))), .val (.ref aUINT8), .val (.long (0 : Int64)), .second, .val (.long (255 : Int64)), .second, .val (.int (p3 &&& (3 : Int32))), .val (.long ((p2 &&& (3 : Int64)) - (1 : Int64))), .second, .val (.long xv), .second, .val (.int (0 : Int32))] [(.int (0 : Int32)), (.int (own_holds (0 : Int32) (8 : Int32) xv))])) _
          exact kt)
        have k51 := fun (t : State) (kt : Steps p.tables e below (T49.setTop (mkF m 284 #[.val (.int p1), .val (.long p2), .second, .val (.int p3), .val (.int (p1 &&& (7 : Int32))), .val (.ref aUINT8), .val (.long (0 : Int64)), .second, .val (.long (255 : Int64)), .second, .val (.int (p3 &&& (3 : Int32))), .val (.long ((p2 &&& (3 : Int64)) - (1 : Int64))), .second, .val (.long xv), .second, .val (.int (0 : Int32))] [(.int (1 : Int32))])) t) => k50 t (by
          refine XS.icmpNo X49.here hx rfl (hb hby at_276) rfl (teq (own_lo_UINT8 hc249_47)).2 ?_
          show Steps p.tables e below (T49.setTop (mkF m 279 #[.val (.int p1), .val (.long p2), .second, .val (.int p3), .val (.int (p1 &&& (7 : Int32))), .val (.ref aUINT8), .val (.long (0 : Int64)), .second, .val (.long (255 : Int64)), .second, .val (.int (p3 &&& (3 : Int32))), .val (.long ((p2 &&& (3 : Int64)) - (1 : Int64))), .second, .val (.long xv), .second, .val (.int (0 : Int32))] [])) _
          refine XS.iconst X49.here hx rfl (hb hby at_279) ?_
          show Steps p.tables e below (T49.setTop (mkF m 280 #[.val (.int p1), .val (.long p2), .second, .val (.int p3), .val (.int (p1 &&& (7 : Int32))), .val (.ref aUINT8), .val (.long (0 : Int64)), .second, .val (.long (255 : Int64)), .second, .val (.int (p3 &&& (3 : Int32))), .val (.long ((p2 &&& (3 : Int64)) - (1 : Int64))), .second, .val (.long xv), .second, .val (.int (0 : Int32))] [(.int (1 : Int32))])) _
          refine XS.goto X49.here hx rfl (pc0 := 280) (pc' := 284) rfl (hb hby at_280) (by decide) (by decide) ?_
          show Steps p.tables e below (T49.setTop (mkF m 284 #[.val (.int p1), .val (.long p2), .second, .val (.int p3), .val (.int (p1 &&& (7 : Int32))), .val (.ref aUINT8), .val (.long (0 : Int64)), .second, .val (.long (255 : Int64)), .second, .val (.int (p3 &&& (3 : Int32))), .val (.long ((p2 &&& (3 : Int64)) - (1 : Int64))), .second, .val (.long xv), .second, .val (.int (0 : Int32))] [(.int (1 : Int32))])) _
          exact kt)
        obtain ⟨fs, hr, hrun, hended, hW, hsame⟩ := X49.leave (v := some (.int (1 : Int32))) (fun h => by rw [Bd.returns] at h; cases h)
        refine ⟨_, _, k51 _ ?_, hrun, hended, _, _, rfl, ?_, ⟨_, rfl⟩, hW, hsame.mono (by decide) (by decide)⟩
        · exact retN X49 hx (t := .boolean) Bd.returns (by simp) (hb hby at_284) hr
        · show Q0 n0 _ T49.heap _
          rw [eh49]
          exact ⟨rfl, N49⟩
      · have k52 := fun (t : State) (kt : Steps p.tables e below (T34.setTop (mkF m 257 #[.val (.int p1), .val (.long p2), .second, .val (.int p3), .val (.int (p1 &&& (7 : Int32))), .val (.ref aUINT8), .val (.long (0 : Int64)), .second, .val (.long (255 : Int64)), .second, .val (.int (p3 &&& (3 : Int32))), .val (.long ((p2 &&& (3 : Int64)) - (1 : Int64))), .second, .val (.long xv), .second, .unset] [(.int (lcmpW xv (255 : Int64)))])) t) => k46 t (by
          refine XS.ifNo X34.here hx rfl (hb hby at_249) rfl ((if0 _ _).trans (flt (fun q => hc249_47 ((lw_gt (0 : Int64) xv).mp q))).2.2.1) ?_
          show Steps p.tables e below (T34.setTop (mkF m 252 #[.val (.int p1), .val (.long p2), .second, .val (.int p3), .val (.int (p1 &&& (7 : Int32))), .val (.ref aUINT8), .val (.long (0 : Int64)), .second, .val (.long (255 : Int64)), .second, .val (.int (p3 &&& (3 : Int32))), .val (.long ((p2 &&& (3 : Int64)) - (1 : Int64))), .second, .val (.long xv), .second, .unset] [])) _
          refine XS.lload X34.here hx rfl (hb hby at_252) rfl ?_
          show Steps p.tables e below (T34.setTop (mkF m 254 #[.val (.int p1), .val (.long p2), .second, .val (.int p3), .val (.int (p1 &&& (7 : Int32))), .val (.ref aUINT8), .val (.long (0 : Int64)), .second, .val (.long (255 : Int64)), .second, .val (.int (p3 &&& (3 : Int32))), .val (.long ((p2 &&& (3 : Int64)) - (1 : Int64))), .second, .val (.long xv), .second, .unset] [(.long xv)])) _
          refine XS.lload X34.here hx rfl (hb hby at_254) rfl ?_
          show Steps p.tables e below (T34.setTop (mkF m 256 #[.val (.int p1), .val (.long p2), .second, .val (.int p3), .val (.int (p1 &&& (7 : Int32))), .val (.ref aUINT8), .val (.long (0 : Int64)), .second, .val (.long (255 : Int64)), .second, .val (.int (p3 &&& (3 : Int32))), .val (.long ((p2 &&& (3 : Int64)) - (1 : Int64))), .second, .val (.long xv), .second, .unset] [(.long (255 : Int64)), (.long xv)])) _
          refine XS.lcmp X34.here hx rfl (hb hby at_256) rfl ?_
          show Steps p.tables e below (T34.setTop (mkF m 257 #[.val (.int p1), .val (.long p2), .second, .val (.int p3), .val (.int (p1 &&& (7 : Int32))), .val (.ref aUINT8), .val (.long (0 : Int64)), .second, .val (.long (255 : Int64)), .second, .val (.int (p3 &&& (3 : Int32))), .val (.long ((p2 &&& (3 : Int64)) - (1 : Int64))), .second, .val (.long xv), .second, .unset] [(.int (lcmpW xv (255 : Int64)))])) _
          exact kt)
        by_cases hc257_53 : (255 : Int64) < xv
        · have k54 := fun (t : State) (kt : Steps p.tables e below (T34.setTop (mkF m 271 #[.val (.int p1), .val (.long p2), .second, .val (.int p3), .val (.int (p1 &&& (7 : Int32))), .val (.ref aUINT8), .val (.long (0 : Int64)), .second, .val (.long (255 : Int64)), .second, .val (.int (p3 &&& (3 : Int32))), .val (.long ((p2 &&& (3 : Int64)) - (1 : Int64))), .second, .val (.long xv), .second, .val (.int (0 : Int32))] [(.long xv), (.ref aUINT8)])) t) => k52 t (by
            refine XS.ifYes X34.here hx rfl (pc0 := 257) (pc' := 264) rfl (hb hby at_257) rfl ((if0 _ _).trans (tlt ((lw_gt xv (255 : Int64)).mpr hc257_53)).2.2.1) (by decide) (by decide) ?_
            show Steps p.tables e below (T34.setTop (mkF m 264 #[.val (.int p1), .val (.long p2), .second, .val (.int p3), .val (.int (p1 &&& (7 : Int32))), .val (.ref aUINT8), .val (.long (0 : Int64)), .second, .val (.long (255 : Int64)), .second, .val (.int (p3 &&& (3 : Int32))), .val (.long ((p2 &&& (3 : Int64)) - (1 : Int64))), .second, .val (.long xv), .second, .unset] [])) _
            refine XS.iconst X34.here hx rfl (hb hby at_264) ?_
            show Steps p.tables e below (T34.setTop (mkF m 265 #[.val (.int p1), .val (.long p2), .second, .val (.int p3), .val (.int (p1 &&& (7 : Int32))), .val (.ref aUINT8), .val (.long (0 : Int64)), .second, .val (.long (255 : Int64)), .second, .val (.int (p3 &&& (3 : Int32))), .val (.long ((p2 &&& (3 : Int64)) - (1 : Int64))), .second, .val (.long xv), .second, .unset] [(.int (0 : Int32))])) _
            refine XS.istore X34.here hx rfl (hb hby at_265) rfl (l' := #[.val (.int p1), .val (.long p2), .second, .val (.int p3), .val (.int (p1 &&& (7 : Int32))), .val (.ref aUINT8), .val (.long (0 : Int64)), .second, .val (.long (255 : Int64)), .second, .val (.int (p3 &&& (3 : Int32))), .val (.long ((p2 &&& (3 : Int64)) - (1 : Int64))), .second, .val (.long xv), .second, .val (.int (0 : Int32))]) rfl ?_
            show Steps p.tables e below (T34.setTop (mkF m 267 #[.val (.int p1), .val (.long p2), .second, .val (.int p3), .val (.int (p1 &&& (7 : Int32))), .val (.ref aUINT8), .val (.long (0 : Int64)), .second, .val (.long (255 : Int64)), .second, .val (.int (p3 &&& (3 : Int32))), .val (.long ((p2 &&& (3 : Int64)) - (1 : Int64))), .second, .val (.long xv), .second, .val (.int (0 : Int32))] [])) _
            refine XS.aload X34.here hx rfl (hb hby at_267) rfl rfl ?_
            show Steps p.tables e below (T34.setTop (mkF m 269 #[.val (.int p1), .val (.long p2), .second, .val (.int p3), .val (.int (p1 &&& (7 : Int32))), .val (.ref aUINT8), .val (.long (0 : Int64)), .second, .val (.long (255 : Int64)), .second, .val (.int (p3 &&& (3 : Int32))), .val (.long ((p2 &&& (3 : Int64)) - (1 : Int64))), .second, .val (.long xv), .second, .val (.int (0 : Int32))] [(.ref aUINT8)])) _
            refine XS.lload X34.here hx rfl (hb hby at_269) rfl ?_
            show Steps p.tables e below (T34.setTop (mkF m 271 #[.val (.int p1), .val (.long p2), .second, .val (.int p3), .val (.int (p1 &&& (7 : Int32))), .val (.ref aUINT8), .val (.long (0 : Int64)), .second, .val (.long (255 : Int64)), .second, .val (.int (p3 &&& (3 : Int32))), .val (.long ((p2 &&& (3 : Int64)) - (1 : Int64))), .second, .val (.long xv), .second, .val (.int (0 : Int32))] [(.long xv), (.ref aUINT8)])) _
            exact kt)
          obtain ⟨cq55, kq55, q55a, q55b, q55c⟩ := isOf hZ e34 (E_UINT8.ext O0.2)
          obtain ⟨_, _, ⟨T55, L55, k55, n55⟩, -, X55, ⟨Lc55, hQ55, l55, y55, z55⟩, st55⟩ := X34.virtualBack hx (y := (⟨"com/example/tightwire/tightwire/Kind", "holds", "(J)Z"⟩ : MethodName)) (z := (⟨"com/example/tightwire/tightwire/Kind", "holds", "(J)Z"⟩ : MethodName)) hown (mvT hZ (hw _ (List.mem_of_getElem? (i := 6) rfl))) (mvT hZ (hw _ (List.mem_of_getElem? (i := 7) rfl))) (notFace_of_selects (args := #[]) (mvT hZ (hw _ (List.mem_of_getElem? (i := 9) rfl)))) (mvT hZ (hw _ (List.mem_of_getElem? (i := 9) rfl))) (mvT hZ (hw _ (List.mem_of_getElem? (i := 8) rfl))) (by decide) (backOf (W := 0) (rm1 l Z a0 hw [] aUINT8 xv (0 : Int32) (8 : Int32) h0 n0 O0 (F_UINT8_signed.ext O0.2) (F_UINT8_bits.ext O0.2)) hZ (hw _ (List.mem_of_getElem? (i := 10) rfl)) (hw _ (List.mem_of_getElem? (i := 1) rfl)) (by decide) (by decide)) q55a q55c (g := (mkF m 271 #[.val (.int p1), .val (.long p2), .second, .val (.int p3), .val (.int (p1 &&& (7 : Int32))), .val (.ref aUINT8), .val (.long (0 : Int64)), .second, .val (.long (255 : Int64)), .second, .val (.int (p3 &&& (3 : Int32))), .val (.long ((p2 &&& (3 : Int64)) - (1 : Int64))), .second, .val (.long xv), .second, .val (.int (0 : Int32))] [(.long xv), (.ref aUINT8)])) rfl (by rw [hml]; rfl) (Steps.refl _) (argsL := [(.long xv)]) (rest := []) (lenOf pd_0 rfl) rfl (by show 2 * 0 + _ ≤ _; exact Nat.le_of_eq rfl) (hb hby at_271) (fun _ _ => ⟨rfl, e34, (by decide : 0 + 0 ≤ _), (by decide : 0 + 0 ≤ _)⟩)
          dsimp only [Pt.U, Pt.locs, Pt.cells, Pt.slots] at X55 l55 y55 z55 st55 hQ55
          subst l55 y55 z55
          obtain ⟨rfl, Nq55, eh55⟩ := hQ55
          have N55 := Fr.app N0 Nq55
          have k56 := fun (t : State) (kt : Steps p.tables e below (T55.setTop (mkF m 276 #[.val (.int p1), .val (.long p2), .second, .val (.int p3), .val (.int (p1 &&& (7 : Int32))), .val (.ref aUINT8), .val (.long (0 : Int64)), .second, .val (.long (255 : Int64)), .second, .val (.int (p3 &&& (3 : Int32))), .val (.long ((p2 &&& (3 : Int64)) - (1 : Int64))), .second, .val (.long xv), .second, .val (.int (0 : Int32))] [(.int (0 : Int32)), (.int (own_holds (0 : Int32) (8 : Int32) xv))])) t) => k54 t (by
            refine st55.trans ?_
            show Steps p.tables e below (T55.setTop (mkF m 274 #[.val (.int p1), .val (.long p2), .second, .val (.int p3), .val (.int (p1 &&& (7 : Int32))), .val (.ref aUINT8), .val (.long (0 : Int64)), .second, .val (.long (255 : Int64)), .second, .val (.int (p3 &&& (3 : Int32))), .val (.long ((p2 &&& (3 : Int64)) - (1 : Int64))), .second, .val (.long xv), .second, .val (.int (0 : Int32))] [(.int (own_holds (0 : Int32) (8 : Int32) xv))])) _
            refine XS.iload X55.here hx rfl (hb hby at_274) rfl ?_
            show Steps p.tables e below (T55.setTop (mkF m 276 #[.val (.int p1), .val (.long p2), .second, .val (.int p3), .val (.int (p1 &&& (7 : Int32))), .val (.ref aUINT8), .val (.long (0 : Int64)), .second, .val (.long (255 : Int64)), .second, .val (.int (p3 &&& (3 : Int32))), .val (.long ((p2 &&& (3 : Int64)) - (1 : Int64))), .second, .val (.long xv), .second, .val (.int (0 : Int32))] [(.int (0 : Int32)), (.int (own_holds (0 : Int32) (8 : Int32) xv))])) _
            exact kt)
          have k57 := fun (t : State) (kt : Steps p.tables e below (T55.setTop (mkF m 284 #[.val (.int p1), .val (.long p2), .second, .val (.int p3), .val (.int (p1 &&& (7 : Int32))), .val (.ref aUINT8), .val (.long (0 : Int64)), .second, .val (.long (255 : Int64)), .second, .val (.int (p3 &&& (3 : Int32))), .val (.long ((p2 &&& (3 : Int64)) - (1 : Int64))), .second, .val (.long xv), .second, .val (.int (0 : Int32))] [(.int (1 : Int32))])) t) => k56 t (by
            refine XS.icmpNo X55.here hx rfl (hb hby at_276) rfl (teq (own_hi_UINT8 hc257_53)).2 ?_
            show Steps p.tables e below (T55.setTop (mkF m 279 #[.val (.int p1), .val (.long p2), .second, .val (.int p3), .val (.int (p1 &&& (7 : Int32))), .val (.ref aUINT8), .val (.long (0 : Int64)), .second, .val (.long (255 : Int64)), .second, .val (.int (p3 &&& (3 : Int32))), .val (.long ((p2 &&& (3 : Int64)) - (1 : Int64))), .second, .val (.long xv), .second, .val (.int (0 : Int32))] [])) _
            refine XS.iconst X55.here hx rfl (hb hby at_279) ?_
            show Steps p.tables e below (T55.setTop (mkF m 280 #[.val (.int p1), .val (.long p2), .second, .val (.int p3), .val (.int (p1 &&& (7 : Int32))), .val (.ref aUINT8), .val (.long (0 : Int64)), .second, .val (.long (255 : Int64)), .second, .val (.int (p3 &&& (3 : Int32))), .val (.long ((p2 &&& (3 : Int64)) - (1 : Int64))), .second, .val (.long xv), .second, .val (.int (0 : Int32))] [(.int (1 : Int32))])) _
            refine XS.goto X55.here hx rfl (pc0 := 280) (pc' := 284) rfl (hb hby at_280) (by decide) (by decide) ?_
            show Steps p.tables e below (T55.setTop (mkF m 284 #[.val (.int p1), .val (.long p2), .second, .val (.int p3), .val (.int (p1 &&& (7 : Int32))), .val (.ref aUINT8), .val (.long (0 : Int64)), .second, .val (.long (255 : Int64)), .second, .val (.int (p3 &&& (3 : Int32))), .val (.long ((p2 &&& (3 : Int64)) - (1 : Int64))), .second, .val (.long xv), .second, .val (.int (0 : Int32))] [(.int (1 : Int32))])) _
            exact kt)
          obtain ⟨fs, hr, hrun, hended, hW, hsame⟩ := X55.leave (v := some (.int (1 : Int32))) (fun h => by rw [Bd.returns] at h; cases h)
          refine ⟨_, _, k57 _ ?_, hrun, hended, _, _, rfl, ?_, ⟨_, rfl⟩, hW, hsame.mono (by decide) (by decide)⟩
          · exact retN X55 hx (t := .boolean) Bd.returns (by simp) (hb hby at_284) hr
          · show Q0 n0 _ T55.heap _
            rw [eh55]
            exact ⟨rfl, N55⟩
        · have k58 := fun (t : State) (kt : Steps p.tables e below (T34.setTop (mkF m 271 #[.val (.int p1), .val (.long p2), .second, .val (.int p3), .val (.int (p1 &&& (7 : Int32))), .val (.ref aUINT8), .val (.long (0 : Int64)), .second, .val (.long (255 : Int64)), .second, .val (.int (p3 &&& (3 : Int32))), .val (.long ((p2 &&& (3 : Int64)) - (1 : Int64))), .second, .val (.long xv), .second, .val (.int (1 : Int32))] [(.long xv), (.ref aUINT8)])) t) => k52 t (by
            refine XS.ifNo X34.here hx rfl (hb hby at_257) rfl ((if0 _ _).trans (flt (fun q => hc257_53 ((lw_gt xv (255 : Int64)).mp q))).2.2.1) ?_
            show Steps p.tables e below (T34.setTop (mkF m 260 #[.val (.int p1), .val (.long p2), .second, .val (.int p3), .val (.int (p1 &&& (7 : Int32))), .val (.ref aUINT8), .val (.long (0 : Int64)), .second, .val (.long (255 : Int64)), .second, .val (.int (p3 &&& (3 : Int32))), .val (.long ((p2 &&& (3 : Int64)) - (1 : Int64))), .second, .val (.long xv), .second, .unset] [])) _
            refine XS.iconst X34.here hx rfl (hb hby at_260) ?_
            show Steps p.tables e below (T34.setTop (mkF m 261 #[.val (.int p1), .val (.long p2), .second, .val (.int p3), .val (.int (p1 &&& (7 : Int32))), .val (.ref aUINT8), .val (.long (0 : Int64)), .second, .val (.long (255 : Int64)), .second, .val (.int (p3 &&& (3 : Int32))), .val (.long ((p2 &&& (3 : Int64)) - (1 : Int64))), .second, .val (.long xv), .second, .unset] [(.int (1 : Int32))])) _
            refine XS.goto X34.here hx rfl (pc0 := 261) (pc' := 265) rfl (hb hby at_261) (by decide) (by decide) ?_
            show Steps p.tables e below (T34.setTop (mkF m 265 #[.val (.int p1), .val (.long p2), .second, .val (.int p3), .val (.int (p1 &&& (7 : Int32))), .val (.ref aUINT8), .val (.long (0 : Int64)), .second, .val (.long (255 : Int64)), .second, .val (.int (p3 &&& (3 : Int32))), .val (.long ((p2 &&& (3 : Int64)) - (1 : Int64))), .second, .val (.long xv), .second, .unset] [(.int (1 : Int32))])) _
            refine XS.istore X34.here hx rfl (hb hby at_265) rfl (l' := #[.val (.int p1), .val (.long p2), .second, .val (.int p3), .val (.int (p1 &&& (7 : Int32))), .val (.ref aUINT8), .val (.long (0 : Int64)), .second, .val (.long (255 : Int64)), .second, .val (.int (p3 &&& (3 : Int32))), .val (.long ((p2 &&& (3 : Int64)) - (1 : Int64))), .second, .val (.long xv), .second, .val (.int (1 : Int32))]) rfl ?_
            show Steps p.tables e below (T34.setTop (mkF m 267 #[.val (.int p1), .val (.long p2), .second, .val (.int p3), .val (.int (p1 &&& (7 : Int32))), .val (.ref aUINT8), .val (.long (0 : Int64)), .second, .val (.long (255 : Int64)), .second, .val (.int (p3 &&& (3 : Int32))), .val (.long ((p2 &&& (3 : Int64)) - (1 : Int64))), .second, .val (.long xv), .second, .val (.int (1 : Int32))] [])) _
            refine XS.aload X34.here hx rfl (hb hby at_267) rfl rfl ?_
            show Steps p.tables e below (T34.setTop (mkF m 269 #[.val (.int p1), .val (.long p2), .second, .val (.int p3), .val (.int (p1 &&& (7 : Int32))), .val (.ref aUINT8), .val (.long (0 : Int64)), .second, .val (.long (255 : Int64)), .second, .val (.int (p3 &&& (3 : Int32))), .val (.long ((p2 &&& (3 : Int64)) - (1 : Int64))), .second, .val (.long xv), .second, .val (.int (1 : Int32))] [(.ref aUINT8)])) _
            refine XS.lload X34.here hx rfl (hb hby at_269) rfl ?_
            show Steps p.tables e below (T34.setTop (mkF m 271 #[.val (.int p1), .val (.long p2), .second, .val (.int p3), .val (.int (p1 &&& (7 : Int32))), .val (.ref aUINT8), .val (.long (0 : Int64)), .second, .val (.long (255 : Int64)), .second, .val (.int (p3 &&& (3 : Int32))), .val (.long ((p2 &&& (3 : Int64)) - (1 : Int64))), .second, .val (.long xv), .second, .val (.int (1 : Int32))] [(.long xv), (.ref aUINT8)])) _
            exact kt)
          obtain ⟨cq59, kq59, q59a, q59b, q59c⟩ := isOf hZ e34 (E_UINT8.ext O0.2)
          obtain ⟨_, _, ⟨T59, L59, k59, n59⟩, -, X59, ⟨Lc59, hQ59, l59, y59, z59⟩, st59⟩ := X34.virtualBack hx (y := (⟨"com/example/tightwire/tightwire/Kind", "holds", "(J)Z"⟩ : MethodName)) (z := (⟨"com/example/tightwire/tightwire/Kind", "holds", "(J)Z"⟩ : MethodName)) hown (mvT hZ (hw _ (List.mem_of_getElem? (i := 6) rfl))) (mvT hZ (hw _ (List.mem_of_getElem? (i := 7) rfl))) (notFace_of_selects (args := #[]) (mvT hZ (hw _ (List.mem_of_getElem? (i := 9) rfl)))) (mvT hZ (hw _ (List.mem_of_getElem? (i := 9) rfl))) (mvT hZ (hw _ (List.mem_of_getElem? (i := 8) rfl))) (by decide) (backOf (W := 0) (rm1 l Z a0 hw [] aUINT8 xv (0 : Int32) (8 : Int32) h0 n0 O0 (F_UINT8_signed.ext O0.2) (F_UINT8_bits.ext O0.2)) hZ (hw _ (List.mem_of_getElem? (i := 10) rfl)) (hw _ (List.mem_of_getElem? (i := 1) rfl)) (by decide) (by decide)) q59a q59c (g := (mkF m 271 #[.val (.int p1), .val (.long p2), .second, .val (.int p3), .val (.int (p1 &&& (7 : Int32))), .val (.ref aUINT8), .val (.long (0 : Int64)), .second, .val (.long (255 : Int64)), .second, .val (.int (p3 &&& (3 : Int32))), .val (.long ((p2 &&& (3 : Int64)) - (1 : Int64))), .second, .val (.long xv), .second, .val (.int (1 : Int32))] [(.long xv), (.ref aUINT8)])) rfl (by rw [hml]; rfl) (Steps.refl _) (argsL := [(.long xv)]) (rest := []) (lenOf pd_0 rfl) rfl (by show 2 * 0 + _ ≤ _; exact Nat.le_of_eq rfl) (hb hby at_271) (fun _ _ => ⟨rfl, e34, (by decide : 0 + 0 ≤ _), (by decide : 0 + 0 ≤ _)⟩)
          dsimp only [Pt.U, Pt.locs, Pt.cells, Pt.slots] at X59 l59 y59 z59 st59 hQ59
          subst l59 y59 z59
          obtain ⟨rfl, Nq59, eh59⟩ := hQ59
          have N59 := Fr.app N0 Nq59
          have k60 := fun (t : State) (kt : Steps p.tables e below (T59.setTop (mkF m 276 #[.val (.int p1), .val (.long p2), .second, .val (.int p3), .val (.int (p1 &&& (7 : Int32))), .val (.ref aUINT8), .val (.long (0 : Int64)), .second, .val (.long (255 : Int64)), .second, .val (.int (p3 &&& (3 : Int32))), .val (.long ((p2 &&& (3 : Int64)) - (1 : Int64))), .second, .val (.long xv), .second, .val (.int (1 : Int32))] [(.int (1 : Int32)), (.int (own_holds (0 : Int32) (8 : Int32) xv))])) t) => k58 t (by
            refine st59.trans ?_
            show Steps p.tables e below (T59.setTop (mkF m 274 #[.val (.int p1), .val (.long p2), .second, .val (.int p3), .val (.int (p1 &&& (7 : Int32))), .val (.ref aUINT8), .val (.long (0 : Int64)), .second, .val (.long (255 : Int64)), .second, .val (.int (p3 &&& (3 : Int32))), .val (.long ((p2 &&& (3 : Int64)) - (1 : Int64))), .second, .val (.long xv), .second, .val (.int (1 : Int32))] [(.int (own_holds (0 : Int32) (8 : Int32) xv))])) _
            refine XS.iload X59.here hx rfl (hb hby at_274) rfl ?_
            show Steps p.tables e below (T59.setTop (mkF m 276 #[.val (.int p1), .val (.long p2), .second, .val (.int p3), .val (.int (p1 &&& (7 : Int32))), .val (.ref aUINT8), .val (.long (0 : Int64)), .second, .val (.long (255 : Int64)), .second, .val (.int (p3 &&& (3 : Int32))), .val (.long ((p2 &&& (3 : Int64)) - (1 : Int64))), .second, .val (.long xv), .second, .val (.int (1 : Int32))] [(.int (1 : Int32)), (.int (own_holds (0 : Int32) (8 : Int32) xv))])) _
            exact kt)
          have k61 := fun (t : State) (kt : Steps p.tables e below (T59.setTop (mkF m 284 #[.val (.int p1), .val (.long p2), .second, .val (.int p3), .val (.int (p1 &&& (7 : Int32))), .val (.ref aUINT8), .val (.long (0 : Int64)), .second, .val (.long (255 : Int64)), .second, .val (.int (p3 &&& (3 : Int32))), .val (.long ((p2 &&& (3 : Int64)) - (1 : Int64))), .second, .val (.long xv), .second, .val (.int (1 : Int32))] [(.int (1 : Int32))])) t) => k60 t (by
            refine XS.icmpNo X59.here hx rfl (hb hby at_276) rfl (teq (own_in_UINT8 hc249_47 hc257_53)).2 ?_
            show Steps p.tables e below (T59.setTop (mkF m 279 #[.val (.int p1), .val (.long p2), .second, .val (.int p3), .val (.int (p1 &&& (7 : Int32))), .val (.ref aUINT8), .val (.long (0 : Int64)), .second, .val (.long (255 : Int64)), .second, .val (.int (p3 &&& (3 : Int32))), .val (.long ((p2 &&& (3 : Int64)) - (1 : Int64))), .second, .val (.long xv), .second, .val (.int (1 : Int32))] [])) _
            refine XS.iconst X59.here hx rfl (hb hby at_279) ?_
            show Steps p.tables e below (T59.setTop (mkF m 280 #[.val (.int p1), .val (.long p2), .second, .val (.int p3), .val (.int (p1 &&& (7 : Int32))), .val (.ref aUINT8), .val (.long (0 : Int64)), .second, .val (.long (255 : Int64)), .second, .val (.int (p3 &&& (3 : Int32))), .val (.long ((p2 &&& (3 : Int64)) - (1 : Int64))), .second, .val (.long xv), .second, .val (.int (1 : Int32))] [(.int (1 : Int32))])) _
            refine XS.goto X59.here hx rfl (pc0 := 280) (pc' := 284) rfl (hb hby at_280) (by decide) (by decide) ?_
            show Steps p.tables e below (T59.setTop (mkF m 284 #[.val (.int p1), .val (.long p2), .second, .val (.int p3), .val (.int (p1 &&& (7 : Int32))), .val (.ref aUINT8), .val (.long (0 : Int64)), .second, .val (.long (255 : Int64)), .second, .val (.int (p3 &&& (3 : Int32))), .val (.long ((p2 &&& (3 : Int64)) - (1 : Int64))), .second, .val (.long xv), .second, .val (.int (1 : Int32))] [(.int (1 : Int32))])) _
            exact kt)
          obtain ⟨fs, hr, hrun, hended, hW, hsame⟩ := X59.leave (v := some (.int (1 : Int32))) (fun h => by rw [Bd.returns] at h; cases h)
          refine ⟨_, _, k61 _ ?_, hrun, hended, _, _, rfl, ?_, ⟨_, rfl⟩, hW, hsame.mono (by decide) (by decide)⟩
          · exact retN X59 hx (t := .boolean) Bd.returns (by simp) (hb hby at_284) hr
          · show Q0 n0 _ T59.heap _
            rw [eh59]
            exact ⟨rfl, N59⟩
  · have k62 := fun (t : State) (kt : Steps p.tables e below (s₁.setTop (mkF m 8 #[.val (.int p1), .val (.long p2), .second, .val (.int p3), .val (.int (p1 &&& (7 : Int32))), .unset, .unset, .unset, .unset, .unset, .unset, .unset, .unset, .unset, .unset, .unset] [(.int (p1 &&& (7 : Int32)))])) t) => pre0 t (by
      refine XS.iloadN X0.here hx rfl (hb hby at_0) rfl ?_
      show Steps p.tables e below (s₁.setTop (mkF m 1 #[.val (.int p1), .val (.long p2), .second, .val (.int p3), .unset, .unset, .unset, .unset, .unset, .unset, .unset, .unset, .unset, .unset, .unset, .unset] [(.int p1)])) _
      refine XS.bipush X0.here hx rfl (hb hby at_1) ?_
      show Steps p.tables e below (s₁.setTop (mkF m 3 #[.val (.int p1), .val (.long p2), .second, .val (.int p3), .unset, .unset, .unset, .unset, .unset, .unset, .unset, .unset, .unset, .unset, .unset, .unset] [(.int (7 : Int32)), (.int p1)])) _
      refine XS.iand X0.here hx rfl (hb hby at_3) rfl ?_
      show Steps p.tables e below (s₁.setTop (mkF m 4 #[.val (.int p1), .val (.long p2), .second, .val (.int p3), .unset, .unset, .unset, .unset, .unset, .unset, .unset, .unset, .unset, .unset, .unset, .unset] [(.int (p1 &&& (7 : Int32)))])) _
      refine XS.istore X0.here hx rfl (hb hby at_4) rfl (l' := #[.val (.int p1), .val (.long p2), .second, .val (.int p3), .val (.int (p1 &&& (7 : Int32))), .unset, .unset, .unset, .unset, .unset, .unset, .unset, .unset, .unset, .unset, .unset]) rfl ?_
      show Steps p.tables e below (s₁.setTop (mkF m 6 #[.val (.int p1), .val (.long p2), .second, .val (.int p3), .val (.int (p1 &&& (7 : Int32))), .unset, .unset, .unset, .unset, .unset, .unset, .unset, .unset, .unset, .unset, .unset] [])) _
      refine XS.iload X0.here hx rfl (hb hby at_6) rfl ?_
      show Steps p.tables e below (s₁.setTop (mkF m 8 #[.val (.int p1), .val (.long p2), .second, .val (.int p3), .val (.int (p1 &&& (7 : Int32))), .unset, .unset, .unset, .unset, .unset, .unset, .unset, .unset, .unset, .unset, .unset] [(.int (p1 &&& (7 : Int32)))])) _
      exact kt)
    have k63 := fun (t : State) (kt : Steps p.tables e below (s₁.setTop (mkF m 32 #[.val (.int p1), .val (.long p2), .second, .val (.int p3), .val (.int (p1 &&& (7 : Int32))), .unset, .unset, .unset, .unset, .unset, .unset, .unset, .unset, .unset, .unset, .unset] [(.int (1 : Int32)), (.int (p1 &&& (7 : Int32)))])) t) => k62 t (by
      refine XS.ifYes X0.here hx rfl (pc0 := 8) (pc' := 29) rfl (hb hby at_8) rfl ((if0 _ _).trans (feq (by rw [hk]; decide)).2) (by decide) (by decide) ?_
      show Steps p.tables e below (s₁.setTop (mkF m 29 #[.val (.int p1), .val (.long p2), .second, .val (.int p3), .val (.int (p1 &&& (7 : Int32))), .unset, .unset, .unset, .unset, .unset, .unset, .unset, .unset, .unset, .unset, .unset] [])) _
      refine XS.iload X0.here hx rfl (hb hby at_29) rfl ?_
      show Steps p.tables e below (s₁.setTop (mkF m 31 #[.val (.int p1), .val (.long p2), .second, .val (.int p3), .val (.int (p1 &&& (7 : Int32))), .unset, .unset, .unset, .unset, .unset, .unset, .unset, .unset, .unset, .unset, .unset] [(.int (p1 &&& (7 : Int32)))])) _
      refine XS.iconst X0.here hx rfl (hb hby at_31) ?_
      show Steps p.tables e below (s₁.setTop (mkF m 32 #[.val (.int p1), .val (.long p2), .second, .val (.int p3), .val (.int (p1 &&& (7 : Int32))), .unset, .unset, .unset, .unset, .unset, .unset, .unset, .unset, .unset, .unset, .unset] [(.int (1 : Int32)), (.int (p1 &&& (7 : Int32)))])) _
      exact kt)
    have k64 := fun (t : State) (kt : Steps p.tables e below (s₁.setTop (mkF m 54 #[.val (.int p1), .val (.long p2), .second, .val (.int p3), .val (.int (p1 &&& (7 : Int32))), .unset, .unset, .unset, .unset, .unset, .unset, .unset, .unset, .unset, .unset, .unset] [(.int (2 : Int32)), (.int (p1 &&& (7 : Int32)))])) t) => k63 t (by
      refine XS.icmpYes X0.here hx rfl (pc0 := 32) (pc' := 51) rfl (hb hby at_32) rfl (feq (by rw [hk]; decide)).2 (by decide) (by decide) ?_
      show Steps p.tables e below (s₁.setTop (mkF m 51 #[.val (.int p1), .val (.long p2), .second, .val (.int p3), .val (.int (p1 &&& (7 : Int32))), .unset, .unset, .unset, .unset, .unset, .unset, .unset, .unset, .unset, .unset, .unset] [])) _
      refine XS.iload X0.here hx rfl (hb hby at_51) rfl ?_
      show Steps p.tables e below (s₁.setTop (mkF m 53 #[.val (.int p1), .val (.long p2), .second, .val (.int p3), .val (.int (p1 &&& (7 : Int32))), .unset, .unset, .unset, .unset, .unset, .unset, .unset, .unset, .unset, .unset, .unset] [(.int (p1 &&& (7 : Int32)))])) _
      refine XS.iconst X0.here hx rfl (hb hby at_53) ?_
      show Steps p.tables e below (s₁.setTop (mkF m 54 #[.val (.int p1), .val (.long p2), .second, .val (.int p3), .val (.int (p1 &&& (7 : Int32))), .unset, .unset, .unset, .unset, .unset, .unset, .unset, .unset, .unset, .unset, .unset] [(.int (2 : Int32)), (.int (p1 &&& (7 : Int32)))])) _
      exact kt)
    have k65 := fun (t : State) (kt : Steps p.tables e below (s₁.setTop (mkF m 57 #[.val (.int p1), .val (.long p2), .second, .val (.int p3), .val (.int (p1 &&& (7 : Int32))), .unset, .unset, .unset, .unset, .unset, .unset, .unset, .unset, .unset, .unset, .unset] [])) t) => k64 t (by
      refine XS.icmpNo X0.here hx rfl (hb hby at_54) rfl (teq hk).2 ?_
      show Steps p.tables e below (s₁.setTop (mkF m 57 #[.val (.int p1), .val (.long p2), .second, .val (.int p3), .val (.int (p1 &&& (7 : Int32))), .unset, .unset, .unset, .unset, .unset, .unset, .unset, .unset, .unset, .unset, .unset] [])) _
      exact kt)
    obtain ⟨T66, X66, e66, st66⟩ := getS2 X0 hx hZ hown (host := "") (Or.inl (hw _ (List.mem_of_getElem? (i := 22) rfl))) Via.refl e0 (S_INT16.ext O0.2) (g := (mkF m 57 #[.val (.int p1), .val (.long p2), .second, .val (.int p3), .val (.int (p1 &&& (7 : Int32))), .unset, .unset, .unset, .unset, .unset, .unset, .unset, .unset, .unset, .unset, .unset] [])) rfl (hb hby at_57)
    have k67 := fun (t : State) (kt : Steps p.tables e below (T66.setTop (mkF m 181 #[.val (.int p1), .val (.long p2), .second, .val (.int p3), .val (.int (p1 &&& (7 : Int32))), .val (.ref aINT16), .val (.long (-32768 : Int64)), .second, .val (.long (32767 : Int64)), .second, .unset, .unset, .unset, .unset, .unset, .unset] [])) t) => k65 t (by
      refine st66 _ ?_
      show Steps p.tables e below (T66.setTop (mkF m 60 #[.val (.int p1), .val (.long p2), .second, .val (.int p3), .val (.int (p1 &&& (7 : Int32))), .unset, .unset, .unset, .unset, .unset, .unset, .unset, .unset, .unset, .unset, .unset] [(.ref aINT16)])) _
      refine XS.astore X66.here hx rfl (hb hby at_60) rfl rfl (l' := #[.val (.int p1), .val (.long p2), .second, .val (.int p3), .val (.int (p1 &&& (7 : Int32))), .val (.ref aINT16), .unset, .unset, .unset, .unset, .unset, .unset, .unset, .unset, .unset, .unset]) rfl ?_
      show Steps p.tables e below (T66.setTop (mkF m 62 #[.val (.int p1), .val (.long p2), .second, .val (.int p3), .val (.int (p1 &&& (7 : Int32))), .val (.ref aINT16), .unset, .unset, .unset, .unset, .unset, .unset, .unset, .unset, .unset, .unset] [])) _
      refine X66.ldc2Long hx hown (mvT hZ (hw _ (List.mem_of_getElem? (i := 24) rfl))) (g := (mkF m 62 #[.val (.int p1), .val (.long p2), .second, .val (.int p3), .val (.int (p1 &&& (7 : Int32))), .val (.ref aINT16), .unset, .unset, .unset, .unset, .unset, .unset, .unset, .unset, .unset, .unset] [])) rfl (hb hby at_62) _ ?_
      show Steps p.tables e below (T66.setTop (mkF m 65 #[.val (.int p1), .val (.long p2), .second, .val (.int p3), .val (.int (p1 &&& (7 : Int32))), .val (.ref aINT16), .unset, .unset, .unset, .unset, .unset, .unset, .unset, .unset, .unset, .unset] [(.long (-32768 : Int64))])) _
      refine XS.lstore X66.here hx rfl (hb hby at_65) rfl (l' := #[.val (.int p1), .val (.long p2), .second, .val (.int p3), .val (.int (p1 &&& (7 : Int32))), .val (.ref aINT16), .val (.long (-32768 : Int64)), .second, .unset, .unset, .unset, .unset, .unset, .unset, .unset, .unset]) rfl ?_
      show Steps p.tables e below (T66.setTop (mkF m 67 #[.val (.int p1), .val (.long p2), .second, .val (.int p3), .val (.int (p1 &&& (7 : Int32))), .val (.ref aINT16), .val (.long (-32768 : Int64)), .second, .unset, .unset, .unset, .unset, .unset, .unset, .unset, .unset] [])) _
      refine X66.ldc2Long hx hown (mvT hZ (hw _ (List.mem_of_getElem? (i := 25) rfl))) (g := (mkF m 67 #[.val (.int p1), .val (.long p2), .second, .val (.int p3), .val (.int (p1 &&& (7 : Int32))), .val (.ref aINT16), .val (.long (-32768 : Int64)), .second, .unset, .unset, .unset, .unset, .unset, .unset, .unset, .unset] [])) rfl (hb hby at_67) _ ?_
      show Steps p.tables e below (T66.setTop (mkF m 70 #[.val (.int p1), .val (.long p2), .second, .val (.int p3), .val (.int (p1 &&& (7 : Int32))), .val (.ref aINT16), .val (.long (-32768 : Int64)), .second, .unset, .unset, .unset, .unset, .unset, .unset, .unset, .unset] [(.long (32767 : Int64))])) _
      refine XS.lstore X66.here hx rfl (hb hby at_70) rfl (l' := #[.val (.int p1), .val (.long p2), .second, .val (.int p3), .val (.int (p1 &&& (7 : Int32))), .val (.ref aINT16), .val (.long (-32768 : Int64)), .second, .val (.long (32767 : Int64)), .second, .unset, .unset, .unset, .unset, .unset, .unset]) rfl ?_
      show Steps p.tables e below (T66.setTop (mkF m 72 #[.val (.int p1), .val (.long p2), .second, .val (.int p3), .val (.int (p1 &&& (7 : Int32))), .val (.ref aINT16), .val (.long (-32768 : Int64)), .second, .val (.long (32767 : Int64)), .second, .unset, .unset, .unset, .unset, .unset, .unset] [])) _
      refine XS.goto X66.here hx rfl (pc0 := 72) (pc' := 181) rfl (hb hby at_72) (by decide) (by decide) ?_
      show Steps p.tables e below (T66.setTop (mkF m 181 #[.val (.int p1), .val (.long p2), .second, .val (.int p3), .val (.int (p1 &&& (7 : Int32))), .val (.ref aINT16), .val (.long (-32768 : Int64)), .second, .val (.long (32767 : Int64)), .second, .unset, .unset, .unset, .unset, .unset, .unset] [])) _
      exact kt)
    refine cps (A := ∃ xv : Int64, ∀ t, Steps p.tables e below (T66.setTop (mkF m 244 #[.val (.int p1), .val (.long p2), .second, .val (.int p3), .val (.int (p1 &&& (7 : Int32))), .val (.ref aINT16), .val (.long (-32768 : Int64)), .second, .val (.long (32767 : Int64)), .second, .val (.int (p3 &&& (3 : Int32))), .val (.long ((p2 &&& (3 : Int64)) - (1 : Int64))), .second, .val (.long xv), .second, .unset] [])) t → Steps p.tables e below (s₁.setTop (entryFrame m #[(.int p1), (.long p2), (.int p3)] maxLocals)) t) ?_ ?_
    · intro join
      have k68 := fun (t : State) (kt : Steps p.tables e below (T66.setTop (mkF m 197 #[.val (.int p1), .val (.long p2), .second, .val (.int p3), .val (.int (p1 &&& (7 : Int32))), .val (.ref aINT16), .val (.long (-32768 : Int64)), .second, .val (.long (32767 : Int64)), .second, .val (.int (p3 &&& (3 : Int32))), .val (.long ((p2 &&& (3 : Int64)) - (1 : Int64))), .second, .unset, .unset, .unset] [(.int (p3 &&& (3 : Int32)))])) t) => k67 t (by
        refine XS.iloadN X66.here hx rfl (hb hby at_181) rfl ?_
        show Steps p.tables e below (T66.setTop (mkF m 182 #[.val (.int p1), .val (.long p2), .second, .val (.int p3), .val (.int (p1 &&& (7 : Int32))), .val (.ref aINT16), .val (.long (-32768 : Int64)), .second, .val (.long (32767 : Int64)), .second, .unset, .unset, .unset, .unset, .unset, .unset] [(.int p3)])) _
        refine XS.iconst X66.here hx rfl (hb hby at_182) ?_
        show Steps p.tables e below (T66.setTop (mkF m 183 #[.val (.int p1), .val (.long p2), .second, .val (.int p3), .val (.int (p1 &&& (7 : Int32))), .val (.ref aINT16), .val (.long (-32768 : Int64)), .second, .val (.long (32767 : Int64)), .second, .unset, .unset, .unset, .unset, .unset, .unset] [(.int (3 : Int32)), (.int p3)])) _
        refine XS.iand X66.here hx rfl (hb hby at_183) rfl ?_
        show Steps p.tables e below (T66.setTop (mkF m 184 #[.val (.int p1), .val (.long p2), .second, .val (.int p3), .val (.int (p1 &&& (7 : Int32))), .val (.ref aINT16), .val (.long (-32768 : Int64)), .second, .val (.long (32767 : Int64)), .second, .unset, .unset, .unset, .unset, .unset, .unset] [(.int (p3 &&& (3 : Int32)))])) _
        refine XS.istore X66.here hx rfl (hb hby at_184) rfl (l' := #[.val (.int p1), .val (.long p2), .second, .val (.int p3), .val (.int (p1 &&& (7 : Int32))), .val (.ref aINT16), .val (.long (-32768 : Int64)), .second, .val (.long (32767 : Int64)), .second, .val (.int (p3 &&& (3 : Int32))), .unset, .unset, .unset, .unset, .unset]) rfl ?_
        show Steps p.tables e below (T66.setTop (mkF m 186 #[.val (.int p1), .val (.long p2), .second, .val (.int p3), .val (.int (p1 &&& (7 : Int32))), .val (.ref aINT16), .val (.long (-32768 : Int64)), .second, .val (.long (32767 : Int64)), .second, .val (.int (p3 &&& (3 : Int32))), .unset, .unset, .unset, .unset, .unset] [])) _
        refine XS.lloadN X66.here hx rfl (hb hby at_186) rfl ?_
        show Steps p.tables e below (T66.setTop (mkF m 187 #[.val (.int p1), .val (.long p2), .second, .val (.int p3), .val (.int (p1 &&& (7 : Int32))), .val (.ref aINT16), .val (.long (-32768 : Int64)), .second, .val (.long (32767 : Int64)), .second, .val (.int (p3 &&& (3 : Int32))), .unset, .unset, .unset, .unset, .unset] [(.long p2)])) _
        refine X66.ldc2Long hx hown (mvT hZ (hw _ (List.mem_of_getElem? (i := 5) rfl))) (g := (mkF m 187 #[.val (.int p1), .val (.long p2), .second, .val (.int p3), .val (.int (p1 &&& (7 : Int32))), .val (.ref aINT16), .val (.long (-32768 : Int64)), .second, .val (.long (32767 : Int64)), .second, .val (.int (p3 &&& (3 : Int32))), .unset, .unset, .unset, .unset, .unset] [(.long p2)])) rfl (hb hby at_187) _ ?_
        show Steps p.tables e below (T66.setTop (mkF m 190 #[.val (.int p1), .val (.long p2), .second, .val (.int p3), .val (.int (p1 &&& (7 : Int32))), .val (.ref aINT16), .val (.long (-32768 : Int64)), .second, .val (.long (32767 : Int64)), .second, .val (.int (p3 &&& (3 : Int32))), .unset, .unset, .unset, .unset, .unset] [(.long (3 : Int64)), (.long p2)])) _
        refine XS.land X66.here hx rfl (hb hby at_190) rfl ?_
        show Steps p.tables e below (T66.setTop (mkF m 191 #[.val (.int p1), .val (.long p2), .second, .val (.int p3), .val (.int (p1 &&& (7 : Int32))), .val (.ref aINT16), .val (.long (-32768 : Int64)), .second, .val (.long (32767 : Int64)), .second, .val (.int (p3 &&& (3 : Int32))), .unset, .unset, .unset, .unset, .unset] [(.long (p2 &&& (3 : Int64)))])) _
        refine XS.lconst X66.here hx rfl (hb hby at_191) ?_
        show Steps p.tables e below (T66.setTop (mkF m 192 #[.val (.int p1), .val (.long p2), .second, .val (.int p3), .val (.int (p1 &&& (7 : Int32))), .val (.ref aINT16), .val (.long (-32768 : Int64)), .second, .val (.long (32767 : Int64)), .second, .val (.int (p3 &&& (3 : Int32))), .unset, .unset, .unset, .unset, .unset] [(.long (1 : Int64)), (.long (p2 &&& (3 : Int64)))])) _
        refine XS.lsub X66.here hx rfl (hb hby at_192) rfl ?_
        show Steps p.tables e below (T66.setTop (mkF m 193 #[.val (.int p1), .val (.long p2), .second, .val (.int p3), .val (.int (p1 &&& (7 : Int32))), .val (.ref aINT16), .val (.long (-32768 : Int64)), .second, .val (.long (32767 : Int64)), .second, .val (.int (p3 &&& (3 : Int32))), .unset, .unset, .unset, .unset, .unset] [(.long ((p2 &&& (3 : Int64)) - (1 : Int64)))])) _
        refine XS.lstore X66.here hx rfl (hb hby at_193) rfl (l' := #[.val (.int p1), .val (.long p2), .second, .val (.int p3), .val (.int (p1 &&& (7 : Int32))), .val (.ref aINT16), .val (.long (-32768 : Int64)), .second, .val (.long (32767 : Int64)), .second, .val (.int (p3 &&& (3 : Int32))), .val (.long ((p2 &&& (3 : Int64)) - (1 : Int64))), .second, .unset, .unset, .unset]) rfl ?_
        show Steps p.tables e below (T66.setTop (mkF m 195 #[.val (.int p1), .val (.long p2), .second, .val (.int p3), .val (.int (p1 &&& (7 : Int32))), .val (.ref aINT16), .val (.long (-32768 : Int64)), .second, .val (.long (32767 : Int64)), .second, .val (.int (p3 &&& (3 : Int32))), .val (.long ((p2 &&& (3 : Int64)) - (1 : Int64))), .second, .unset, .unset, .unset] [])) _
        refine XS.iload X66.here hx rfl (hb hby at_195) rfl ?_
        show Steps p.tables e below (T66.setTop (mkF m 197 #[.val (.int p1), .val (.long p2), .second, .val (.int p3), .val (.int (p1 &&& (7 : Int32))), .val (.ref aINT16), .val (.long (-32768 : Int64)), .second, .val (.long (32767 : Int64)), .second, .val (.int (p3 &&& (3 : Int32))), .val (.long ((p2 &&& (3 : Int64)) - (1 : Int64))), .second, .unset, .unset, .unset] [(.int (p3 &&& (3 : Int32)))])) _
        exact kt)
      by_cases hc197_69 : (p3 &&& (3 : Int32)) = (0 : Int32)
      · have k70 := fun (t : State) (kt : Steps p.tables e below (T66.setTop (mkF m 244 #[.val (.int p1), .val (.long p2), .second, .val (.int p3), .val (.int (p1 &&& (7 : Int32))), .val (.ref aINT16), .val (.long (-32768 : Int64)), .second, .val (.long (32767 : Int64)), .second, .val (.int (p3 &&& (3 : Int32))), .val (.long ((p2 &&& (3 : Int64)) - (1 : Int64))), .second, .val (.long p2), .second, .unset] [])) t) => k68 t (by
          refine XS.ifNo X66.here hx rfl (hb hby at_197) rfl ((if0 _ _).trans (teq hc197_69).2) ?_
          show Steps p.tables e below (T66.setTop (mkF m 200 #[.val (.int p1), .val (.long p2), .second, .val (.int p3), .val (.int (p1 &&& (7 : Int32))), .val (.ref aINT16), .val (.long (-32768 : Int64)), .second, .val (.long (32767 : Int64)), .second, .val (.int (p3 &&& (3 : Int32))), .val (.long ((p2 &&& (3 : Int64)) - (1 : Int64))), .second, .unset, .unset, .unset] [])) _
          refine XS.lloadN X66.here hx rfl (hb hby at_200) rfl ?_
          show Steps p.tables e below (T66.setTop (mkF m 201 #[.val (.int p1), .val (.long p2), .second, .val (.int p3), .val (.int (p1 &&& (7 : Int32))), .val (.ref aINT16), .val (.long (-32768 : Int64)), .second, .val (.long (32767 : Int64)), .second, .val (.int (p3 &&& (3 : Int32))), .val (.long ((p2 &&& (3 : Int64)) - (1 : Int64))), .second, .unset, .unset, .unset] [(.long p2)])) _
          refine XS.lstore X66.here hx rfl (hb hby at_201) rfl (l' := #[.val (.int p1), .val (.long p2), .second, .val (.int p3), .val (.int (p1 &&& (7 : Int32))), .val (.ref aINT16), .val (.long (-32768 : Int64)), .second, .val (.long (32767 : Int64)), .second, .val (.int (p3 &&& (3 : Int32))), .val (.long ((p2 &&& (3 : Int64)) - (1 : Int64))), .second, .val (.long p2), .second, .unset]) rfl ?_
          show Steps p.tables e below (T66.setTop (mkF m 203 #[.val (.int p1), .val (.long p2), .second, .val (.int p3), .val (.int (p1 &&& (7 : Int32))), .val (.ref aINT16), .val (.long (-32768 : Int64)), .second, .val (.long (32767 : Int64)), .second, .val (.int (p3 &&& (3 : Int32))), .val (.long ((p2 &&& (3 : Int64)) - (1 : Int64))), .second, .val (.long p2), .second, .unset] [])) _
          refine XS.goto X66.here hx rfl (pc0 := 203) (pc' := 244) rfl (hb hby at_203) (by decide) (by decide) ?_
          show Steps p.tables e below (T66.setTop (mkF m 244 #[.val (.int p1), .val (.long p2), .second, .val (.int p3), .val (.int (p1 &&& (7 : Int32))), .val (.ref aINT16), .val (.long (-32768 : Int64)), .second, .val (.long (32767 : Int64)), .second, .val (.int (p3 &&& (3 : Int32))), .val (.long ((p2 &&& (3 : Int64)) - (1 : Int64))), .second, .val (.long p2), .second, .unset] [])) _
          exact kt)
        exact join ⟨_, k70⟩
      · have k71 := fun (t : State) (kt : Steps p.tables e below (T66.setTop (mkF m 209 #[.val (.int p1), .val (.long p2), .second, .val (.int p3), .val (.int (p1 &&& (7 : Int32))), .val (.ref aINT16), .val (.long (-32768 : Int64)), .second, .val (.long (32767 : Int64)), .second, .val (.int (p3 &&& (3 : Int32))), .val (.long ((p2 &&& (3 : Int64)) - (1 : Int64))), .second, .unset, .unset, .unset] [(.int (1 : Int32)), (.int (p3 &&& (3 : Int32)))])) t) => k68 t (by
          refine XS.ifYes X66.here hx rfl (pc0 := 197) (pc' := 206) rfl (hb hby at_197) rfl ((if0 _ _).trans (feq hc197_69).2) (by decide) (by decide) ?_
          show Steps p.tables e below (T66.setTop (mkF m 206 #[.val (.int p1), .val (.long p2), .second, .val (.int p3), .val (.int (p1 &&& (7 : Int32))), .val (.ref aINT16), .val (.long (-32768 : Int64)), .second, .val (.long (32767 : Int64)), .second, .val (.int (p3 &&& (3 : Int32))), .val (.long ((p2 &&& (3 : Int64)) - (1 : Int64))), .second, .unset, .unset, .unset] [])) _
          refine XS.iload X66.here hx rfl (hb hby at_206) rfl ?_
          show Steps p.tables e below (T66.setTop (mkF m 208 #[.val (.int p1), .val (.long p2), .second, .val (.int p3), .val (.int (p1 &&& (7 : Int32))), .val (.ref aINT16), .val (.long (-32768 : Int64)), .second, .val (.long (32767 : Int64)), .second, .val (.int (p3 &&& (3 : Int32))), .val (.long ((p2 &&& (3 : Int64)) - (1 : Int64))), .second, .unset, .unset, .unset] [(.int (p3 &&& (3 : Int32)))])) _
          refine XS.iconst X66.here hx rfl (hb hby at_208) ?_
          show Steps p.tables e below (T66.setTop (mkF m 209 #[.val (.int p1), .val (.long p2), .second, .val (.int p3), .val (.int (p1 &&& (7 : Int32))), .val (.ref aINT16), .val (.long (-32768 : Int64)), .second, .val (.long (32767 : Int64)), .second, .val (.int (p3 &&& (3 : Int32))), .val (.long ((p2 &&& (3 : Int64)) - (1 : Int64))), .second, .unset, .unset, .unset] [(.int (1 : Int32)), (.int (p3 &&& (3 : Int32)))])) _
          exact kt)
        by_cases hc209_72 : (p3 &&& (3 : Int32)) = (1 : Int32)
        · have k73 := fun (t : State) (kt : Steps p.tables e below (T66.setTop (mkF m 244 #[.val (.int p1), .val (.long p2), .second, .val (.int p3), .val (.int (p1 &&& (7 : Int32))), .val (.ref aINT16), .val (.long (-32768 : Int64)), .second, .val (.long (32767 : Int64)), .second, .val (.int (p3 &&& (3 : Int32))), .val (.long ((p2 &&& (3 : Int64)) - (1 : Int64))), .second, .val (.long ((32767 : Int64) + ((p2 &&& (3 : Int64)) - (1 : Int64)))), .second, .unset] [])) t) => k71 t (by
            refine XS.icmpNo X66.here hx rfl (hb hby at_209) rfl (teq hc209_72).2 ?_
            show Steps p.tables e below (T66.setTop (mkF m 212 #[.val (.int p1), .val (.long p2), .second, .val (.int p3), .val (.int (p1 &&& (7 : Int32))), .val (.ref aINT16), .val (.long (-32768 : Int64)), .second, .val (.long (32767 : Int64)), .second, .val (.int (p3 &&& (3 : Int32))), .val (.long ((p2 &&& (3 : Int64)) - (1 : Int64))), .second, .unset, .unset, .unset] [])) _
            refine XS.lload X66.here hx rfl (hb hby at_212) rfl ?_
            show Steps p.tables e below (T66.setTop (mkF m 214 #[.val (.int p1), .val (.long p2), .second, .val (.int p3), .val (.int (p1 &&& (7 : Int32))), .val (.ref aINT16), .val (.long (-32768 : Int64)), .second, .val (.long (32767 : Int64)), .second, .val (.int (p3 &&& (3 : Int32))), .val (.long ((p2 &&& (3 : Int64)) - (1 : Int64))), .second, .unset, .unset, .unset] [(.long (32767 : Int64))])) _
            refine XS.lload X66.here hx rfl (hb hby at_214) rfl ?_
            show Steps p.tables e below (T66.setTop (mkF m 216 #[.val (.int p1), .val (.long p2), .second, .val (.int p3), .val (.int (p1 &&& (7 : Int32))), .val (.ref aINT16), .val (.long (-32768 : Int64)), .second, .val (.long (32767 : Int64)), .second, .val (.int (p3 &&& (3 : Int32))), .val (.long ((p2 &&& (3 : Int64)) - (1 : Int64))), .second, .unset, .unset, .unset] [(.long ((p2 &&& (3 : Int64)) - (1 : Int64))), (.long (32767 : Int64))])) _
            refine XS.ladd X66.here hx rfl (hb hby at_216) rfl ?_
            show Steps p.tables e below (T66.setTop (mkF m 217 #[.val (.int p1), .val (.long p2), .second, .val (.int p3), .val (.int (p1 &&& (7 : Int32))), .val (.ref aINT16), .val (.long (-32768 : Int64)), .second, .val (.long (32767 : Int64)), .second, .val (.int (p3 &&& (3 : Int32))), .val (.long ((p2 &&& (3 : Int64)) - (1 : Int64))), .second, .unset, .unset, .unset] [(.long ((32767 : Int64) + ((p2 &&& (3 : Int64)) - (1 : Int64))))])) _
            refine XS.lstore X66.here hx rfl (hb hby at_217) rfl (l' := #[.val (.int p1), .val (.long p2), .second, .val (.int p3), .val (.int (p1 &&& (7 : Int32))), .val (.ref aINT16), .val (.long (-32768 : Int64)), .second, .val (.long (32767 : Int64)), .second, .val (.int (p3 &&& (3 : Int32))), .val (.long ((p2 &&& (3 : Int64)) - (1 : Int64))), .second, .val (.long ((32767 : Int64) + ((p2 &&& (3 : Int64)) - (1 : Int64)))), .second, .unset]) rfl ?_
            show Steps p.tables e below (T66.setTop (mkF m 219 #[.val (.int p1), .val (.long p2), .second, .val (.int p3), .val (.int (p1 &&& (7 : Int32))), .val (.ref aINT16), .val (.long (-32768 : Int64)), .second, .val (.long (32767 : Int64)), .second, .val (.int (p3 &&& (3 : Int32))), .val (.long ((p2 &&& (3 : Int64)) - (1 : Int64))), .second, .val (.long ((32767 : Int64) + ((p2 &&& (3 : Int64)) - (1 : Int64)))), .second, .unset] [])) _
            refine XS.goto X66.here hx rfl (pc0 := 219) (pc' := 244) rfl (hb hby at_219) (by decide) (by decide) ?_
            show Steps p.tables e below (T66.setTop (mkF m 244 #[.val (.int p1), .val (.long p2), .second, .val (.int p3), .val (.int (p1 &&& (7 : Int32))), .val (.ref aINT16), .val (.long (-32768 : Int64)), .second, .val (.long (32767 : Int64)), .second, .val (.int (p3 &&& (3 : Int32))), .val (.long ((p2 &&& (3 : Int64)) - (1 : Int64))), .second, .val (.long ((32767 : Int64) + ((p2 &&& (3 : Int64)) - (1 : Int64)))), .second, .unset] [])) _
            exact kt)
          exact join ⟨_, k73⟩
        · have k74 := fun (t : State) (kt : Steps p.tables e below (T66.setTop (mkF m 225 #[.val (.int p1), .val (.long p2), .second, .val (.int p3), .val (.int (p1 &&& (7 : Int32))), .val (.ref aINT16), .val (.long (-32768 : Int64)), .second, .val (.long (32767 : Int64)), .second, .val (.int (p3 &&& (3 : Int32))), .val (.long ((p2 &&& (3 : Int64)) - (1 : Int64))), .second, .unset, .unset, .unset] [(.int (2 : Int32)), (.int (p3 &&& (3 : Int32)))])) t) => k71 t (by
            refine XS.icmpYes X66.here hx rfl (pc0 := 209) (pc' := 222) rfl (hb hby at_209) rfl (feq hc209_72).2 (by decide) (by decide) ?_
            show Steps p.tables e below (T66.setTop (mkF m 222 #[.val (.int p1), .val (.long p2), .second, .val (.int p3), .val (.int (p1 &&& (7 : Int32))), .val (.ref aINT16), .val (.long (-32768 : Int64)), .second, .val (.long (32767 : Int64)), .second, .val (.int (p3 &&& (3 : Int32))), .val (.long ((p2 &&& (3 : Int64)) - (1 : Int64))), .second, .unset, .unset, .unset] [])) _
            refine XS.iload X66.here hx rfl (hb hby at_222) rfl ?_
            show Steps p.tables e below (T66.setTop (mkF m 224 #[.val (.int p1), .val (.long p2), .second, .val (.int p3), .val (.int (p1 &&& (7 : Int32))), .val (.ref aINT16), .val (.long (-32768 : Int64)), .second, .val (.long (32767 : Int64)), .second, .val (.int (p3 &&& (3 : Int32))), .val (.long ((p2 &&& (3 : Int64)) - (1 : Int64))), .second, .unset, .unset, .unset] [(.int (p3 &&& (3 : Int32)))])) _
            refine XS.iconst X66.here hx rfl (hb hby at_224) ?_
            show Steps p.tables e below (T66.setTop (mkF m 225 #[.val (.int p1), .val (.long p2), .second, .val (.int p3), .val (.int (p1 &&& (7 : Int32))), .val (.ref aINT16), .val (.long (-32768 : Int64)), .second, .val (.long (32767 : Int64)), .second, .val (.int (p3 &&& (3 : Int32))), .val (.long ((p2 &&& (3 : Int64)) - (1 : Int64))), .second, .unset, .unset, .unset] [(.int (2 : Int32)), (.int (p3 &&& (3 : Int32)))])) _
            exact kt)
          by_cases hc225_75 : (p3 &&& (3 : Int32)) = (2 : Int32)
          · have k76 := fun (t : State) (kt : Steps p.tables e below (T66.setTop (mkF m 244 #[.val (.int p1), .val (.long p2), .second, .val (.int p3), .val (.int (p1 &&& (7 : Int32))), .val (.ref aINT16), .val (.long (-32768 : Int64)), .second, .val (.long (32767 : Int64)), .second, .val (.int (p3 &&& (3 : Int32))), .val (.long ((p2 &&& (3 : Int64)) - (1 : Int64))), .second, .val (.long ((-32768 : Int64) - ((p2 &&& (3 : Int64)) - (1 : Int64)))), .second, .unset] [])) t) => k74 t (by
              refine XS.icmpNo X66.here hx rfl (hb hby at_225) rfl (teq hc225_75).2 ?_
              show Steps p.tables e below (T66.setTop (mkF m 228 #[.val (.int p1), .val (.long p2), .second, .val (.int p3), .val (.int (p1 &&& (7 : Int32))), .val (.ref aINT16), .val (.long (-32768 : Int64)), .second, .val (.long (32767 : Int64)), .second, .val (.int (p3 &&& (3 : Int32))), .val (.long ((p2 &&& (3 : Int64)) - (1 : Int64))), .second, .unset, .unset, .unset] [])) _
              refine XS.lload X66.here hx rfl (hb hby at_228) rfl ?_
              show Steps p.tables e below (T66.setTop (mkF m 230 #[.val (.int p1), .val (.long p2), .second, .val (.int p3), .val (.int (p1 &&& (7 : Int32))), .val (.ref aINT16), .val (.long (-32768 : Int64)), .second, .val (.long (32767 : Int64)), .second, .val (.int (p3 &&& (3 : Int32))), .val (.long ((p2 &&& (3 : Int64)) - (1 : Int64))), .second, .unset, .unset, .unset] [(.long (-32768 : Int64))])) _
              refine XS.lload X66.here hx rfl (hb hby at_230) rfl ?_
              show Steps p.tables e below (T66.setTop (mkF m 232 #[.val (.int p1), .val (.long p2), .second, .val (.int p3), .val (.int (p1 &&& (7 : Int32))), .val (.ref aINT16), .val (.long (-32768 : Int64)), .second, .val (.long (32767 : Int64)), .second, .val (.int (p3 &&& (3 : Int32))), .val (.long ((p2 &&& (3 : Int64)) - (1 : Int64))), .second, .unset, .unset, .unset] [(.long ((p2 &&& (3 : Int64)) - (1 : Int64))), (.long (-32768 : Int64))])) _
              refine XS.lsub X66.here hx rfl (hb hby at_232) rfl ?_
              show Steps p.tables e below (T66.setTop (mkF m 233 #[.val (.int p1), .val (.long p2), .second, .val (.int p3), .val (.int (p1 &&& (7 : Int32))), .val (.ref aINT16), .val (.long (-32768 : Int64)), .second, .val (.long (32767 : Int64)), .second, .val (.int (p3 &&& (3 : Int32))), .val (.long ((p2 &&& (3 : Int64)) - (1 : Int64))), .second, .unset, .unset, .unset] [(.long ((-32768 : Int64) - ((p2 &&& (3 : Int64)) - (1 : Int64))))])) _
              refine XS.lstore X66.here hx rfl (hb hby at_233) rfl (l' := #[.val (.int p1), .val (.long p2), .second, .val (.int p3), .val (.int (p1 &&& (7 : Int32))), .val (.ref aINT16), .val (.long (-32768 : Int64)), .second, .val (.long (32767 : Int64)), .second, .val (.int (p3 &&& (3 : Int32))), .val (.long ((p2 &&& (3 : Int64)) - (1 : Int64))), .second, .val (.long ((-32768 : Int64) - ((p2 &&& (3 : Int64)) - (1 : Int64)))), .second, .unset]) rfl ?_
              show Steps p.tables e below (T66.setTop (mkF m 235 #[.val (.int p1), .val (.long p2), .second, .val (.int p3), .val (.int (p1 &&& (7 : Int32))), .val (.ref aINT16), .val (.long (-32768 : Int64)), .second, .val (.long (32767 : Int64)), .second, .val (.int (p3 &&& (3 : Int32))), .val (.long ((p2 &&& (3 : Int64)) - (1 : Int64))), .second, .val (.long ((-32768 : Int64) - ((p2 &&& (3 : Int64)) - (1 : Int64)))), .second, .unset] [])) _
              refine XS.goto X66.here hx rfl (pc0 := 235) (pc' := 244) rfl (hb hby at_235) (by decide) (by decide) ?_
              show Steps p.tables e below (T66.setTop (mkF m 244 #[.val (.int p1), .val (.long p2), .second, .val (.int p3), .val (.int (p1 &&& (7 : Int32))), .val (.ref aINT16), .val (.long (-32768 : Int64)), .second, .val (.long (32767 : Int64)), .second, .val (.int (p3 &&& (3 : Int32))), .val (.long ((p2 &&& (3 : Int64)) - (1 : Int64))), .second, .val (.long ((-32768 : Int64) - ((p2 &&& (3 : Int64)) - (1 : Int64)))), .second, .unset] [])) _
              exact kt)
            exact join ⟨_, k76⟩
          · have k77 := fun (t : State) (kt : Steps p.tables e below (T66.setTop (mkF m 244 #[.val (.int p1), .val (.long p2), .second, .val (.int p3), .val (.int (p1 &&& (7 : Int32))), .val (.ref aINT16), .val (.long (-32768 : Int64)), .second, .val (.long (32767 : Int64)), .second, .val (.int (p3 &&& (3 : Int32))), .val (.long ((p2 &&& (3 : Int64)) - (1 : Int64))), .second, .val (.long (p2 >>> ((48 : Int32) &&& 0x3f).toInt64)), .second, .unset] [])) t) => k74 t (by
              refine XS.icmpYes X66.here hx rfl (pc0 := 225) (pc' := 238) rfl (hb hby at_225) rfl (feq hc225_75).2 (by decide) (by decide) ?_
              show Steps p.tables e below (T66.setTop (mkF m 238 #[.val (.int p1), .val (.long p2), .second, .val (.int p3), .val (.int (p1 &&& (7 : Int32))), .val (.ref aINT16), .val (.long (-32768 : Int64)), .second, .val (.long (32767 : Int64)), .second, .val (.int (p3 &&& (3 : Int32))), .val (.long ((p2 &&& (3 : Int64)) - (1 : Int64))), .second, .unset, .unset, .unset] [])) _
              refine XS.lloadN X66.here hx rfl (hb hby at_238) rfl ?_
              show Steps p.tables e below (T66.setTop (mkF m 239 #[.val (.int p1), .val (.long p2), .second, .val (.int p3), .val (.int (p1 &&& (7 : Int32))), .val (.ref aINT16), .val (.long (-32768 : Int64)), .second, .val (.long (32767 : Int64)), .second, .val (.int (p3 &&& (3 : Int32))), .val (.long ((p2 &&& (3 : Int64)) - (1 : Int64))), .second, .unset, .unset, .unset] [(.long p2)])) _
              refine XS.bipush X66.here hx rfl (hb hby at_239) ?_
              show Steps p.tables e below (T66.setTop (mkF m 241 #[.val (.int p1), .val (.long p2), .second, .val (.int p3), .val (.int (p1 &&& (7 : Int32))), .val (.ref aINT16), .val (.long (-32768 : Int64)), .second, .val (.long (32767 : Int64)), .second, .val (.int (p3 &&& (3 : Int32))), .val (.long ((p2 &&& (3 : Int64)) - (1 : Int64))), .second, .unset, .unset, .unset] [(.int (48 : Int32)), (.long p2)])) _
              refine XS.lshr X66.here hx rfl (hb hby at_241) rfl ?_
              show Steps p.tables e below (T66.setTop (mkF m 242 #[.val (.int p1), .val (.long p2), .second, .val (.int p3), .val (.int (p1 &&& (7 : Int32))), .val (.ref aINT16), .val (.long (-32768 : Int64)), .second, .val (.long (32767 : Int64)), .second, .val (.int (p3 &&& (3 : Int32))), .val (.long ((p2 &&& (3 : Int64)) - (1 : Int64))), .second, .unset, .unset, .unset] [(.long (p2 >>> ((48 : Int32) &&& 0x3f).toInt64))])) _
              refine XS.lstore X66.here hx rfl (hb hby at_242) rfl (l' := #[.val (.int p1), .val (.long p2), .second, .val (.int p3), .val (.int (p1 &&& (7 : Int32))), .val (.ref aINT16), .val (.long (-32768 : Int64)), .second, .val (.long (32767 : Int64)), .second, .val (.int (p3 &&& (3 : Int32))), .val (.long ((p2 &&& (3 : Int64)) - (1 : Int64))), .second, .val (.long (p2 >>> ((48 : Int32) &&& 0x3f).toInt64)), .second, .unset]) rfl ?_
              show Steps p.tables e below (T66.setTop (mkF m 244 #[.val (.int p1), .val (.long p2), .second, .val (.int p3), .val (.int (p1 &&& (7 : Int32))), .val (.ref aINT16), .val (.long (-32768 : Int64)), .second, .val (.long (32767 : Int64)), .second, .val (.int (p3 &&& (3 : Int32))), .val (.long ((p2 &&& (3 : Int64)) - (1 : Int64))), .second, .val (.long (p2 >>> ((48 : Int32) &&& 0x3f).toInt64)), .second, .unset] [])) _
              exact kt)
            exact join ⟨_, k77⟩
    · rintro ⟨xv, kJ⟩
      have k78 := fun (t : State) (kt : Steps p.tables e below (T66.setTop (mkF m 249 #[.val (.int p1), .val (.long p2), .second, .val (.int p3), .val (.int (p1 &&& (7 : Int32))), .val (.ref aINT16), .val (.long (-32768 : Int64)), .second, .val (.long (32767 : Int64)), .second, .val (.int (p3 &&& (3 : Int32))), .val (.long ((p2 &&& (3 : Int64)) - (1 : Int64))), .second, .val (.long xv), .second, .unset] [(.int (lcmpW (-32768 : Int64) xv))])) t) => kJ t (by
        refine XS.lload X66.here hx rfl (hb hby at_244) rfl ?_
        show Steps p.tables e below (T66.setTop (mkF m 246 #[.val (.int p1), .val (.long p2), .second, .val (.int p3), .val (.int (p1 &&& (7 : Int32))), .val (.ref aINT16), .val (.long (-32768 : Int64)), .second, .val (.long (32767 : Int64)), .second, .val (.int (p3 &&& (3 : Int32))), .val (.long ((p2 &&& (3 : Int64)) - (1 : Int64))), .second, .val (.long xv), .second, .unset] [(.long (-32768 : Int64))])) _
        refine XS.lload X66.here hx rfl (hb hby at_246) rfl ?_
        show Steps p.tables e below (T66.setTop (mkF m 248 #[.val (.int p1), .val (.long p2), .second, .val (.int p3), .val (.int (p1 &&& (7 : Int32))), .val (.ref aINT16), .val (.long (-32768 : Int64)), .second, .val (.long (32767 : Int64)), .second, .val (.int (p3 &&& (3 : Int32))), .val (.long ((p2 &&& (3 : Int64)) - (1 : Int64))), .second, .val (.long xv), .second, .unset] [(.long xv), (.long (-32768 : Int64))])) _
        refine XS.lcmp X66.here hx rfl (hb hby at_248) rfl ?_
        show Steps p.tables e below (T66.setTop (mkF m 249 #[.val (.int p1), .val (.long p2), .second, .val (.int p3), .val (.int (p1 &&& (7 : Int32))), .val (.ref aINT16), .val (.long (-32768 : Int64)), .second, .val (.long (32767 : Int64)), .second, .val (.int (p3 &&& (3 : Int32))), .val (.long ((p2 &&& (3 : Int64)) - (1 : Int64))), .second, .val (.long xv), .second, .unset] [(.int (lcmpW (-32768 : Int64) xv))])) _
        exact kt)
      by_cases hc249_79 : xv < (-32768 : Int64)
      · have k80 := fun (t : State) (kt : Steps p.tables e below (T66.setTop (mkF m 271 #[.val (.int p1), .val (.long p2), .second, .val (.int p3), .val (.int (p1 &&& (7 : Int32))), .val (.ref aINT16), .val (.long (-32768 : Int64)), .second, .val (.long (32767 : Int64)), .second, .val (.int (p3 &&& (3 : Int32))), .val (.long ((p2 &&& (3 : Int64)) - (1 : Int64))), .second, .val (.long xv), .second, .val (.int (0 : Int32))] [(.long xv), (.ref aINT16)])) t) => k78 t (by
          refine XS.ifYes X66.here hx rfl (pc0 := 249) (pc' := 264) rfl (hb hby at_249) rfl ((if0 _ _).trans (tlt ((lw_gt (-32768 : Int64) xv).mpr hc249_79)).2.2.1) (by decide) (by decide) ?_
          show Steps p.tables e below (T66.setTop (mkF m 264 #[.val (.int p1), .val (.long p2), .second, .val (.int p3), .val (.int (p1 &&& (7 : Int32))), .val (.ref aINT16), .val (.long (-32768 : Int64)), .second, .val (.long (32767 : Int64)), .second, .val (.int (p3 &&& (3 : Int32))), .val (.long ((p2 &&& (3 : Int64)) - (1 : Int64))), .second, .val (.long xv), .second, .unset] [])) _
          refine XS.iconst X66.here hx rfl (hb hby at_264) ?_
          show Steps p.tables e below (T66.setTop (mkF m 265 #[.val (.int p1), .val (.long p2), .second, .val (.int p3), .val (.int (p1 &&& (7 : Int32))), .val (.ref aINT16), .val (.long (-32768 : Int64)), .second, .val (.long (32767 : Int64)), .second, .val (.int (p3 &&& (3 : Int32))), .val (.long ((p2 &&& (3 : Int64)) - (1 : Int64))), .second, .val (.long xv), .second, .unset] [(.int (0 : Int32))])) _
          refine XS.istore X66.here hx rfl (hb hby at_265) rfl (l' := #[.val (.int p1), .val (.long p2), .second, .val (.int p3), .val (.int (p1 &&& (7 : Int32))), .val (.ref aINT16), .val (.long (-32768 : Int64)), .second, .val (.long (32767 : Int64)), .second, .val (.int (p3 &&& (3 : Int32))), .val (.long ((p2 &&& (3 : Int64)) - (1 : Int64))), .second, .val (.long xv), .second, .val (.int (0 : Int32))]) rfl ?_
          show Steps p.tables e below (T66.setTop (mkF m 267 #[.val (.int p1), .val (.long p2), .second, .val (.int p3), .val (.int (p1 &&& (7 : Int32))), .val (.ref aINT16), .val (.long (-32768 : Int64)), .second, .val (.long (32767 : Int64)), .second, .val (.int (p3 &&& (3 : Int32))), .val (.long ((p2 &&& (3 : Int64)) - (1 : Int64))), .second, .val (.long xv), .second, .val (.int (0 : Int32))] [])) _
          refine XS.aload X66.here hx rfl (hb hby at_267) rfl rfl ?_
          show Steps p.tables e below (T66.setTop (mkF m 269 #[.val (.int p1), .val (.long p2), .second, .val (.int p3), .val (.int (p1 &&& (7 : Int32))), .val (.ref aINT16), .val (.long (-32768 : Int64)), .second, .val (.long (32767 : Int64)), .second, .val (.int (p3 &&& (3 : Int32))), .val (.long ((p2 &&& (3 : Int64)) - (1 : Int64))), .second, .val (.long xv), .second, .val (.int (0 : Int32))] [(.ref aINT16)])) _
          refine XS.lload X66.here hx rfl (hb hby at_269) rfl ?_
          show Steps p.tables e below (T66.setTop (mkF m 271 #[.val (.int p1), .val (.long p2), .second, .val (.int p3), .val (.int (p1 &&& (7 : Int32))), .val (.ref aINT16), .val (.long (-32768 : Int64)), .second, .val (.long (32767 : Int64)), .second, .val (.int (p3 &&& (3 : Int32))), .val (.long ((p2 &&& (3 : Int64)) - (1 : Int64))), .second, .val (.long xv), .second, .val (.int (0 : Int32))] [(.long xv), (.ref aINT16)])) _
          exact kt)
        obtain ⟨cq81, kq81, q81a, q81b, q81c⟩ := isOf hZ e66 (E_INT16.ext O0.2)
        obtain ⟨_, _, ⟨T81, L81, k81, n81⟩, -, X81, ⟨Lc81, hQ81, l81, y81, z81⟩, st81⟩ := X66.virtualBack hx (y := (⟨"com/example/tightwire/tightwire/Kind", "holds", "(J)Z"⟩ : MethodName)) (z := (⟨"com/example/tightwire/tightwire/Kind", "holds", "(J)Z"⟩ : MethodName)) hown (mvT hZ (hw _ (List.mem_of_getElem? (i := 6) rfl))) (mvT hZ (hw _ (List.mem_of_getElem? (i := 7) rfl))) (notFace_of_selects (args := #[]) (mvT hZ (hw _ (List.mem_of_getElem? (i := 9) rfl)))) (mvT hZ (hw _ (List.mem_of_getElem? (i := 9) rfl))) (mvT hZ (hw _ (List.mem_of_getElem? (i := 8) rfl))) (by decide) (backOf (W := 0) (rm1 l Z a0 hw [] aINT16 xv (1 : Int32) (16 : Int32) h0 n0 O0 (F_INT16_signed.ext O0.2) (F_INT16_bits.ext O0.2)) hZ (hw _ (List.mem_of_getElem? (i := 10) rfl)) (hw _ (List.mem_of_getElem? (i := 1) rfl)) (by decide) (by decide)) q81a q81c (g := (mkF m 271 #[.val (.int p1), .val (.long p2), .second, .val (.int p3), .val (.int (p1 &&& (7 : Int32))), .val (.ref aINT16), .val (.long (-32768 : Int64)), .second, .val (.long (32767 : Int64)), .second, .val (.int (p3 &&& (3 : Int32))), .val (.long ((p2 &&& (3 : Int64)) - (1 : Int64))), .second, .val (.long xv), .second, .val (.int (0 : Int32))] [(.long xv), (.ref aINT16)])) rfl (by rw [hml]; rfl) (Steps.refl _) (argsL := [(.long xv)]) (rest := []) (lenOf pd_0 rfl) rfl (by show 2 * 0 + _ ≤ _; exact Nat.le_of_eq rfl) (hb hby at_271) (fun _ _ => ⟨rfl, e66, (by decide : 0 + 0 ≤ _), (by decide : 0 + 0 ≤ _)⟩)
        dsimp only [Pt.U, Pt.locs, Pt.cells, Pt.slots] at X81 l81 y81 z81 st81 hQ81
        subst l81 y81 z81
        obtain ⟨rfl, Nq81, eh81⟩ := hQ81
        have N81 := Fr.app N0 Nq81
        have k82 := fun (t : State) (kt : Steps p.tables e below (T81.setTop (mkF m 276 #[.val (.int p1), .val (.long p2), .second, .val (.int p3), .val (.int (p1 &&& (7 : Int32))), .val (.ref aINT16), .val (.long (-32768 : Int64)), .second, .val (.long (32767 : Int64)), .second, .val (.int (p3 &&& (3 : Int32))), .val (.long ((p2 &&& (3 : Int64)) - (1 : Int64))), .second, .val (.long xv), .second, .val (.int (0 : Int32))] [(.int (0 : Int32)), (.int (own_holds (1 : Int32) (16 : Int32) xv))])) t) => k80 t (by
          refine st81.trans ?_
          show Steps p.tables e below (T81.setTop (mkF m 274 #[.val (.int p1), .val (.long p2), .second, .val (.int p3), .val (.int (p1 &&& (7 : Int32))), .val (.ref aINT16), .val (.long (-32768 : Int64)), .second, .val (.long (32767 : Int64)), .second, .val (.int (p3 &&& (3 : Int32))), .val (.long ((p2 &&& (3 : Int64)) - (1 : Int64))), .second, .val (.long xv), .second, .val (.int (0 : Int32))] [(.int (own_holds (1 : Int32) (16 : Int32) xv))])) _
          refine XS.iload X81.here hx rfl (hb hby at_274) rfl ?_
          show Steps p.tables e below (T81.setTop (mkF m 276 #[.val (.int p1), .val (.long p2), .second, .val (.int p3), .val (.int (p1 &&& (7 : Int32))), .val (.ref aINT16), .val (.long (-32768 : Int64)), .second, .val (.long (32767 : Int64)), .second, .val (.int (p3 &&& (3 : Int32))), .val (.long ((p2 &&& (3 : Int64)) - (1 : Int64))), .second, .val (.long xv), .second, .val (.int (0 : Int32))] [(.int (0 : Int32)), (.int (own_holds (1 : Int32) (16 : Int32) xv))])) _
          exact kt)
        have k83 := fun (t : State) (kt : Steps p.tables e below (T81.setTop (mkF m 284 #[.val (.int p1), .val (.long p2), .second, .val (.int p3), .val (.int (p1 &&& (7 : Int32))), .val (.ref aINT16), .val (.long (-32768 : Int64)), .second, .val (.long (32767 : Int64)), .second, .val (.int (p3 &&& (3 : Int32))), .val (.long ((p2 &&& (3 : Int64)) - (1 : Int64))), .second, .val (.long xv), .second, .val (.int (0 : Int32))] [(.int (1 : Int32))])) t) => k82 t (by
          refine XS.icmpNo X81.here hx rfl (hb hby at_276) rfl (teq (own_lo_INT16 hc249_79)).2 ?_
          show Steps p.tables e below (T81.setTop (mkF m 279 #[.val (.int p1), .val (.long p2), .second, .val (.int p3), .val (.int (p1 &&& (7 : Int32))), .val (.ref aINT16), .val (.long (-32768 : Int64)), .second, .val (.long (32767 : Int64)), .second, .val (.int (p3 &&& (3 : Int32))), .val (.long ((p2 &&& (3 : Int64)) - (1 : Int64))), .second, .val (.long xv), .second, .val (.int (0 : Int32))] [])) _
          refine XS.iconst X81.here hx rfl (hb hby at_279) ?_
          show Steps p.tables e below (T81.setTop (mkF m 280 #[.val (.int p1), .val (.long p2), .second, .val (.int p3), .val (.int (p1 &&& (7 : Int32))), .val (.ref aINT16), .val (.long (-32768 : Int64)), .second, .val (.long (32767 : Int64)), .second, .val (.int (p3 &&& (3 : Int32))), .val (.long ((p2 &&& (3 : Int64)) - (1 : Int64))), .second, .val (.long xv), .second, .val (.int (0 : Int32))] [(.int (1 : Int32))])) _
          refine XS.goto X81.here hx rfl (pc0 := 280) (pc' := 284) rfl (hb hby at_280) (by decide) (by decide) ?_
          show Steps p.tables e below (T81.setTop (mkF m 284 #[.val (.int p1), .val (.long p2), .second, .val (.int p3), .val (.int (p1 &&& (7 : Int32))), .val (.ref aINT16), .val (.long (-32768 : Int64)), .second, .val (.long (32767 : Int64)), .second, .val (.int (p3 &&& (3 : Int32))), .val (.long ((p2 &&& (3 : Int64)) - (1 : Int64))), .second, .val (.long xv), .second, .val (.int (0 : Int32))] [(.int (1 : Int32))])) _
          exact kt)
        obtain ⟨fs, hr, hrun, hended, hW, hsame⟩ := X81.leave (v := some (.int (1 : Int32))) (fun h => by rw [Bd.returns] at h; cases h)
        refine ⟨_, _, k83 _ ?_, hrun, hended, _, _, rfl, ?_, ⟨_, rfl⟩, hW, hsame.mono (by decide) (by decide)⟩
        · exact retN X81 hx (t := .boolean) Bd.returns (by simp) (hb hby at_284) hr
        · show Q0 n0 _ T81.heap _
          rw [eh81]
          exact ⟨rfl, N81⟩
      · have k84 := fun (t : State) (kt : Steps p.tables e below (T66.setTop (mkF m 257 #[.val (.int p1), .val (.long p2), .second, .val (.int p3), .val (.int (p1 &&& (7 : Int32))), .val (.ref aINT16), .val (.long (-32768 : Int64)), .second, .val (.long (32767 : Int64)), .second, .val (.int (p3 &&& (3 : Int32))), .val (.long ((p2 &&& (3 : Int64)) - (1 : Int64))), .second, .val (.long xv), .second, .unset] [(.int (lcmpW xv (32767 : Int64)))])) t) => k78 t (by
          refine XS.ifNo X66.here hx rfl (hb hby at_249) rfl ((if0 _ _).trans (flt (fun q => hc249_79 ((lw_gt (-32768 : Int64) xv).mp q))).2.2.1) ?_
          show Steps p.tables e below (T66.setTop (mkF m 252 #[.val (.int p1), .val (.long p2), .second, .val (.int p3), .val (.int (p1 &&& (7 : Int32))), .val (.ref aINT16), .val (.long (-32768 : Int64)), .second, .val (.long (32767 : Int64)), .second, .val (.int (p3 &&& (3 : Int32))), .val (.long ((p2 &&& (3 : Int64)) - (1 : Int64))), .second, .val (.long xv), .second, .unset] [])) _
          refine XS.lload X66.here hx rfl (hb hby at_252) rfl ?_
          show Steps p.tables e below (T66.setTop (mkF m 254 #[.val (.int p1), .val (.long p2), .second, .val (.int p3), .val (.int (p1 &&& (7 : Int32))), .val (.ref aINT16), .val (.long (-32768 : Int64)), .second, .val (.long (32767 : Int64)), .second, .val (.int (p3 &&& (3 : Int32))), .val (.long ((p2 &&& (3 : Int64)) - (1 : Int64))), .second, .val (.long xv), .second, .unset] [(.long xv)])) _
          refine XS.lload X66.here hx rfl (hb hby at_254) rfl ?_
          show Steps p.tables e below (T66.setTop (mkF m 256 #[.val (.int p1), .val (.long p2), .second, .val (.int p3), .val (.int (p1 &&& (7 : Int32))), .val (.ref aINT16), .val (.long (-32768 : Int64)), .second, .val (.long (32767 : Int64)), .second, .val (.int (p3 &&& (3 : Int32))), .val (.long ((p2 &&& (3 : Int64)) - (1 : Int64))), .second, .val (.long xv), .second, .unset] [(.long (32767 : Int64)), (.long xv)])) _
          refine XS.lcmp X66.here hx rfl (hb hby at_256) rfl ?_
          show Steps p.tables e below (T66.setTop (mkF m 257 #[.val (.int p1), .val (.long p2), .second, .val (.int p3), .val (.int (p1 &&& (7 : Int32))), .val (.ref aINT16), .val (.long (-32768 : Int64)), .second, .val (.long (32767 : Int64)), .second, .val (.int (p3 &&& (3 : Int32))), .val (.long ((p2 &&& (3 : Int64)) - (1 : Int64))), .second, .val (.long xv), .second, .unset] [(.int (lcmpW xv (32767 : Int64)))])) _
          exact kt)
        by_cases hc257_85 : (32767 : Int64) < xv
        · have k86 := fun (t : State) (kt : Steps p.tables e below (T66.setTop (mkF m 271 #[.val (.int p1), .val (.long p2), .second, .val (.int p3), .val (.int (p1 &&& (7 : Int32))), .val (.ref aINT16), .val (.long (-32768 : Int64)), .second, .val (.long (32767 : Int64)), .second, .val (.int (p3 &&& (3 : Int32))), .val (.long ((p2 &&& (3 : Int64)) - (1 : Int64))), .second, .val (.long xv), .second, .val (.int (0 : Int32))] [(.long xv), (.ref aINT16)])) t) => k84 t (by
            refine XS.ifYes X66.here hx rfl (pc0 := 257) (pc' := 264) rfl (hb hby at_257) rfl ((if0 _ _).trans (tlt ((lw_gt xv (32767 : Int64)).mpr hc257_85)).2.2.1) (by decide) (by decide) ?_
            show Steps p.tables e below (T66.setTop (mkF m 264 #[.val (.int p1), .val (.long p2), .second, .val (.int p3), .val (.int (p1 &&& (7 : Int32))), .val (.ref aINT16), .val (.long (-32768 : Int64)), .second, .val (.long (32767 : Int64)), .second, .val (.int (p3 &&& (3 : Int32))), .val (.long ((p2 &&& (3 : Int64)) - (1 : Int64))), .second, .val (.long xv), .second, .unset] [])) _
            refine XS.iconst X66.here hx rfl (hb hby at_264) ?_
            show Steps p.tables e below (T66.setTop (mkF m 265 #[.val (.int p1), .val (.long p2), .second, .val (.int p3), .val (.int (p1 &&& (7 : Int32))), .val (.ref aINT16), .val (.long (-32768 : Int64)), .second, .val (.long (32767 : Int64)), .second, .val (.int (p3 &&& (3 : Int32))), .val (.long ((p2 &&& (3 : Int64)) - (1 : Int64))), .second, .val (.long xv), .second, .unset] [(.int (0 : Int32))])) _
            refine XS.istore X66.here hx rfl (hb hby at_265) rfl (l' := #[.val (.int p1), .val (.long p2), .second, .val (.int p3), .val (.int (p1 &&& (7 : Int32))), .val (.ref aINT16), .val (.long (-32768 : Int64)), .second, .val (.long (32767 : Int64)), .second, .val (.int (p3 &&& (3 : Int32))), .val (.long ((p2 &&& (3 : Int64)) - (1 : Int64))), .second, .val (.long xv), .second, .val (.int (0 : Int32))]) rfl ?_
            show Steps p.tables e below (T66.setTop (mkF m 267 #[.val (.int p1), .val (.long p2), .second, .val (.int p3), .val (.int (p1 &&& (7 : Int32))), .val (.ref aINT16), .val (.long (-32768 : Int64)), .second, .val (.long (32767 : Int64)), .second, .val (.int (p3 &&& (3 : Int32))), .val (.long ((p2 &&& (3 : Int64)) - (1 : Int64))), .second, .val (.long xv), .second, .val (.int (0 : Int32))] [])) _
            refine XS.aload X66.here hx rfl (hb hby at_267) rfl rfl ?_
            show Steps p.tables e below (T66.setTop (mkF m 269 #[.val (.int p1), .val (.long p2), .second, .val (.int p3), .val (.int (p1 &&& (7 : Int32))), .val (.ref aINT16), .val (.long (-32768 : Int64)), .second, .val (.long (32767 : Int64)), .second, .val (.int (p3 &&& (3 : Int32))), .val (.long ((p2 &&& (3 : Int64)) - (1 : Int64))), .second, .val (.long xv), .second, .val (.int (0 : Int32))] [(.ref aINT16)])) _
            refine XS.lload X66.here hx rfl (hb hby at_269) rfl ?_
            show Steps p.tables e below (T66.setTop (mkF m 271 #[.val (.int p1), .val (.long p2), .second, .val (.int p3), .val (.int (p1 &&& (7 : Int32))), .val (.ref aINT16), .val (.long (-32768 : Int64)), .second, .val (.long (32767 : Int64)), .second, .val (.int (p3 &&& (3 : Int32))), .val (.long ((p2 &&& (3 : Int64)) - (1 : Int64))), .second, .val (.long xv), .second, .val (.int (0 : Int32))] [(.long xv), (.ref aINT16)])) _
            exact kt)
          obtain ⟨cq87, kq87, q87a, q87b, q87c⟩ := isOf hZ e66 (E_INT16.ext O0.2)
          obtain ⟨_, _, ⟨T87, L87, k87, n87⟩, -, X87, ⟨Lc87, hQ87, l87, y87, z87⟩, st87⟩ := X66.virtualBack hx (y := (⟨"com/example/tightwire/tightwire/Kind", "holds", "(J)Z"⟩ : MethodName)) (z := (⟨"com/example/tightwire/tightwire/Kind", "holds", "(J)Z"⟩ : MethodName)) hown (mvT hZ (hw _ (List.mem_of_getElem? (i := 6) rfl))) (mvT hZ (hw _ (List.mem_of_getElem? (i := 7) rfl))) (notFace_of_selects (args := #[]) (mvT hZ (hw _ (List.mem_of_getElem? (i := 9) rfl)))) (mvT hZ (hw _ (List.mem_of_getElem? (i := 9) rfl))) (mvT hZ (hw _ (List.mem_of_getElem? (i := 8) rfl))) (by decide) (backOf (W := 0) (rm1 l Z a0 hw [] aINT16 xv (1 : Int32) (16 : Int32) h0 n0 O0 (F_INT16_signed.ext O0.2) (F_INT16_bits.ext O0.2)) hZ (hw _ (List.mem_of_getElem? (i := 10) rfl)) (hw _ (List.mem_of_getElem? (i := 1) rfl)) (by decide) (by decide)) q87a q87c (g := (mkF m 271 #[.val (.int p1), .val (.long p2), .second, .val (.int p3), .val (.int (p1 &&& (7 : Int32))), .val (.ref aINT16), .val (.long (-32768 : Int64)), .second, .val (.long (32767 : Int64)), .second, .val (.int (p3 &&& (3 : Int32))), .val (.long ((p2 &&& (3 : Int64)) - (1 : Int64))), .second, .val (.long xv), .second, .val (.int (0 : Int32))] [(.long xv), (.ref aINT16)])) rfl (by rw [hml]; rfl) (Steps.refl _) (argsL := [(.long xv)]) (rest := []) (lenOf pd_0 rfl) rfl (by show 2 * 0 + _ ≤ _; exact Nat.le_of_eq rfl) (hb hby at_271) (fun _ _ => ⟨rfl, e66, (by decide : 0 + 0 ≤ _), (by decide : 0 + 0 ≤ _)⟩)
          dsimp only [Pt.U, Pt.locs, Pt.cells, Pt.slots] at X87 l87 y87 z87 st87 hQ87
          subst l87 y87 z87
          obtain ⟨rfl, Nq87, eh87⟩ := hQ87
          have N87 := Fr.app N0 Nq87
          have k88 := fun (t : State) (kt : Steps p.tables e below (T87.setTop (mkF m 276 #[.val (.int p1), .val (.long p2), .second, .val (.int p3), .val (.int (p1 &&& (7 : Int32))), .val (.ref aINT16), .val (.long (-32768 : Int64)), .second, .val (.long (32767 : Int64)), .second, .val (.int (p3 &&& (3 : Int32))), .val (.long ((p2 &&& (3 : Int64)) - (1 : Int64))), .second, .val (.long xv), .second, .val (.int (0 : Int32))] [(.int (0 : Int32)), (.int (own_holds (1 : Int32) (16 : Int32) xv))])) t) => k86 t (by
            refine st87.trans ?_
            show Steps p.tables e below (T87.setTop (mkF m 274 #[.val (.int p1), .val (.long p2), .second, .val (.int p3), .val (.int (p1 &&& (7 : Int32))), .val (.ref aINT16), .val (.long (-32768 : Int64)), .second, .val (.long (32767 : Int64)), .second, .val (.int (p3 &&& (3 : Int32))), .val (.long ((p2 &&& (3 : Int64)) - (1 : Int64))), .second, .val (.long xv), .second, .val (.int (0 : Int32))] [(.int (own_holds (1 : Int32) (16 : Int32) xv))])) _
            refine XS.iload X87.here hx rfl (hb hby at_274) rfl ?_
            show Steps p.tables e below (T87.setTop (mkF m 276 #[.val (.int p1), .val (.long p2), .second, .val (.int p3), .val (.int (p1 &&& (7 : Int32))), .val (.ref aINT16), .val (.long (-32768 : Int64)), .second, .val (.long (32767 : Int64)), .second, .val (.int (p3 &&& (3 : Int32))), .val (.long ((p2 &&& (3 : Int64)) - (1 : Int64))), .second, .val (.long xv), .second, .val (.int (0 : Int32))] [(.int (0 : Int32)), (.int (own_holds (1 : Int32) (16 : Int32) xv))])) _
            exact kt)
          have k89 := fun (t : State) (kt : Steps p.tables e below (T87.setTop (mkF m 284 #[.val (.int p1), .val (.long p2), .second, .val (.int p3), .val (.int (p1 &&& (7 : Int32))), .val (.ref aINT16), .val (.long (-32768 : Int64)), .second, .val (.long (32767 : Int64)), .second, .val (.int (p3 &&& (3 : Int32))), .val (.long ((p2 &&& (3 : Int64)) - (1 : Int64))), .second, .val (.long xv), .second, .val (.int (0 : Int32))] [(.int (1 : Int32))])) t) => k88 t (by
            refine XS.icmpNo X87.here hx rfl (hb hby at_276) rfl (teq (own_hi_INT16 hc257_85)).2 ?_
            show Steps p.tables e below (T87.setTop (mkF m 279 #[.val (.int p1), .val (.long p2), .second, .val (.int p3), .val (.int (p1 &&& (7 : Int32))), .val (.ref aINT16), .val (.long (-32768 : Int64)), .second, .val (.long (32767 : Int64)), .second, .val (.int (p3 &&& (3 : Int32))), .val (.long ((p2 &&& (3 : Int64)) - (1 : Int64))), .second, .val (.long xv), .second, .val (.int (0 : Int32))] [])) _
            refine XS.iconst X87.here hx rfl (hb hby at_279) ?_
            show Steps p.tables e below (T87.setTop (mkF m 280 #[.val (.int p1), .val (.long p2), .second, .val (.int p3), .val (.int (p1 &&& (7 : Int32))), .val (.ref aINT16), .val (.long (-32768 : Int64)), .second, .val (.long (32767 : Int64)), .second, .val (.int (p3 &&& (3 : Int32))), .val (.long ((p2 &&& (3 : Int64)) - (1 : Int64))), .second, .val (.long xv), .second, .val (.int (0 : Int32))] [(.int (1 : Int32))])) _
            refine XS.goto X87.here hx rfl (pc0 := 280) (pc' := 284) rfl (hb hby at_280) (by decide) (by decide) ?_
            show Steps p.tables e below (T87.setTop (mkF m 284 #[.val (.int p1), .val (.long p2), .second, .val (.int p3), .val (.int (p1 &&& (7 : Int32))), .val (.ref aINT16), .val (.long (-32768 : Int64)), .second, .val (.long (32767 : Int64)), .second, .val (.int (p3 &&& (3 : Int32))), .val (.long ((p2 &&& (3 : Int64)) - (1 : Int64))), .second, .val (.long xv), .second, .val (.int (0 : Int32))] [(.int (1 : Int32))])) _
            exact kt)
          obtain ⟨fs, hr, hrun, hended, hW, hsame⟩ := X87.leave (v := some (.int (1 : Int32))) (fun h => by rw [Bd.returns] at h; cases h)
          refine ⟨_, _, k89 _ ?_, hrun, hended, _, _, rfl, ?_, ⟨_, rfl⟩, hW, hsame.mono (by decide) (by decide)⟩
          · exact retN X87 hx (t := .boolean) Bd.returns (by simp) (hb hby at_284) hr
          · show Q0 n0 _ T87.heap _
            rw [eh87]
            exact ⟨rfl, N87⟩
        · have k90 := fun (t : State) (kt : Steps p.tables e below (T66.setTop (mkF m 271 #[.val (.int p1), .val (.long p2), .second, .val (.int p3), .val (.int (p1 &&& (7 : Int32))), .val (.ref aINT16), .val (.long (-32768 : Int64)), .second, .val (.long (32767 : Int64)), .second, .val (.int (p3 &&& (3 : Int32))), .val (.long ((p2 &&& (3 : Int64)) - (1 : Int64))), .second, .val (.long xv), .second, .val (.int (1 : Int32))] [(.long xv), (.ref aINT16)])) t) => k84 t (by
            refine XS.ifNo X66.here hx rfl (hb hby at_257) rfl ((if0 _ _).trans (flt (fun q => hc257_85 ((lw_gt xv (32767 : Int64)).mp q))).2.2.1) ?_
            show Steps p.tables e below (T66.setTop (mkF m 260 #[.val (.int p1), .val (.long p2), .second, .val (.int p3), .val (.int (p1 &&& (7 : Int32))), .val (.ref aINT16), .val (.long (-32768 : Int64)), .second, .val (.long (32767 : Int64)), .second, .val (.int (p3 &&& (3 : Int32))), .val (.long ((p2 &&& (3 : Int64)) - (1 : Int64))), .second, .val (.long xv), .second, .unset] [])) _
            refine XS.iconst X66.here hx rfl (hb hby at_260) ?_
            show Steps p.tables e below (T66.setTop (mkF m 261 #[.val (.int p1), .val (.long p2), .second, .val (.int p3), .val (.int (p1 &&& (7 : Int32))), .val (.ref aINT16), .val (.long (-32768 : Int64)), .second, .val (.long (32767 : Int64)), .second, .val (.int (p3 &&& (3 : Int32))), .val (.long ((p2 &&& (3 : Int64)) - (1 : Int64))), .second, .val (.long xv), .second, .unset] [(.int (1 : Int32))])) _
            refine XS.goto X66.here hx rfl (pc0 := 261) (pc' := 265) rfl (hb hby at_261) (by decide) (by decide) ?_
            show Steps p.tables e below (T66.setTop (mkF m 265 #[.val (.int p1), .val (.long p2), .second, .val (.int p3), .val (.int (p1 &&& (7 : Int32))), .val (.ref aINT16), .val (.long (-32768 : Int64)), .second, .val (.long (32767 : Int64)), .second, .val (.int (p3 &&& (3 : Int32))), .val (.long ((p2 &&& (3 : Int64)) - (1 : Int64))), .second, .val (.long xv), .second, .unset] [(.int (1 : Int32))])) _
            refine XS.istore X66.here hx rfl (hb hby at_265) rfl (l' := #[.val (.int p1), .val (.long p2), .second, .val (.int p3), .val (.int (p1 &&& (7 : Int32))), .val (.ref aINT16), .val (.long (-32768 : Int64)), .second, .val (.long (32767 : Int64)), .second, .val (.int (p3 &&& (3 : Int32))), .val (.long ((p2 &&& (3 : Int64)) - (1 : Int64))), .second, .val (.long xv), .second, .val (.int (1 : Int32))]) rfl ?_
            show Steps p.tables e below (T66.setTop (mkF m 267 #[.val (.int p1), .val (.long p2), .second, .val (.int p3), .val (.int (p1 &&& (7 : Int32))), .val (.ref aINT16), .val (.long (-32768 : Int64)), .second, .val (.long (32767 : Int64)), .second, .val (.int (p3 &&& (3 : Int32))), .val (.long ((p2 &&& (3 : Int64)) - (1 : Int64))), .second, .val (.long xv), .second, .val (.int (1 : Int32))] [])) _
            refine XS.aload X66.here hx rfl (hb hby at_267) rfl rfl ?_
            show Steps p.tables e below (T66.setTop (mkF m 269 #[.val (.int p1), .val (.long p2), .second, .val (.int p3), .val (.int (p1 &&& (7 : Int32))), .val (.ref aINT16), .val (.long (-32768 : Int64)), .second, .val (.long (32767 : Int64)), .second, .val (.int (p3 &&& (3 : Int32))), .val (.long ((p2 &&& (3 : Int64)) - (1 : Int64))), .second, .val (.long xv), .second, .val (.int (1 : Int32))] [(.ref aINT16)])) _
            refine XS.lload X66.here hx rfl (hb hby at_269) rfl ?_
            show Steps p.tables e below (T66.setTop (mkF m 271 #[.val (.int p1), .val (.long p2), .second, .val (.int p3), .val (.int (p1 &&& (7 : Int32))), .val (.ref aINT16), .val (.long (-32768 : Int64)), .second, .val (.long (32767 : Int64)), .second, .val (.int (p3 &&& (3 : Int32))), .val (.long ((p2 &&& (3 : Int64)) - (1 : Int64))), .second, .val (.long xv), .second, .val (.int (1 : Int32))] [(.long xv), (.ref aINT16)])) _
            exact kt)
          obtain ⟨cq91, kq91, q91a, q91b, q91c⟩ := isOf hZ e66 (E_INT16.ext O0.2)
          obtain ⟨_, _, ⟨T91, L91, k91, n91⟩, -, X91, ⟨Lc91, hQ91, l91, y91, z91⟩, st91⟩ := X66.virtualBack hx (y := (⟨"com/example/tightwire/tightwire/Kind", "holds", "(J)Z"⟩ : MethodName)) (z := (⟨"com/example/tightwire/tightwire/Kind", "holds", "(J)Z"⟩ : MethodName)) hown (mvT hZ (hw _ (List.mem_of_getElem? (i := 6) rfl))) (mvT hZ (hw _ (List.mem_of_getElem? (i := 7) rfl))) (notFace_of_selects (args := #[]) (mvT hZ (hw _ (List.mem_of_getElem? (i := 9) rfl)))) (mvT hZ (hw _ (List.mem_of_getElem? (i := 9) rfl))) (mvT hZ (hw _ (List.mem_of_getElem? (i := 8) rfl))) (by decide) (backOf (W := 0) (rm1 l Z a0 hw [] aINT16 xv (1 : Int32) (16 : Int32) h0 n0 O0 (F_INT16_signed.ext O0.2) (F_INT16_bits.ext O0.2)) hZ (hw _ (List.mem_of_getElem? (i := 10) rfl)) (hw _ (List.mem_of_getElem? (i := 1) rfl)) (by decide) (by decide)) q91a q91c (g := (mkF m 271 #[.val (.int p1), .val (.long p2), .second, .val (.int p3), .val (.int (p1 &&& (7 : Int32))), .val (.ref aINT16), .val (.long (-32768 : Int64)), .second, .val (.long (32767 : Int64)), .second, .val (.int (p3 &&& (3 : Int32))), .val (.long ((p2 &&& (3 : Int64)) - (1 : Int64))), .second, .val (.long xv), .second, .val (.int (1 : Int32))] [(.long xv), (.ref aINT16)])) rfl (by rw [hml]; rfl) (Steps.refl _) (argsL := [(.long xv)]) (rest := []) (lenOf pd_0 rfl) rfl (by show 2 * 0 + _ ≤ _; exact Nat.le_of_eq rfl) (hb hby at_271) (fun _ _ => ⟨rfl, e66, (by decide : 0 + 0 ≤ _), (by decide : 0 + 0 ≤ _)⟩)
          dsimp only [Pt.U, Pt.locs, Pt.cells, Pt.slots] at X91 l91 y91 z91 st91 hQ91
          subst l91 y91 z91
          obtain ⟨rfl, Nq91, eh91⟩ := hQ91
          have N91 := Fr.app N0 Nq91
          have k92 := fun (t : State) (kt : Steps p.tables e below (T91.setTop (mkF m 276 #[.val (.int p1), .val (.long p2), .second, .val (.int p3), .val (.int (p1 &&& (7 : Int32))), .val (.ref aINT16), .val (.long (-32768 : Int64)), .second, .val (.long (32767 : Int64)), .second, .val (.int (p3 &&& (3 : Int32))), .val (.long ((p2 &&& (3 : Int64)) - (1 : Int64))), .second, .val (.long xv), .second, .val (.int (1 : Int32))] [(.int (1 : Int32)), (.int (own_holds (1 : Int32) (16 : Int32) xv))])) t) => k90 t (by
            refine st91.trans ?_
            show Steps p.tables e below (T91.setTop (mkF m 274 #[.val (.int p1), .val (.long p2), .second, .val (.int p3), .val (.int (p1 &&& (7 : Int32))), .val (.ref aINT16), .val (.long (-32768 : Int64)), .second, .val (.long (32767 : Int64)), .second, .val (.int (p3 &&& (3 : Int32))), .val (.long ((p2 &&& (3 : Int64)) - (1 : Int64))), .second, .val (.long xv), .second, .val (.int (1 : Int32))] [(.int (own_holds (1 : Int32) (16 : Int32) xv))])) _
            refine XS.iload X91.here hx rfl (hb hby at_274) rfl ?_
            show Steps p.tables e below (T91.setTop (mkF m 276 #[.val (.int p1), .val (.long p2), .second, .val (.int p3), .val (.int (p1 &&& (7 : Int32))), .val (.ref aINT16), .val (.long (-32768 : Int64)), .second, .val (.long (32767 : Int64)), .second, .val (.int (p3 &&& (3 : Int32))), .val (.long ((p2 &&& (3 : Int64)) - (1 : Int64))), .second, .val (.long xv), .second, .val (.int (1 : Int32))] [(.int (1 : Int32)), (.int (own_holds (1 : Int32) (16 : Int32) xv))])) _
            exact kt)
          have k93 := fun (t : State) (kt : Steps p.tables e below (T91.setTop (mkF m 284 #[.val (.int p1), .val (.long p2), .second, .val (.int p3), .val (.int (p1 &&& (7 : Int32))), .val (.ref aINT16), .val (.long (-32768 : Int64)), .second, .val (.long (32767 : Int64)), .second, .val (.int (p3 &&& (3 : Int32))), .val (.long ((p2 &&& (3 : Int64)) - (1 : Int64))), .second, .val (.long xv), .second, .val (.int (1 : Int32))] [(.int (1 : Int32))])) t) => k92 t (by
            refine XS.icmpNo X91.here hx rfl (hb hby at_276) rfl (teq (own_in_INT16 hc249_79 hc257_85)).2 ?_
            show Steps p.tables e below (T91.setTop (mkF m 279 #[.val (.int p1), .val (.long p2), .second, .val (.int p3), .val (.int (p1 &&& (7 : Int32))), .val (.ref aINT16), .val (.long (-32768 : Int64)), .second, .val (.long (32767 : Int64)), .second, .val (.int (p3 &&& (3 : Int32))), .val (.long ((p2 &&& (3 : Int64)) - (1 : Int64))), .second, .val (.long xv), .second, .val (.int (1 : Int32))] [])) _
            refine XS.iconst X91.here hx rfl (hb hby at_279) ?_
            show Steps p.tables e below (T91.setTop (mkF m 280 #[.val (.int p1), .val (.long p2), .second, .val (.int p3), .val (.int (p1 &&& (7 : Int32))), .val (.ref aINT16), .val (.long (-32768 : Int64)), .second, .val (.long (32767 : Int64)), .second, .val (.int (p3 &&& (3 : Int32))), .val (.long ((p2 &&& (3 : Int64)) - (1 : Int64))), .second, .val (.long xv), .second, .val (.int (1 : Int32))] [(.int (1 : Int32))])) _
            refine XS.goto X91.here hx rfl (pc0 := 280) (pc' := 284) rfl (hb hby at_280) (by decide) (by decide) ?_
            show Steps p.tables e below (T91.setTop (mkF m 284 #[.val (.int p1), .val (.long p2), .second, .val (.int p3), .val (.int (p1 &&& (7 : Int32))), .val (.ref aINT16), .val (.long (-32768 : Int64)), .second, .val (.long (32767 : Int64)), .second, .val (.int (p3 &&& (3 : Int32))), .val (.long ((p2 &&& (3 : Int64)) - (1 : Int64))), .second, .val (.long xv), .second, .val (.int (1 : Int32))] [(.int (1 : Int32))])) _
            exact kt)
          obtain ⟨fs, hr, hrun, hended, hW, hsame⟩ := X91.leave (v := some (.int (1 : Int32))) (fun h => by rw [Bd.returns] at h; cases h)
          refine ⟨_, _, k93 _ ?_, hrun, hended, _, _, rfl, ?_, ⟨_, rfl⟩, hW, hsame.mono (by decide) (by decide)⟩
          · exact retN X91 hx (t := .boolean) Bd.returns (by simp) (hb hby at_284) hr
          · show Q0 n0 _ T91.heap _
            rw [eh91]
            exact ⟨rfl, N91⟩
  · have k94 := fun (t : State) (kt : Steps p.tables e below (s₁.setTop (mkF m 8 #[.val (.int p1), .val (.long p2), .second, .val (.int p3), .val (.int (p1 &&& (7 : Int32))), .unset, .unset, .unset, .unset, .unset, .unset, .unset, .unset, .unset, .unset, .unset] [(.int (p1 &&& (7 : Int32)))])) t) => pre0 t (by
      refine XS.iloadN X0.here hx rfl (hb hby at_0) rfl ?_
      show Steps p.tables e below (s₁.setTop (mkF m 1 #[.val (.int p1), .val (.long p2), .second, .val (.int p3), .unset, .unset, .unset, .unset, .unset, .unset, .unset, .unset, .unset, .unset, .unset, .unset] [(.int p1)])) _
      refine XS.bipush X0.here hx rfl (hb hby at_1) ?_
      show Steps p.tables e below (s₁.setTop (mkF m 3 #[.val (.int p1), .val (.long p2), .second, .val (.int p3), .unset, .unset, .unset, .unset, .unset, .unset, .unset, .unset, .unset, .unset, .unset, .unset] [(.int (7 : Int32)), (.int p1)])) _
      refine XS.iand X0.here hx rfl (hb hby at_3) rfl ?_
      show Steps p.tables e below (s₁.setTop (mkF m 4 #[.val (.int p1), .val (.long p2), .second, .val (.int p3), .unset, .unset, .unset, .unset, .unset, .unset, .unset, .unset, .unset, .unset, .unset, .unset] [(.int (p1 &&& (7 : Int32)))])) _
      refine XS.istore X0.here hx rfl (hb hby at_4) rfl (l' := #[.val (.int p1), .val (.long p2), .second, .val (.int p3), .val (.int (p1 &&& (7 : Int32))), .unset, .unset, .unset, .unset, .unset, .unset, .unset, .unset, .unset, .unset, .unset]) rfl ?_
      show Steps p.tables e below (s₁.setTop (mkF m 6 #[.val (.int p1), .val (.long p2), .second, .val (.int p3), .val (.int (p1 &&& (7 : Int32))), .unset, .unset, .unset, .unset, .unset, .unset, .unset, .unset, .unset, .unset, .unset] [])) _
      refine XS.iload X0.here hx rfl (hb hby at_6) rfl ?_
      show Steps p.tables e below (s₁.setTop (mkF m 8 #[.val (.int p1), .val (.long p2), .second, .val (.int p3), .val (.int (p1 &&& (7 : Int32))), .unset, .unset, .unset, .unset, .unset, .unset, .unset, .unset, .unset, .unset, .unset] [(.int (p1 &&& (7 : Int32)))])) _
      exact kt)
    have k95 := fun (t : State) (kt : Steps p.tables e below (s₁.setTop (mkF m 32 #[.val (.int p1), .val (.long p2), .second, .val (.int p3), .val (.int (p1 &&& (7 : Int32))), .unset, .unset, .unset, .unset, .unset, .unset, .unset, .unset, .unset, .unset, .unset] [(.int (1 : Int32)), (.int (p1 &&& (7 : Int32)))])) t) => k94 t (by
      refine XS.ifYes X0.here hx rfl (pc0 := 8) (pc' := 29) rfl (hb hby at_8) rfl ((if0 _ _).trans (feq (by rw [hk]; decide)).2) (by decide) (by decide) ?_
      show Steps p.tables e below (s₁.setTop (mkF m 29 #[.val (.int p1), .val (.long p2), .second, .val (.int p3), .val (.int (p1 &&& (7 : Int32))), .unset, .unset, .unset, .unset, .unset, .unset, .unset, .unset, .unset, .unset, .unset] [])) _
      refine XS.iload X0.here hx rfl (hb hby at_29) rfl ?_
      show Steps p.tables e below (s₁.setTop (mkF m 31 #[.val (.int p1), .val (.long p2), .second, .val (.int p3), .val (.int (p1 &&& (7 : Int32))), .unset, .unset, .unset, .unset, .unset, .unset, .unset, .unset, .unset, .unset, .unset] [(.int (p1 &&& (7 : Int32)))])) _
      refine XS.iconst X0.here hx rfl (hb hby at_31) ?_
      show Steps p.tables e below (s₁.setTop (mkF m 32 #[.val (.int p1), .val (.long p2), .second, .val (.int p3), .val (.int (p1 &&& (7 : Int32))), .unset, .unset, .unset, .unset, .unset, .unset, .unset, .unset, .unset, .unset, .unset] [(.int (1 : Int32)), (.int (p1 &&& (7 : Int32)))])) _
      exact kt)
    have k96 := fun (t : State) (kt : Steps p.tables e below (s₁.setTop (mkF m 54 #[.val (.int p1), .val (.long p2), .second, .val (.int p3), .val (.int (p1 &&& (7 : Int32))), .unset, .unset, .unset, .unset, .unset, .unset, .unset, .unset, .unset, .unset, .unset] [(.int (2 : Int32)), (.int (p1 &&& (7 : Int32)))])) t) => k95 t (by
      refine XS.icmpYes X0.here hx rfl (pc0 := 32) (pc' := 51) rfl (hb hby at_32) rfl (feq (by rw [hk]; decide)).2 (by decide) (by decide) ?_
      show Steps p.tables e below (s₁.setTop (mkF m 51 #[.val (.int p1), .val (.long p2), .second, .val (.int p3), .val (.int (p1 &&& (7 : Int32))), .unset, .unset, .unset, .unset, .unset, .unset, .unset, .unset, .unset, .unset, .unset] [])) _
      refine XS.iload X0.here hx rfl (hb hby at_51) rfl ?_
      show Steps p.tables e below (s₁.setTop (mkF m 53 #[.val (.int p1), .val (.long p2), .second, .val (.int p3), .val (.int (p1 &&& (7 : Int32))), .unset, .unset, .unset, .unset, .unset, .unset, .unset, .unset, .unset, .unset, .unset] [(.int (p1 &&& (7 : Int32)))])) _
      refine XS.iconst X0.here hx rfl (hb hby at_53) ?_
      show Steps p.tables e below (s₁.setTop (mkF m 54 #[.val (.int p1), .val (.long p2), .second, .val (.int p3), .val (.int (p1 &&& (7 : Int32))), .unset, .unset, .unset, .unset, .unset, .unset, .unset, .unset, .unset, .unset, .unset] [(.int (2 : Int32)), (.int (p1 &&& (7 : Int32)))])) _
      exact kt)
    have k97 := fun (t : State) (kt : Steps p.tables e below (s₁.setTop (mkF m 78 #[.val (.int p1), .val (.long p2), .second, .val (.int p3), .val (.int (p1 &&& (7 : Int32))), .unset, .unset, .unset, .unset, .unset, .unset, .unset, .unset, .unset, .unset, .unset] [(.int (3 : Int32)), (.int (p1 &&& (7 : Int32)))])) t) => k96 t (by
      refine XS.icmpYes X0.here hx rfl (pc0 := 54) (pc' := 75) rfl (hb hby at_54) rfl (feq (by rw [hk]; decide)).2 (by decide) (by decide) ?_
      show Steps p.tables e below (s₁.setTop (mkF m 75 #[.val (.int p1), .val (.long p2), .second, .val (.int p3), .val (.int (p1 &&& (7 : Int32))), .unset, .unset, .unset, .unset, .unset, .unset, .unset, .unset, .unset, .unset, .unset] [])) _
      refine XS.iload X0.here hx rfl (hb hby at_75) rfl ?_
      show Steps p.tables e below (s₁.setTop (mkF m 77 #[.val (.int p1), .val (.long p2), .second, .val (.int p3), .val (.int (p1 &&& (7 : Int32))), .unset, .unset, .unset, .unset, .unset, .unset, .unset, .unset, .unset, .unset, .unset] [(.int (p1 &&& (7 : Int32)))])) _
      refine XS.iconst X0.here hx rfl (hb hby at_77) ?_
      show Steps p.tables e below (s₁.setTop (mkF m 78 #[.val (.int p1), .val (.long p2), .second, .val (.int p3), .val (.int (p1 &&& (7 : Int32))), .unset, .unset, .unset, .unset, .unset, .unset, .unset, .unset, .unset, .unset, .unset] [(.int (3 : Int32)), (.int (p1 &&& (7 : Int32)))])) _
      exact kt)
    have k98 := fun (t : State) (kt : Steps p.tables e below (s₁.setTop (mkF m 81 #[.val (.int p1), .val (.long p2), .second, .val (.int p3), .val (.int (p1 &&& (7 : Int32))), .unset, .unset, .unset, .unset, .unset, .unset, .unset, .unset, .unset, .unset, .unset] [])) t) => k97 t (by
      refine XS.icmpNo X0.here hx rfl (hb hby at_78) rfl (teq hk).2 ?_
      show Steps p.tables e below (s₁.setTop (mkF m 81 #[.val (.int p1), .val (.long p2), .second, .val (.int p3), .val (.int (p1 &&& (7 : Int32))), .unset, .unset, .unset, .unset, .unset, .unset, .unset, .unset, .unset, .unset, .unset] [])) _
      exact kt)
    obtain ⟨T99, X99, e99, st99⟩ := getS2 X0 hx hZ hown (host := "") (Or.inl (hw _ (List.mem_of_getElem? (i := 29) rfl))) Via.refl e0 (S_UINT16.ext O0.2) (g := (mkF m 81 #[.val (.int p1), .val (.long p2), .second, .val (.int p3), .val (.int (p1 &&& (7 : Int32))), .unset, .unset, .unset, .unset, .unset, .unset, .unset, .unset, .unset, .unset, .unset] [])) rfl (hb hby at_81)
    have k100 := fun (t : State) (kt : Steps p.tables e below (T99.setTop (mkF m 181 #[.val (.int p1), .val (.long p2), .second, .val (.int p3), .val (.int (p1 &&& (7 : Int32))), .val (.ref aUINT16), .val (.long (0 : Int64)), .second, .val (.long (65535 : Int64)), .second, .unset, .unset, .unset, .unset, .unset, .unset] [])) t) => k98 t (by
      refine st99 _ ?_
      show Steps p.tables e below (T99.setTop (mkF m 84 #[.val (.int p1), .val (.long p2), .second, .val (.int p3), .val (.int (p1 &&& (7 : Int32))), .unset, .unset, .unset, .unset, .unset, .unset, .unset, .unset, .unset, .unset, .unset] [(.ref aUINT16)])) _
      refine XS.astore X99.here hx rfl (hb hby at_84) rfl rfl (l' := #[.val (.int p1), .val (.long p2), .second, .val (.int p3), .val (.int (p1 &&& (7 : Int32))), .val (.ref aUINT16), .unset, .unset, .unset, .unset, .unset, .unset, .unset, .unset, .unset, .unset]) rfl ?_
      show Steps p.tables e below (T99.setTop (mkF m 86 #[.val (.int p1), .val (.long p2), .second, .val (.int p3), .val (.int (p1 &&& (7 : Int32))), .val (.ref aUINT16), .unset, .unset, .unset, .unset, .unset, .unset, .unset, .unset, .unset, .unset] [])) _
      refine XS.lconst X99.here hx rfl (hb hby at_86) ?_
      show Steps p.tables e below (T99.setTop (mkF m 87 #[.val (.int p1), .val (.long p2), .second, .val (.int p3), .val (.int (p1 &&& (7 : Int32))), .val (.ref aUINT16), .unset, .unset, .unset, .unset, .unset, .unset, .unset, .unset, .unset, .unset] [(.long (0 : Int64))])) _
      refine XS.lstore X99.here hx rfl (hb hby at_87) rfl (l' := #[.val (.int p1), .val (.long p2), .second, .val (.int p3), .val (.int (p1 &&& (7 : Int32))), .val (.ref aUINT16), .val (.long (0 : Int64)), .second, .unset, .unset, .unset, .unset, .unset, .unset, .unset, .unset]) rfl ?_
      show Steps p.tables e below (T99.setTop (mkF m 89 #[.val (.int p1), .val (.long p2), .second, .val (.int p3), .val (.int (p1 &&& (7 : Int32))), .val (.ref aUINT16), .val (.long (0 : Int64)), .second, .unset, .unset, .unset, .unset, .unset, .unset, .unset, .unset] [])) _
      refine X99.ldc2Long hx hown (mvT hZ (hw _ (List.mem_of_getElem? (i := 31) rfl))) (g := (mkF m 89 #[.val (.int p1), .val (.long p2), .second, .val (.int p3), .val (.int (p1 &&& (7 : Int32))), .val (.ref aUINT16), .val (.long (0 : Int64)), .second, .unset, .unset, .unset, .unset, .unset, .unset, .unset, .unset] [])) rfl (hb hby at_89) _ ?_
      show Steps p.tables e below (T99.setTop (mkF m 92 #[.val (.int p1), .val (.long p2), .second, .val (.int p3), .val (.int (p1 &&& (7 : Int32))), .val (.ref aUINT16), .val (.long (0 : Int64)), .second, .unset, .unset, .unset, .unset, .unset, .unset, .unset, .unset] [(.long (65535 : Int64))])) _
      refine XS.lstore X99.here hx rfl (hb hby at_92) rfl (l' := #[.val (.int p1), .val (.long p2), .second, .val (.int p3), .val (.int (p1 &&& (7 : Int32))), .val (.ref aUINT16), .val (.long (0 : Int64)), .second, .val (.long (65535 : Int64)), .second, .unset, .unset, .unset, .unset, .unset, .unset]) rfl ?_
      show Steps p.tables e below (T99.setTop (mkF m 94 #[.val (.int p1), .val (.long p2), .second, .val (.int p3), .val (.int (p1 &&& (7 : Int32))), .val (.ref aUINT16), .val (.long (0 : Int64)), .second, .val (.long (65535 : Int64)), .second, .unset, .unset, .unset, .unset, .unset, .unset] [])) _
      refine XS.goto X99.here hx rfl (pc0 := 94) (pc' := 181) rfl (hb hby at_94) (by decide) (by decide) ?_
      show Steps p.tables e below (T99.setTop (mkF m 181 #[.val (.int p1), .val (.long p2), .second, .val (.int p3), .val (.int (p1 &&& (7 : Int32))), .val (.ref aUINT16), .val (.long (0 : Int64)), .second, .val (.long (65535 : Int64)), .second, .unset, .unset, .unset, .unset, .unset, .unset] [])) _
      exact kt)
    refine cps (A := ∃ xv : Int64, ∀ t, Steps p.tables e below (T99.setTop (mkF m 244 #[.val (.int p1), .val (.long p2), .second, .val (.int p3), .val (.int (p1 &&& (7 : Int32))), .val (.ref aUINT16), .val (.long (0 : Int64)), .second, .val (.long (65535 : Int64)), .second, .val (.int (p3 &&& (3 : Int32))), .val (.long ((p2 &&& (3 : Int64)) - (1 : Int64))), .second, .val (.long xv), .second, .unset] [])) t → Steps p.tables e below (s₁.setTop (entryFrame m #[(.int p1), (.long p2), (.int p3)] maxLocals)) t) ?_ ?_
    · intro join
      have k101 := fun (t : State) (kt : Steps p.tables e below (T99.setTop (mkF m 197 #[.val (.int p1), .val (.long p2), .second, .val (.int p3), .val (.int (p1 &&& (7 : Int32))), .val (.ref aUINT16), .val (.long (0 : Int64)), .second, .val (.long (65535 : Int64)), .second, .val (.int (p3 &&& (3 : Int32))), .val (.long ((p2 &&& (3 : Int64)) - (1 : Int64))), .second, .unset, .unset, .unset] [(.int (p3 &&& (3 : Int32)))])) t) => k100 t (by
        refine XS.iloadN X99.here hx rfl (hb hby at_181) rfl ?_
        show Steps p.tables e below (T99.setTop (mkF m 182 #[.val (.int p1), .val (.long p2), .second, .val (.int p3), .val (.int (p1 &&& (7 : Int32))), .val (.ref aUINT16), .val (.long (0 : Int64)), .second, .val (.long (65535 : Int64)), .second, .unset, .unset, .unset, .unset, .unset, .unset] [(.int p3)])) _
        refine XS.iconst X99.here hx rfl (hb hby at_182) ?_
        show Steps p.tables e below (T99.setTop (mkF m 183 #[.val (.int p1), .val (.long p2), .second, .val (.int p3), .val (.int (p1 &&& (7 : Int32))), .val (.ref aUINT16), .val (.long (0 : Int64)), .second, .val (.long (65535 : Int64)), .second, .unset, .unset, .unset, .unset, .unset, .unset] [(.int (3 : Int32)), (.int p3)])) _
        refine XS.iand X99.here hx rfl (hb hby at_183) rfl ?_
        show Steps p.tables e below (T99.setTop (mkF m 184 #[.val (.int p1), .val (.long p2), .second, .val (.int p3), .val (.int (p1 &&& (7 : Int32))), .val (.ref aUINT16), .val (.long (0 : Int64)), .second, .val (.long (65535 : Int64)), .second, .unset, .unset, .unset, .unset, .unset, .unset] [(.int (p3 &&& (3 : Int32)))])) _
        refine XS.istore X99.here hx rfl (hb hby at_184) rfl (l' := #[.val (.int p1), .val (.long p2), .second, .val (.int p3), .val (.int (p1 &&& (7 : Int32))), .val (.ref aUINT16), .val (.long (0 : Int64)), .second, .val (.long (65535 : Int64)), .second, .val (.int (p3 &&& (3 : Int32))), .unset, .unset, .unset, .unset, .unset]) rfl ?_
        show Steps p.tables e below (T99.setTop (mkF m 186 #[.val (.int p1), .val (.long p2), .second, .val (.int p3), .val (.int (p1 &&& (7 : Int32))), .val (.ref aUINT16), .val (.long (0 : Int64)), .second, .val (.long (65535 : Int64)), .second, .val (.int (p3 &&& (3 : Int32))), .unset, .unset, .unset, .unset, .unset] [])) _
        refine XS.lloadN X99.here hx rfl (hb hby at_186) rfl ?_
        show Steps p.tables e below (T99.setTop (mkF m 187 #[.val (.int p1), .val (.long p2), .second, .val (.int p3), .val (.int (p1 &&& (7 : Int32))), .val (.ref aUINT16), .val (.long (0 : Int64)), .second, .val (.long (65535 : Int64)), .second, .val (.int (p3 &&& (3 : Int32))), .unset, .unset, .unset, .unset, .unset] [(.long p2)])) _
        refine X99.ldc2Long hx hown (mvT hZ (hw _ (List.mem_of_getElem? (i := 5) rfl))) (g := (mkF m 187 #[.val (.int p1), .val (.long p2), .second, .val (.int p3), .val (.int (p1 &&& (7 : Int32))), .val (.ref aUINT16), .val (.long (0 : Int64)), .second, .val (.long (65535 : Int64)), .second, .val (.int (p3 &&& (3 : Int32))), .unset, .unset, .unset, .unset, .unset] [(.long p2)])) rfl (hb hby at_187) _ ?_
        show Steps p.tables e below (T99.setTop (mkF m 190 #[.val (.int p1), .val (.long p2), .second, .val (.int p3), .val (.int (p1 &&& (7 : Int32))), .val (.ref aUINT16), .val (.long (0 : Int64)), .second, .val (.long (65535 : Int64)), .second, .val (.int (p3 &&& (3 : Int32))), .unset, .unset, .unset, .unset, .unset] [(.long (3 : Int64)), (.long p2)])) _
        refine XS.land X99.here hx rfl (hb hby at_190) rfl ?_
        show Steps p.tables e below (T99.setTop (mkF m 191 #[.val (.int p1), .val (.long p2), .second, .val (.int p3), .val (.int (p1 &&& (7 : Int32))), .val (.ref aUINT16), .val (.long (0 : Int64)), .second, .val (.long (65535 : Int64)), .second, .val (.int (p3 &&& (3 : Int32))), .unset, .unset, .unset, .unset, .unset] [(.long (p2 &&& (3 : Int64)))])) _
        refine XS.lconst X99.here hx rfl (hb hby at_191) ?_
        show Steps p.tables e below (T99.setTop (mkF m 192 #[.val (.int p1), .val (.long p2), .second, .val (.int p3), .val (.int (p1 &&& (7 : Int32))), .val (.ref aUINT16), .val (.long (0 : Int64)), .second, .val (.long (65535 : Int64)), .second, .val (.int (p3 &&& (3 : Int32))), .unset, .unset, .unset, .unset, .unset] [(.long (1 : Int64)), (.long (p2 &&& (3 : Int64)))])) _
        refine XS.lsub X99.here hx rfl (hb hby at_192) rfl ?_
        show Steps p.tables e below (T99.setTop (mkF m 193 #[.val (.int p1), .val (.long p2), .second, .val (.int p3), .val (.int (p1 &&& (7 : Int32))), .val (.ref aUINT16), .val (.long (0 : Int64)), .second, .val (.long (65535 : Int64)), .second, .val (.int (p3 &&& (3 : Int32))), .unset, .unset, .unset, .unset, .unset] [(.long ((p2 &&& (3 : Int64)) - (1 : Int64)))])) _
        refine XS.lstore X99.here hx rfl (hb hby at_193) rfl (l' := #[.val (.int p1), .val (.long p2), .second, .val (.int p3), .val (.int (p1 &&& (7 : Int32))), .val (.ref aUINT16), .val (.long (0 : Int64)), .second, .val (.long (65535 : Int64)), .second, .val (.int (p3 &&& (3 : Int32))), .val (.long ((p2 &&& (3 : Int64)) - (1 : Int64))), .second, .unset, .unset, .unset]) rfl ?_
        show Steps p.tables e below (T99.setTop (mkF m 195 #[.val (.int p1), .val (.long p2), .second, .val (.int p3), .val (.int (p1 &&& (7 : Int32))), .val (.ref aUINT16), .val (.long (0 : Int64)), .second, .val (.long (65535 : Int64)), .second, .val (.int (p3 &&& (3 : Int32))), .val (.long ((p2 &&& (3 : Int64)) - (1 : Int64))), .second, .unset, .unset, .unset] [])) _
        refine XS.iload X99.here hx rfl (hb hby at_195) rfl ?_
        show Steps p.tables e below (T99.setTop (mkF m 197 #[.val (.int p1), .val (.long p2), .second, .val (.int p3), .val (.int (p1 &&& (7 : Int32))), .val (.ref aUINT16), .val (.long (0 : Int64)), .second, .val (.long (65535 : Int64)), .second, .val (.int (p3 &&& (3 : Int32))), .val (.long ((p2 &&& (3 : Int64)) - (1 : Int64))), .second, .unset, .unset, .unset] [(.int (p3 &&& (3 : Int32)))])) _
        exact kt)
      by_cases hc197_102 : (p3 &&& (3 : Int32)) = (0 : Int32)
      · have k103 := fun (t : State) (kt : Steps p.tables e below (T99.setTop (mkF m 244 #[.val (.int p1), .val (.long p2), .second, .val (.int p3), .val (.int (p1 &&& (7 : Int32))), .val (.ref aUINT16), .val (.long (0 : Int64)), .second, .val (.long (65535 : Int64)), .second, .val (.int (p3 &&& (3 : Int32))), .val (.long ((p2 &&& (3 : Int64)) - (1 : Int64))), .second, .val (.long p2), .second, .unset] [])) t) => k101 t (by
          refine XS.ifNo X99.here hx rfl (hb hby at_197) rfl ((if0 _ _).trans (teq hc197_102).2) ?_
          show Steps p.tables e below (T99.setTop (mkF m 200 #[.val (.int p1), .val (.long p2), .second, .val (.int p3), .val (.int (p1 &&& (7 : Int32))), .val (.ref aUINT16), .val (.long (0 : Int64)), .second, .val (.long (65535 : Int64)), .second, .val (.int (p3 &&& (3 : Int32))), .val (.long ((p2 &&& (3 : Int64)) - (1 : Int64))), .second, .unset, .unset, .unset] [])) _
          refine XS.lloadN X99.here hx rfl (hb hby at_200) rfl ?_
          show Steps p.tables e below (T99.setTop (mkF m 201 #[.val (.int p1), .val (.long p2), .second, .val (.int p3), .val (.int (p1 &&& (7 : Int32))), .val (.ref aUINT16), .val (.long (0 : Int64)), .second, .val (.long (65535 : Int64)), .second, .val (.int (p3 &&& (3 : Int32))), .val (.long ((p2 &&& (3 : Int64)) - (1 : Int64))), .second, .unset, .unset, .unset] [(.long p2)])) _
          refine XS.lstore X99.here hx rfl (hb hby at_201) rfl (l' := #[.val (.int p1), .val (.long p2), .second, .val (.int p3), .val (.int (p1 &&& (7 : Int32))), .val (.ref aUINT16), .val (.long (0 : Int64)), .second, .val (.long (65535 : Int64)), .second, .val (.int (p3 &&& (3 : Int32))), .val (.long ((p2 &&& (3 : Int64)) - (1 : Int64))), .second, .val (.long p2), .second, .unset]) rfl ?_
          show Steps p.tables e below (T99.setTop (mkF m 203 #[.val (.int p1), .val (.long p2), .second, .val (.int p3), .val (.int (p1 &&& (7 : Int32))), .val (.ref aUINT16), .val (.long (0 : Int64)), .second, .val (.long (65535 : Int64)), .second, .val (.int (p3 &&& (3 : Int32))), .val (.long ((p2 &&& (3 : Int64)) - (1 : Int64))), .second, .val (.long p2), .second, .unset] [])) _
          refine XS.goto X99.here hx rfl (pc0 := 203) (pc' := 244) rfl (hb hby at_203) (by decide) (by decide) ?_
          show Steps p.tables e below (T99.setTop (mkF m 244 #[.val (.int p1), .val (.long p2), .second, .val (.int p3), .val (.int (p1 &&& (7 : Int32))), .val (.ref aUINT16), .val (.long (0 : Int64)), .second, .val (.long (65535 : Int64)), .second, .val (.int (p3 &&& (3 : Int32))), .val (.long ((p2 &&& (3 : Int64)) - (1 : Int64))), .second, .val (.long p2), .second, .unset] [])) _
          exact kt)
        exact join ⟨_, k103⟩
      · have k104 := fun (t : State) (kt : Steps p.tables e below (T99.setTop (mkF m 209 #[.val (.int p1), .val (.long p2), .second, .val (.int p3), .val (.int (p1 &&& (7 : Int32))), .val (.ref aUINT16), .val (.long (0 : Int64)), .second, .val (.long (65535 : Int64)), .second, .val (.int (p3 &&& (3 : Int32))), .val (.long ((p2 &&& (3 : Int64)) - (1 : Int64))), .second, .unset, .unset, .unset] [(.int (1 : Int32)), (.int (p3 &&& (3 : Int32)))])) t) => k101 t (by
          refine XS.ifYes X99.here hx rfl (pc0 := 197) (pc' := 206) rfl (hb hby at_197) rfl ((if0 _ _).trans (feq hc197_102).2) (by decide) (by decide) ?_
          show Steps p.tables e below (T99.setTop (mkF m 206 #[.val (.int p1), .val (.long p2), .second, .val (.int p3), .val (.int (p1 &&& (7 : Int32))), .val (.ref aUINT16), .val (.long (0 : Int64)), .second, .val (.long (65535 : Int64)), .second, .val (.int (p3 &&& (3 : Int32))), .val (.long ((p2 &&& (3 : Int64)) - (1 : Int64))), .second, .unset, .unset, .unset] [])) _
          refine XS.iload X99.here hx rfl (hb hby at_206) rfl ?_
          show Steps p.tables e below (T99.setTop (mkF m 208 #[.val (.int p1), .val (.long p2), .second, .val (.int p3), .val (.int (p1 &&& (7 : Int32))), .val (.ref aUINT16), .val (.long (0 : Int64)), .second, .val (.long (65535 : Int64)), .second, .val (.int (p3 &&& (3 : Int32))), .val (.long ((p2 &&& (3 : Int64)) - (1 : Int64))), .second, .unset, .unset, .unset] [(.int (p3 &&& (3 : Int32)))])) _
          refine XS.iconst X99.here hx rfl (hb hby at_208) ?_
          show Steps p.tables e below (T99.setTop (mkF m 209 #[.val (.int p1), .val (.long p2), .second, .val (.int p3), .val (.int (p1 &&& (7 : Int32))), .val (.ref aUINT16), .val (.long (0 : Int64)), .second, .val (.long (65535 : Int64)), .second, .val (.int (p3 &&& (3 : Int32))), .val (.long ((p2 &&& (3 : Int64)) - (1 : Int64))), .second, .unset, .unset, .unset] [(.int (1 : Int32)), (.int (p3 &&& (3 : Int32)))])) _
          exact kt)
        by_cases hc209_105 : (p3 &&& (3 : Int32)) = (1 : Int32)
        · have k106 := fun (t : State) (kt : Steps p.tables e below (T99.setTop (mkF m 244 #[.val (.int p1), .val (.long p2), .second, .val (.int p3), .val (.int (p1 &&& (7 : Int32))), .val (.ref aUINT16), .val (.long (0 : Int64)), .second, .val (.long (65535 : Int64)), .second, .val (.int (p3 &&& (3 : Int32))), .val (.long ((p2 &&& (3 : Int64)) - (1 : Int64))), .second, .val (.long ((65535 : Int64) + ((p2 &&& (3 : Int64)) - (1 : Int64)))), .second, .unset] [])) t) => k104 t (by
            refine XS.icmpNo X99.here hx rfl (hb hby at_209) rfl (teq hc209_105).2 ?_
            show Steps p.tables e below (T99.setTop (mkF m 212 #[.val (.int p1), .val (.long p2), .second, .val (.int p3), .val (.int (p1 &&& (7 : Int32))), .val (.ref aUINT16), .val (.long (0 : Int64)), .second, .val (.long (65535 : Int64)), .second, .val (.int (p3 &&& (3 : Int32))), .val (.long ((p2 &&& (3 : Int64)) - (1 : Int64))), .second, .unset, .unset, .unset] [])) _
            refine XS.lload X99.here hx rfl (hb hby at_212) rfl ?_
            show Steps p.tables e below (T99.setTop (mkF m 214 #[.val (.int p1), .val (.long p2), .second, .val (.int p3), .val (.int (p1 &&& (7 : Int32))), .val (.ref aUINT16), .val (.long (0 : Int64)), .second, .val (.long (65535 : Int64)), .second, .val (.int (p3 &&& (3 : Int32))), .val (.long ((p2 &&& (3 : Int64)) - (1 : Int64))), .second, .unset, .unset, .unset] [(.long (65535 : Int64))])) _
            refine XS.lload X99.here hx rfl (hb hby at_214) rfl ?_
            show Steps p.tables e below (T99.setTop (mkF m 216 #[.val (.int p1), .val (.long p2), .second, .val (.int p3), .val (.int (p1 &&& (7 : Int32))), .val (.ref aUINT16), .val (.long (0 : Int64)), .second, .val (.long (65535 : Int64)), .second, .val (.int (p3 &&& (3 : Int32))), .val (.long ((p2 &&& (3 : Int64)) - (1 : Int64))), .second, .unset, .unset, .unset] [(.long ((p2 &&& (3 : Int64)) - (1 : Int64))), (.long (65535 : Int64))])) _
            refine XS.ladd X99.here hx rfl (hb hby at_216) rfl ?_
            show Steps p.tables e below (T99.setTop (mkF m 217 #[.val (.int p1), .val (.long p2), .second, .val (.int p3), .val (.int (p1 &&& (7 : Int32))), .val (.ref aUINT16), .val (.long (0 : Int64)), .second, .val (.long (65535 : Int64)), .second, .val (.int (p3 &&& (3 : Int32))), .val (.long ((p2 &&& (3 : Int64)) - (1 : Int64))), .second, .unset, .unset, .unset] [(.long ((65535 : Int64) + ((p2 &&& (3 : Int64)) - (1 : Int64))))])) _
            refine XS.lstore X99.here hx rfl (hb hby at_217) rfl (l' := #[.val (.int p1), .val (.long p2), .second, .val (.int p3), .val (.int (p1 &&& (7 : Int32))), .val (.ref aUINT16), .val (.long (0 : Int64)), .second, .val (.long (65535 : Int64)), .second, .val (.int (p3 &&& (3 : Int32))), .val (.long ((p2 &&& (3 : Int64)) - (1 : Int64))), .second, .val (.long ((65535 : Int64) + ((p2 &&& (3 : Int64)) - (1 : Int64)))), .second, .unset]) rfl ?_
            show Steps p.tables e below (T99.setTop (mkF m 219 #[.val (.int p1), .val (.long p2), .second, .val (.int p3), .val (.int (p1 &&& (7 : Int32))), .val (.ref aUINT16), .val (.long (0 : Int64)), .second, .val (.long (65535 : Int64)), .second, .val (.int (p3 &&& (3 : Int32))), .val (.long ((p2 &&& (3 : Int64)) - (1 : Int64))), .second, .val (.long ((65535 : Int64) + ((p2 &&& (3 : Int64)) - (1 : Int64)))), .second, .unset] [])) _
            refine XS.goto X99.here hx rfl (pc0 := 219) (pc' := 244) rfl (hb hby at_219) (by decide) (by decide) ?_
            show Steps p.tables e below (T99.setTop (mkF m 244 #[.val (.int p1), .val (.long p2), .second, .val (.int p3), .val (.int (p1 &&& (7 : Int32))), .val (.ref aUINT16), .val (.long (0 : Int64)), .second, .val (.long (65535 : Int64)), .second, .val (.int (p3 &&& (3 : Int32))), .val (.long ((p2 &&& (3 : Int64)) - (1 : Int64))), .second, .val (.long ((65535 : Int64) + ((p2 &&& (3 : Int64)) - (1 : Int64)))), .second, .unset] [])) _
            exact kt)
          exact join ⟨_, k106⟩
        · have k107 := fun (t : State) (kt : Steps p.tables e below (T99.setTop (mkF m 225 #[.val (.int p1), .val (.long p2), .second, .val (.int p3), .val (.int (p1 &&& (7 : Int32))), .val (.ref aUINT16), .val (.long (0 : Int64)), .second, .val (.long (65535 : Int64)), .second, .val (.int (p3 &&& (3 : Int32))), .val (.long ((p2 &&& (3 : Int64)) - (1 : Int64))), .second, .unset, .unset, .unset] [(.int (2 : Int32)), (.int (p3 &&& (3 : Int32)))])) t) => k104 t (by
            refine XS.icmpYes X99.here hx rfl (pc0 := 209) (pc' := 222) rfl (hb hby at_209) rfl (feq hc209_105).2 (by decide) (by decide) ?_
            show Steps p.tables e below (T99.setTop (mkF m 222 #[.val (.int p1), .val (.long p2), .second, .val (.int p3), .val (.int (p1 &&& (7 : Int32))), .val (.ref aUINT16), .val (.long (0 : Int64)), .second, .val (.long (65535 : Int64)), .second, .val (.int (p3 &&& (3 : Int32))), .val (.long ((p2 &&& (3 : Int64)) - (1 : Int64))), .second, .unset, .unset, .unset] [])) _
            refine XS.iload X99.here hx rfl (hb hby at_222) rfl ?_
            show Steps p.tables e below (T99.setTop (mkF m 224 #[.val (.int p1), .val (.long p2), .second, .val (.int p3), .val (.int (p1 &&& (7 : Int32))), .val (.ref aUINT16), .val (.long (0 : Int64)), .second, .val (.long (65535 : Int64)), .second, .val (.int (p3 &&& (3 : Int32))), .val (.long ((p2 &&& (3 : Int64)) - (1 : Int64))), .second, .unset, .unset, .unset] [(.int (p3 &&& (3 : Int32)))])) _
            refine XS.iconst X99.here hx rfl (hb hby at_224) ?_
            show Steps p.tables e below (T99.setTop (mkF m 225 #[.val (.int p1), .val (.long p2), .second, .val (.int p3), .val (.int (p1 &&& (7 : Int32))), .val (.ref aUINT16), .val (.long (0 : Int64)), .second, .val (.long (65535 : Int64)), .second, .val (.int (p3 &&& (3 : Int32))), .val (.long ((p2 &&& (3 : Int64)) - (1 : Int64))), .second, .unset, .unset, .unset] [(.int (2 : Int32)), (.int (p3 &&& (3 : Int32)))])) _
            exact kt)
          by_cases hc225_108 : (p3 &&& (3 : Int32)) = (2 : Int32)
          · have k109 := fun (t : State) (kt : Steps p.tables e below (T99.setTop (mkF m 244 #[.val (.int p1), .val (.long p2), .second, .val (.int p3), .val (.int (p1 &&& (7 : Int32))), .val (.ref aUINT16), .val (.long (0 : Int64)), .second, .val (.long (65535 : Int64)), .second, .val (.int (p3 &&& (3 : Int32))), .val (.long ((p2 &&& (3 : Int64)) - (1 : Int64))), .second, .val (.long ((0 : Int64) - ((p2 &&& (3 : Int64)) - (1 : Int64)))), .second, .unset] [])) t) => k107 t (by
              refine XS.icmpNo X99.here hx rfl (hb hby at_225) rfl (teq hc225_108).2 ?_
              show Steps p.tables e below (T99.setTop (mkF m 228 #[.val (.int p1), .val (.long p2), .second, .val (.int p3), .val (.int (p1 &&& (7 : Int32))), .val (.ref aUINT16), .val (.long (0 : Int64)), .second, .val (.long (65535 : Int64)), .second, .val (.int (p3 &&& (3 : Int32))), .val (.long ((p2 &&& (3 : Int64)) - (1 : Int64))), .second, .unset, .unset, .unset] [])) _
              refine XS.lload X99.here hx rfl (hb hby at_228) rfl ?_
              show Steps p.tables e below (T99.setTop (mkF m 230 #[.val (.int p1), .val (.long p2), .second, .val (.int p3), .val (.int (p1 &&& (7 : Int32))), .val (.ref aUINT16), .val (.long (0 : Int64)), .second, .val (.long (65535 : Int64)), .second, .val (.int (p3 &&& (3 : Int32))), .val (.long ((p2 &&& (3 : Int64)) - (1 : Int64))), .second, .unset, .unset, .unset] [(.long (0 : Int64))])) _
              refine XS.lload X99.here hx rfl (hb hby at_230) rfl ?_
              show Steps p.tables e below (T99.setTop (mkF m 232 #[.val (.int p1), .val (.long p2), .second, .val (.int p3), .val (.int (p1 &&& (7 : Int32))), .val (.ref aUINT16), .val (.long (0 : Int64)), .second, .val (.long (65535 : Int64)), .second, .val (.int (p3 &&& (3 : Int32))), .val (.long ((p2 &&& (3 : Int64)) - (1 : Int64))), .second, .unset, .unset, .unset] [(.long ((p2 &&& (3 : Int64)) - (1 : Int64))), (.long (0 : Int64))])) _
              refine XS.lsub X99.here hx rfl (hb hby at_232) rfl ?_
              show Steps p.tables e below (T99.setTop (mkF m 233 #[.val (.int p1), .val (.long p2), .second, .val (.int p3), .val (.int (p1 &&& (7 : Int32))), .val (.ref aUINT16), .val (.long (0 : Int64)), .second, .val (.long (65535 : Int64)), .second, .val (.int (p3 &&& (3 : Int32))), .val (.long ((p2 &&& (3 : Int64)) - (1 : Int64))), .second, .unset, .unset, .unset] [(.long ((0 : Int64) - ((p2 &&& (3 : Int64)) - (1 : Int64))))])) _
              refine XS.lstore X99.here hx rfl (hb hby at_233) rfl (l' := #[.val (.int p1), .val (.long p2), .second, .val (.int p3), .val (.int (p1 &&& (7 : Int32))), .val (.ref aUINT16), .val (.long (0 : Int64)), .second, .val (.long (65535 : Int64)), .second, .val (.int (p3 &&& (3 : Int32))), .val (.long ((p2 &&& (3 : Int64)) - (1 : Int64))), .second, .val (.long ((0 : Int64) - ((p2 &&& (3 : Int64)) - (1 : Int64)))), .second, .unset]) rfl ?_
              show Steps p.tables e below (T99.setTop (mkF m 235 #[.val (.int p1), .val (.long p2), .second, .val (.int p3), .val (.int (p1 &&& (7 : Int32))), .val (.ref aUINT16), .val (.long (0 : Int64)), .second, .val (.long (65535 : Int64)), .second, .val (.int (p3 &&& (3 : Int32))), .val (.long ((p2 &&& (3 : Int64)) - (1 : Int64))), .second, .val (.long ((0 : Int64) - ((p2 &&& (3 : Int64)) - (1 : Int64)))), .second, .unset] [])) _
              refine XS.goto X99.here hx rfl (pc0 := 235) (pc' := 244) rfl (hb hby at_235) (by decide) (by decide) ?_
              show Steps p.tables e below (T99.setTop (mkF m 244 #[.val (.int p1), .val (.long p2), .second, .val (.int p3), .val (.int (p1 &&& (7 : Int32))), .val (.ref aUINT16), .val (.long (0 : Int64)), .second, .val (.long (65535 : Int64)), .second, .val (.int (p3 &&& (3 : Int32))), .val (.long ((p2 &&& (3 : Int64)) - (1 : Int64))), .second, .val (.long ((0 : Int64) - ((p2 &&& (3 : Int64)) - (1 : Int64)))), .second, .unset] [])) _
              exact kt)
            exact join ⟨_, k109⟩
          · have k110 := fun (t : State) (kt : Steps p.tables e below (T99.setTop (mkF m 244 #[.val (.int p1), .val (.long p2), .second, .val (.int p3), .val (.int (p1 &&& (7 : Int32))), .val (.ref aUINT16), .val (.long (0 : Int64)), .second, .val (.long (65535 : Int64)), .second, .val (.int (p3 &&& (3 : Int32))), .val (.long ((p2 &&& (3 : Int64)) - (1 : Int64))), .second, .val (.long (p2 >>> ((48 : Int32) &&& 0x3f).toInt64)), .second, .unset] [])) t) => k107 t (by
              refine XS.icmpYes X99.here hx rfl (pc0 := 225) (pc' := 238) rfl (hb hby at_225) rfl (feq hc225_108).2 (by decide) (by decide) ?_
              show Steps p.tables e below (T99.setTop (mkF m 238 #[.val (.int p1), .val (.long p2), .second, .val (.int p3), .val (.int (p1 &&& (7 : Int32))), .val (.ref aUINT16), .val (.long (0 : Int64)), .second, .val (.long (65535 : Int64)), .second, .val (.int (p3 &&& (3 : Int32))), .val (.long ((p2 &&& (3 : Int64)) - (1 : Int64))), .second, .unset, .unset, .unset] [])) _
              refine XS.lloadN X99.here hx rfl (hb hby at_238) rfl ?_
              show Steps p.tables e below (T99.setTop (mkF m 239 #[.val (.int p1), .val (.long p2), .second, .val (.int p3), .val (.int (p1 &&& (7 : Int32))), .val (.ref aUINT16), .val (.long (0 : Int64)), .second, .val (.long (65535 : Int64)), .second, .val (.int (p3 &&& (3 : Int32))), .val (.long ((p2 &&& (3 : Int64)) - (1 : Int64))), .second, .unset, .unset, .unset] [(.long p2)])) _
              refine XS.bipush X99.here hx rfl (hb hby at_239) ?_
              show Steps p.tables e below (T99.setTop (mkF m 241 #[.val (.int p1), .val (.long p2), .second, .val (.int p3), .val (.int (p1 &&& (7 : Int32))), .val (.ref aUINT16), .val (.long (0 : Int64)), .second, .val (.long (65535 : Int64)), .second, .val (.int (p3 &&& (3 : Int32))), .val (.long ((p2 &&& (3 : Int64)) - (1 : Int64))), .second, .unset, .unset, .unset] [(.int (48 : Int32)), (.long p2)])) _
              refine XS.lshr X99.here hx rfl (hb hby at_241) rfl ?_
              show Steps p.tables e below (T99.setTop (mkF m 242 #[.val (.int p1), .val (.long p2), .second, .val (.int p3), .val (.int (p1 &&& (7 : Int32))), .val (.ref aUINT16), .val (.long (0 : Int64)), .second, .val (.long (65535 : Int64)), .second, .val (.int (p3 &&& (3 : Int32))), .val (.long ((p2 &&& (3 : Int64)) - (1 : Int64))), .second, .unset, .unset, .unset] [(.long (p2 >>> ((48 : Int32) &&& 0x3f).toInt64))])) _
              refine XS.lstore X99.here hx rfl (hb hby at_242) rfl (l' := #[.val (.int p1), .val (.long p2), .second, .val (.int p3), .val (.int (p1 &&& (7 : Int32))), .val (.ref aUINT16), .val (.long (0 : Int64)), .second, .val (.long (65535 : Int64)), .second, .val (.int (p3 &&& (3 : Int32))), .val (.long ((p2 &&& (3 : Int64)) - (1 : Int64))), .second, .val (.long (p2 >>> ((48 : Int32) &&& 0x3f).toInt64)), .second, .unset]) rfl ?_
              show Steps p.tables e below (T99.setTop (mkF m 244 #[.val (.int p1), .val (.long p2), .second, .val (.int p3), .val (.int (p1 &&& (7 : Int32))), .val (.ref aUINT16), .val (.long (0 : Int64)), .second, .val (.long (65535 : Int64)), .second, .val (.int (p3 &&& (3 : Int32))), .val (.long ((p2 &&& (3 : Int64)) - (1 : Int64))), .second, .val (.long (p2 >>> ((48 : Int32) &&& 0x3f).toInt64)), .second, .unset] [])) _
              exact kt)
            exact join ⟨_, k110⟩
    · rintro ⟨xv, kJ⟩
      have k111 := fun (t : State) (kt : Steps p.tables e below (T99.setTop (mkF m 249 #[.val (.int p1), .val (.long p2), .second, .val (.int p3), .val (.int (p1 &&& (7 : Int32))), .val (.ref aUINT16), .val (.long (0 : Int64)), .second, .val (.long (65535 : Int64)), .second, .val (.int (p3 &&& (3 : Int32))), .val (.long ((p2 &&& (3 : Int64)) - (1 : Int64))), .second, .val (.long xv), .second, .unset] [(.int (lcmpW (0 : Int64) xv))])) t) => kJ t (by
        refine XS.lload X99.here hx rfl (hb hby at_244) rfl ?_
        show Steps p.tables e below (T99.setTop (mkF m 246 #[.val (.int p1), .val (.long p2), .second, .val (.int p3), .val (.int (p1 &&& (7 : Int32))), .val (.ref aUINT16), .val (.long (0 : Int64)), .second, .val (.long (65535 : Int64)), .second, .val (.int (p3 &&& (3 : Int32))), .val (.long ((p2 &&& (3 : Int64)) - (1 : Int64))), .second, .val (.long xv), .second, .unset] [(.long (0 : Int64))])) _
        refine XS.lload X99.here hx rfl (hb hby at_246) rfl ?_
        show Steps p.tables e below (T99.setTop (mkF m 248 #[.val (.int p1), .val (.long p2), .second, .val (.int p3), .val (.int (p1 &&& (7 : Int32))), .val (.ref aUINT16), .val (.long (0 : Int64)), .second, .val (.long (65535 : Int64)), .second, .val (.int (p3 &&& (3 : Int32))), .val (.long ((p2 &&& (3 : Int64)) - (1 : Int64))), .second, .val (.long xv), .second, .unset] [(.long xv), (.long (0 : Int64))])) _
        refine XS.lcmp X99.here hx rfl (hb hby at_248) rfl ?_
        show Steps p.tables e below (T99.setTop (mkF m 249 #[.val (.int p1), .val (.long p2), .second, .val (.int p3), .val (.int (p1 &&& (7 : Int32))), .val (.ref aUINT16), .val (.long (0 : Int64)), .second, .val (.long (65535 : Int64)), .second, .val (.int (p3 &&& (3 : Int32))), .val (.long ((p2 &&& (3 : Int64)) - (1 : Int64))), .second, .val (.long xv), .second, .unset] [(.int (lcmpW (0 : Int64) xv))])) _
        exact kt)
      by_cases hc249_112 : xv < (0 : Int64)
      · have k113 := fun (t : State) (kt : Steps p.tables e below (T99.setTop (mkF m 271 #[.val (.int p1), .val (.long p2), .second, .val (.int p3), .val (.int (p1 &&& (7 : Int32))), .val (.ref aUINT16), .val (.long (0 : Int64)), .second, .val (.long (65535 : Int64)), .second, .val (.int (p3 &&& (3 : Int32))), .val (.long ((p2 &&& (3 : Int64)) - (1 : Int64))), .second, .val (.long xv), .second, .val (.int (0 : Int32))] [(.long xv), (.ref aUINT16)])) t) => k111 t (by
          refine XS.ifYes X99.here hx rfl (pc0 := 249) (pc' := 264) rfl (hb hby at_249) rfl ((if0 _ _).trans (tlt ((lw_gt (0 : Int64) xv).mpr hc249_112)).2.2.1) (by decide) (by decide) ?_
          show Steps p.tables e below (T99.setTop (mkF m 264 #[.val (.int p1), .val (.long p2), .second, .val (.int p3), .val (.int (p1 &&& (7 : Int32))), .val (.ref aUINT16), .val (.long (0 : Int64)), .second, .val (.long (65535 : Int64)), .second, .val (.int (p3 &&& (3 : Int32))), .val (.long ((p2 &&& (3 : Int64)) - (1 : Int64))), .second, .val (.long xv), .second, .unset] [])) _
          refine XS.iconst X99.here hx rfl (hb hby at_264) ?_
          show Steps p.tables e below (T99.setTop (mkF m 265 #[.val (.int p1), .val (.long p2), .second, .val (.int p3), .val (.int (p1 &&& (7 : Int32))), .val (.ref aUINT16), .val (.long (0 : Int64)), .second, .val (.long (65535 : Int64)), .second, .val (.int (p3 &&& (3 : Int32))), .val (.long ((p2 &&& (3 : Int64)) - (1 : Int64))), .second, .val (.long xv), .second, .unset] [(.int (0 : Int32))])) _
          refine XS.istore X99.here hx rfl (hb hby at_265) rfl (l' := #[.val (.int p1), .val (.long p2), .second, .val (.int p3), .val (.int (p1 &&& (7 : Int32))), .val (.ref aUINT16), .val (.long (0 : Int64)), .second, .val (.long (65535 : Int64)), .second, .val (.int (p3 &&& (3 : Int32))), .val (.long ((p2 &&& (3 : Int64)) - (1 : Int64))), .second, .val (.long xv), .second, .val (.int (0 : Int32))]) rfl ?_
          show Steps p.tables e below (T99.setTop (mkF m 267 #[.val (.int p1), .val (.long p2), .second, .val (.int p3), .val (.int (p1 &&& (7 : Int32))), .val (.ref aUINT16), .val (.long (0 : Int64)), .second, .val (.long (65535 : Int64)), .second, .val (.int (p3 &&& (3 : Int32))), .val (.long ((p2 &&& (3 : Int64)) - (1 : Int64))), .second, .val (.long xv), .second, .val (.int (0 : Int32))] [])) _
          refine XS.aload X99.here hx rfl (hb hby at_267) rfl rfl ?_
          show Steps p.tables e below (T99.setTop (mkF m 269 #[.val (.int p1), .val (.long p2), .second, .val (.int p3), .val (.int (p1 &&& (7 : Int32))), .val (.ref aUINT16), .val (.long (0 : Int64)), .second, .val (.long (65535 : Int64)), .second, .val (.int (p3 &&& (3 : Int32))), .val (.long ((p2 &&& (3 : Int64)) - (1 : Int64))), .second, .val (.long xv), .second, .val (.int (0 : Int32))] [(.ref aUINT16)])) _
          refine XS.lload X99.here hx rfl (hb hby at_269) rfl ?_
          show Steps p.tables e below (T99.setTop (mkF m 271 #[.val (.int p1), .val (.long p2), .second, .val (.int p3), .val (.int (p1 &&& (7 : Int32))), .val (.ref aUINT16), .val (.long (0 : Int64)), .second, .val (.long (65535 : Int64)), .second, .val (.int (p3 &&& (3 : Int32))), .val (.long ((p2 &&& (3 : Int64)) - (1 : Int64))), .second, .val (.long xv), .second, .val (.int (0 : Int32))] [(.long xv), (.ref aUINT16)])) _
          exact kt)
        obtain ⟨cq114, kq114, q114a, q114b, q114c⟩ := isOf hZ e99 (E_UINT16.ext O0.2)
        obtain ⟨_, _, ⟨T114, L114, k114, n114⟩, -, X114, ⟨Lc114, hQ114, l114, y114, z114⟩, st114⟩ := X99.virtualBack hx (y := (⟨"com/example/tightwire/tightwire/Kind", "holds", "(J)Z"⟩ : MethodName)) (z := (⟨"com/example/tightwire/tightwire/Kind", "holds", "(J)Z"⟩ : MethodName)) hown (mvT hZ (hw _ (List.mem_of_getElem? (i := 6) rfl))) (mvT hZ (hw _ (List.mem_of_getElem? (i := 7) rfl))) (notFace_of_selects (args := #[]) (mvT hZ (hw _ (List.mem_of_getElem? (i := 9) rfl)))) (mvT hZ (hw _ (List.mem_of_getElem? (i := 9) rfl))) (mvT hZ (hw _ (List.mem_of_getElem? (i := 8) rfl))) (by decide) (backOf (W := 0) (rm1 l Z a0 hw [] aUINT16 xv (0 : Int32) (16 : Int32) h0 n0 O0 (F_UINT16_signed.ext O0.2) (F_UINT16_bits.ext O0.2)) hZ (hw _ (List.mem_of_getElem? (i := 10) rfl)) (hw _ (List.mem_of_getElem? (i := 1) rfl)) (by decide) (by decide)) q114a q114c (g := (mkF m 271 #[.val (.int p1), .val (.long p2), .second, .val (.int p3), .val (.int (p1 &&& (7 : Int32))), .val (.ref aUINT16), .val (.long (0 : Int64)), .second, .val (.long (65535 : Int64)), .second, .val (.int (p3 &&& (3 : Int32))), .val (.long ((p2 &&& (3 : Int64)) - (1 : Int64))), .second, .val (.long xv), .second, .val (.int (0 : Int32))] [(.long xv), (.ref aUINT16)])) rfl (by rw [hml]; rfl) (Steps.refl _) (argsL := [(.long xv)]) (rest := []) (lenOf pd_0 rfl) rfl (by show 2 * 0 + _ ≤ _; exact Nat.le_of_eq rfl) (hb hby at_271) (fun _ _ => ⟨rfl, e99, (by decide : 0 + 0 ≤ _), (by decide : 0 + 0 ≤ _)⟩)
        dsimp only [Pt.U, Pt.locs, Pt.cells, Pt.slots] at X114 l114 y114 z114 st114 hQ114
        subst l114 y114 z114
        obtain ⟨rfl, Nq114, eh114⟩ := hQ114
        have N114 := Fr.app N0 Nq114
        have k115 := fun (t : State) (kt : Steps p.tables e below (T114.setTop (mkF m 276 #[.val (.int p1), .val (.long p2), .second, .val (.int p3), .val (.int (p1 &&& (7 : Int32))), .val (.ref aUINT16), .val (.long (0 : Int64)), .second, .val (.long (65535 : Int64)), .second, .val (.int (p3 &&& (3 : Int32))), .val (.long ((p2 &&& (3 : Int64)) - (1 : Int64))), .second, .val (.long xv), .second, .val (.int (0 : Int32))] [(.int (0 : Int32)), (.int (own_holds (0 : Int32) (16 : Int32) xv))])) t) => k113 t (by
          refine st114.trans ?_
          show Steps p.tables e below (T114.setTop (mkF m 274 #[.val (.int p1), .val (.long p2), .second, .val (.int p3), .val (.int (p1 &&& (7 : Int32))), .val (.ref aUINT16), .val (.long (0 : Int64)), .second, .val (.long (65535 : Int64)), .second, .val (.int (p3 &&& (3 : Int32))), .val (.long ((p2 &&& (3 : Int64)) - (1 : Int64))), .second, .val (.long xv), .second, .val (.int (0 : Int32))] [(.int (own_holds (0 : Int32) (16 : Int32) xv))])) _
          refine XS.iload X114.here hx rfl (hb hby at_274) rfl ?_
          show Steps p.tables e below (T114.setTop (mkF m 276 #[.val (.int p1), .val (.long p2), .second, .val (.int p3), .val (.int (p1 &&& (7 : Int32))), .val (.ref aUINT16), .val (.long (0 : Int64)), .second, .val (.long (65535 : Int64)), .second, .val (.int (p3 &&& (3 : Int32))), .val (.long ((p2 &&& (3 : Int64)) - (1 : Int64))), .second, .val (.long xv), .second, .val (.int (0 : Int32))] [(.int (0 : Int32)), (.int (own_holds (0 : Int32) (16 : Int32) xv))])) _
          exact kt)
        have k116 := fun (t : State) (kt : Steps p.tables e below (T114.setTop (mkF m 284 #[.val (.int p1), .val (.long p2), .second, .val (.int p3), .val (.int (p1 &&& (7 : Int32))), .val (.ref aUINT16), .val (.long (0 : Int64)), .second, .val (.long (65535 : Int64)), .second, .val (.int (p3 &&& (3 : Int32))), .val (.long ((p2 &&& (3 : Int64)) - (1 : Int64))), .second, .val (.long xv), .second, .val (.int (0 : Int32))] [(.int (1 : Int32))])) t) => k115 t (by
          refine XS.icmpNo X114.here hx rfl (hb hby at_276) rfl (teq (own_lo_UINT16 hc249_112)).2 ?_
          show Steps p.tables e below (T114.setTop (mkF m 279 #[.val (.int p1), .val (.long p2), .second, .val (.int p3), .val (.int (p1 &&& (7 : Int32))), .val (.ref aUINT16), .val (.long (0 : Int64)), .second, .val (.long (65535 : Int64)), .second, .val (.int (p3 &&& (3 : Int32))), .val (.long ((p2 &&& (3 : Int64)) - (1 : Int64))), .second, .val (.long xv), .second, .val (.int (0 : Int32))] [])) _
          refine XS.iconst X114.here hx rfl (hb hby at_279) ?_
          show Steps p.tables e below (T114.setTop (mkF m 280 #[.val (.int p1), .val (.long p2), .second, .val (.int p3), .val (.int (p1 &&& (7 : Int32))), .val (.ref aUINT16), .val (.long (0 : Int64)), .second, .val (.long (65535 : Int64)), .second, .val (.int (p3 &&& (3 : Int32))), .val (.long ((p2 &&& (3 : Int64)) - (1 : Int64))), .second, .val (.long xv), .second, .val (.int (0 : Int32))] [(.int (1 : Int32))])) _
          refine XS.goto X114.here hx rfl (pc0 := 280) (pc' := 284) rfl (hb hby at_280) (by decide) (by decide) ?_
          show Steps p.tables e below (T114.setTop (mkF m 284 #[.val (.int p1), .val (.long p2), .second, .val (.int p3), .val (.int (p1 &&& (7 : Int32))), .val (.ref aUINT16), .val (.long (0 : Int64)), .second, .val (.long (65535 : Int64)), .second, .val (.int (p3 &&& (3 : Int32))), .val (.long ((p2 &&& (3 : Int64)) - (1 : Int64))), .second, .val (.long xv), .second, .val (.int (0 : Int32))] [(.int (1 : Int32))])) _
          exact kt)
        obtain ⟨fs, hr, hrun, hended, hW, hsame⟩ := X114.leave (v := some (.int (1 : Int32))) (fun h => by rw [Bd.returns] at h; cases h)
        refine ⟨_, _, k116 _ ?_, hrun, hended, _, _, rfl, ?_, ⟨_, rfl⟩, hW, hsame.mono (by decide) (by decide)⟩
        · exact retN X114 hx (t := .boolean) Bd.returns (by simp) (hb hby at_284) hr
        · show Q0 n0 _ T114.heap _
          rw [eh114]
          exact ⟨rfl, N114⟩
      · have k117 := fun (t : State) (kt : Steps p.tables e below (T99.setTop (mkF m 257 #[.val (.int p1), .val (.long p2), .second, .val (.int p3), .val (.int (p1 &&& (7 : Int32))), .val (.ref aUINT16), .val (.long (0 : Int64)), .second, .val (.long (65535 : Int64)), .second, .val (.int (p3 &&& (3 : Int32))), .val (.long ((p2 &&& (3 : Int64)) - (1 : Int64))), .second, .val (.long xv), .second, .unset] [(.int (lcmpW xv (65535 : Int64)))])) t) => k111 t (by
          refine XS.ifNo X99.here hx rfl (hb hby at_249) rfl ((if0 _ _).trans (flt (fun q => hc249_112 ((lw_gt (0 : Int64) xv).mp q))).2.2.1) ?_
          show Steps p.tables e below (T99.setTop (mkF m 252 #[.val (.int p1), .val (.long p2), .second, .val (.int p3), .val (.int (p1 &&& (7 : Int32))), .val (.ref aUINT16), .val (.long (0 : Int64)), .second, .val (.long (65535 : Int64)), .second, .val (.int (p3 &&& (3 : Int32))), .val (.long ((p2 &&& (3 : Int64)) - (1 : Int64))), .second, .val (.long xv), .second, .unset] [])) _
          refine XS.lload X99.here hx rfl (hb hby at_252) rfl ?_
          show Steps p.tables e below (T99.setTop (mkF m 254 #[.val (.int p1), .val (.long p2), .second, .val (.int p3), .val (.int (p1 &&& (7 : Int32))), .val (.ref aUINT16), .val (.long (0 : Int64)), .second, .val (.long (65535 : Int64)), .second, .val (.int (p3 &&& (3 : Int32))), .val (.long ((p2 &&& (3 : Int64)) - (1 : Int64))), .second, .val (.long xv), .second, .unset] [(.long xv)])) _
          refine XS.lload X99.here hx rfl (hb hby at_254) rfl ?_
          show Steps p.tables e below (T99.setTop (mkF m 256 #[.val (.int p1), .val (.long p2), .second, .val (.int p3), .val (.int (p1 &&& (7 : Int32))), .val (.ref aUINT16), .val (.long (0 : Int64)), .second, .val (.long (65535 : Int64)), .second, .val (.int (p3 &&& (3 : Int32))), .val (.long ((p2 &&& (3 : Int64)) - (1 : Int64))), .second, .val (.long xv), .second, .unset] [(.long (65535 : Int64)), (.long xv)])) _
          refine XS.lcmp X99.here hx rfl (hb hby at_256) rfl ?_
          show Steps p.tables e below (T99.setTop (mkF m 257 #[.val (.int p1), .val (.long p2), .second, .val (.int p3), .val (.int (p1 &&& (7 : Int32))), .val (.ref aUINT16), .val (.long (0 : Int64)), .second, .val (.long (65535 : Int64)), .second, .val (.int (p3 &&& (3 : Int32))), .val (.long ((p2 &&& (3 : Int64)) - (1 : Int64))), .second, .val (.long xv), .second, .unset] [(.int (lcmpW xv (65535 : Int64)))])) _
          exact kt)
        by_cases hc257_118 : (65535 : Int64) < xv
        · have k119 := fun (t : State) (kt : Steps p.tables e below (T99.setTop (mkF m 271 #[.val (.int p1), .val (.long p2), .second, .val (.int p3), .val (.int (p1 &&& (7 : Int32))), .val (.ref aUINT16), .val (.long (0 : Int64)), .second, .val (.long (65535 : Int64)), .second, .val (.int (p3 &&& (3 : Int32))), .val (.long ((p2 &&& (3 : Int64)) - (1 : Int64))), .second, .val (.long xv), .second, .val (.int (0 : Int32))] [(.long xv), (.ref aUINT16)])) t) => k117 t (by
            refine XS.ifYes X99.here hx rfl (pc0 := 257) (pc' := 264) rfl (hb hby at_257) rfl ((if0 _ _).trans (tlt ((lw_gt xv (65535 : Int64)).mpr hc257_118)).2.2.1) (by decide) (by decide) ?_
            show Steps p.tables e below (T99.setTop (mkF m 264 #[.val (.int p1), .val (.long p2), .second, .val (.int p3), .val (.int (p1 &&& (7 : Int32))), .val (.ref aUINT16), .val (.long (0 : Int64)), .second, .val (.long (65535 : Int64)), .second, .val (.int (p3 &&& (3 : Int32))), .val (.long ((p2 &&& (3 : Int64)) - (1 : Int64))), .second, .val (.long xv), .second, .unset] [])) _
            refine XS.iconst X99.here hx rfl (hb hby at_264) ?_
            show Steps p.tables e below (T99.setTop (mkF m 265 #[.val (.int p1), .val (.long p2), .second, .val (.int p3), .val (.int (p1 &&& (7 : Int32))), .val (.ref aUINT16), .val (.long (0 : Int64)), .second, .val (.long (65535 : Int64)), .second, .val (.int (p3 &&& (3 : Int32))), .val (.long ((p2 &&& (3 : Int64)) - (1 : Int64))), .second, .val (.long xv), .second, .unset] [(.int (0 : Int32))])) _
            refine XS.istore X99.here hx rfl (hb hby at_265) rfl (l' := #[.val (.int p1), .val (.long p2), .second, .val (.int p3), .val (.int (p1 &&& (7 : Int32))), .val (.ref aUINT16), .val (.long (0 : Int64)), .second, .val (.long (65535 : Int64)), .second, .val (.int (p3 &&& (3 : Int32))), .val (.long ((p2 &&& (3 : Int64)) - (1 : Int64))), .second, .val (.long xv), .second, .val (.int (0 : Int32))]) rfl ?_
            show Steps p.tables e below (T99.setTop (mkF m 267 #[.val (.int p1), .val (.long p2), .second, .val (.int p3), .val (.int (p1 &&& (7 : Int32))), .val (.ref aUINT16), .val (.long (0 : Int64)), .second, .val (.long (65535 : Int64)), .second, .val (.int (p3 &&& (3 : Int32))), .val (.long ((p2 &&& (3 : Int64)) - (1 : Int64))), .second, .val (.long xv), .second, .val (.int (0 : Int32))] [])) _
            refine XS.aload X99.here hx rfl (hb hby at_267) rfl rfl ?_
            show Steps p.tables e below (T99.setTop (mkF m 269 #[.val (.int p1), .val (.long p2), .second, .val (.int p3), .val (.int (p1 &&& (7 : Int32))), .val (.ref aUINT16), .val (.long (0 : Int64)), .second, .val (.long (65535 : Int64)), .second, .val (.int (p3 &&& (3 : Int32))), .val (.long ((p2 &&& (3 : Int64)) - (1 : Int64))), .second, .val (.long xv), .second, .val (.int (0 : Int32))] [(.ref aUINT16)])) _
            refine XS.lload X99.here hx rfl (hb hby at_269) rfl ?_
            show Steps p.tables e below (T99.setTop (mkF m 271 #[.val (.int p1), .val (.long p2), .second, .val (.int p3), .val (.int (p1 &&& (7 : Int32))), .val (.ref aUINT16), .val (.long (0 : Int64)), .second, .val (.long (65535 : Int64)), .second, .val (.int (p3 &&& (3 : Int32))), .val (.long ((p2 &&& (3 : Int64)) - (1 : Int64))), .second, .val (.long xv), .second, .val (.int (0 : Int32))] [(.long xv), (.ref aUINT16)])) _
            exact kt)
          obtain ⟨cq120, kq120, q120a, q120b, q120c⟩ := isOf hZ e99 (E_UINT16.ext O0.2)
          obtain ⟨_, _, ⟨T120, L120, k120, n120⟩, -, X120, ⟨Lc120, hQ120, l120, y120, z120⟩, st120⟩ := X99.virtualBack hx (y := (⟨"com/example/tightwire/tightwire/Kind", "holds", "(J)Z"⟩ : MethodName)) (z := (⟨"com/example/tightwire/tightwire/Kind", "holds", "(J)Z"⟩ : MethodName)) hown (mvT hZ (hw _ (List.mem_of_getElem? (i := 6) rfl))) (mvT hZ (hw _ (List.mem_of_getElem? (i := 7) rfl))) (notFace_of_selects (args := #[]) (mvT hZ (hw _ (List.mem_of_getElem? (i := 9) rfl)))) (mvT hZ (hw _ (List.mem_of_getElem? (i := 9) rfl))) (mvT hZ (hw _ (List.mem_of_getElem? (i := 8) rfl))) (by decide) (backOf (W := 0) (rm1 l Z a0 hw [] aUINT16 xv (0 : Int32) (16 : Int32) h0 n0 O0 (F_UINT16_signed.ext O0.2) (F_UINT16_bits.ext O0.2)) hZ (hw _ (List.mem_of_getElem? (i := 10) rfl)) (hw _ (List.mem_of_getElem? (i := 1) rfl)) (by decide) (by decide)) q120a q120c (g := (mkF m 271 #[.val (.int p1), .val (.long p2), .second, .val (.int p3), .val (.int (p1 &&& (7 : Int32))), .val (.ref aUINT16), .val (.long (0 : Int64)), .second, .val (.long (65535 : Int64)), .second, .val (.int (p3 &&& (3 : Int32))), .val (.long ((p2 &&& (3 : Int64)) - (1 : Int64))), .second, .val (.long xv), .second, .val (.int (0 : Int32))] [(.long xv), (.ref aUINT16)])) rfl (by rw [hml]; rfl) (Steps.refl _) (argsL := [(.long xv)]) (rest := []) (lenOf pd_0 rfl) rfl (by show 2 * 0 + _ ≤ _; exact Nat.le_of_eq rfl) (hb hby at_271) (fun _ _ => ⟨rfl, e99, (by decide : 0 + 0 ≤ _), (by decide : 0 + 0 ≤ _)⟩)
          dsimp only [Pt.U, Pt.locs, Pt.cells, Pt.slots] at X120 l120 y120 z120 st120 hQ120
          subst l120 y120 z120
          obtain ⟨rfl, Nq120, eh120⟩ := hQ120
          have N120 := Fr.app N0 Nq120
          have k121 := fun (t : State) (kt : Steps p.tables e below (T120.setTop (mkF m 276 #[.val (.int p1), .val (.long p2), .second, .val (.int p3), .val (.int (p1 &&& (7 : Int32))), .val (.ref aUINT16), .val (.long (0 : Int64)), .second, .val (.long (65535 : Int64)), .second, .val (.int (p3 &&& (3 : Int32))), .val (.long ((p2 &&& (3 : Int64)) - (1 : Int64))), .second, .val (.long xv), .second, .val (.int (0 : Int32))] [(.int (0 : Int32)), (.int (own_holds (0 : Int32) (16 : Int32) xv))])) t) => k119 t (by
            refine st120.trans ?_
            show Steps p.tables e below (T120.setTop (mkF m 274 #[.val (.int p1), .val (.long p2), .second, .val (.int p3), .val (.int (p1 &&& (7 : Int32))), .val (.ref aUINT16), .val (.long (0 : Int64)), .second, .val (.long (65535 : Int64)), .second, .val (.int (p3 &&& (3 : Int32))), .val (.long ((p2 &&& (3 : Int64)) - (1 : Int64))), .second, .val (.long xv), .second, .val (.int (0 : Int32))] [(.int (own_holds (0 : Int32) (16 : Int32) xv))])) _
            refine XS.iload X120.here hx rfl (hb hby at_274) rfl ?_
            show Steps p.tables e below (T120.setTop (mkF m 276 #[.val (.int p1), .val (.long p2), .second, .val (.int p3), .val (.int (p1 &&& (7 : Int32))), .val (.ref aUINT16), .val (.long (0 : Int64)), .second, .val (.long (65535 : Int64)), .second, .val (.int (p3 &&& (3 : Int32))), .val (.long ((p2 &&& (3 : Int64)) - (1 : Int64))), .second, .val (.long xv), .second, .val (.int (0 : Int32))] [(.int (0 : Int32)), (.int (own_holds (0 : Int32) (16 : Int32) xv))])) _
            exact kt)
          have k122 := fun (t : State) (kt : Steps p.tables e below (T120.setTop (mkF m 284 #[.val (.int p1), .val (.long p2), .second, .val (.int p3), .val (.int (p1 &&& (7 : Int32))), .val (.ref aUINT16), .val (.long (0 : Int64)), .second, .val (.long (65535 : Int64)), .second, .val (.int (p3 &&& (3 : Int32))), .val (.long ((p2 &&& (3 : Int64)) - (1 : Int64))), .second, .val (.long xv), .second, .val (.int (0 : Int32))] [(.int (1 : Int32))])) t) => k121 t (by
            refine XS.icmpNo X120.here hx rfl (hb hby at_276) rfl (teq (own_hi_UINT16 hc257_118)).2 ?_
            show Steps p.tables e below (T120.setTop (mkF m 279 #[.val (.int p1), .val (.long p2), .second, .val (.int p3), .val (.int (p1 &&& (7 : Int32))), .val (.ref aUINT16), .val (.long (0 : Int64)), .second, .val (.long (65535 : Int64)), .second, .val (.int (p3 &&& (3 : Int32))), .val (.long ((p2 &&& (3 : Int64)) - (1 : Int64))), .second, .val (.long xv), .second, .val (.int (0 : Int32))] [])) _
            refine XS.iconst X120.here hx rfl (hb hby at_279) ?_
            show Steps p.tables e below (T120.setTop (mkF m 280 #[.val (.int p1), .val (.long p2), .second, .val (.int p3), .val (.int (p1 &&& (7 : Int32))), .val (.ref aUINT16), .val (.long (0 : Int64)), .second, .val (.long (65535 : Int64)), .second, .val (.int (p3 &&& (3 : Int32))), .val (.long ((p2 &&& (3 : Int64)) - (1 : Int64))), .second, .val (.long xv), .second, .val (.int (0 : Int32))] [(.int (1 : Int32))])) _
            refine XS.goto X120.here hx rfl (pc0 := 280) (pc' := 284) rfl (hb hby at_280) (by decide) (by decide) ?_
            show Steps p.tables e below (T120.setTop (mkF m 284 #[.val (.int p1), .val (.long p2), .second, .val (.int p3), .val (.int (p1 &&& (7 : Int32))), .val (.ref aUINT16), .val (.long (0 : Int64)), .second, .val (.long (65535 : Int64)), .second, .val (.int (p3 &&& (3 : Int32))), .val (.long ((p2 &&& (3 : Int64)) - (1 : Int64))), .second, .val (.long xv), .second, .val (.int (0 : Int32))] [(.int (1 : Int32))])) _
            exact kt)
          obtain ⟨fs, hr, hrun, hended, hW, hsame⟩ := X120.leave (v := some (.int (1 : Int32))) (fun h => by rw [Bd.returns] at h; cases h)
          refine ⟨_, _, k122 _ ?_, hrun, hended, _, _, rfl, ?_, ⟨_, rfl⟩, hW, hsame.mono (by decide) (by decide)⟩
          · exact retN X120 hx (t := .boolean) Bd.returns (by simp) (hb hby at_284) hr
          · show Q0 n0 _ T120.heap _
            rw [eh120]
            exact ⟨rfl, N120⟩
        · have k123 := fun (t : State) (kt : Steps p.tables e below (T99.setTop (mkF m 271 #[.val (.int p1), .val (.long p2), .second, .val (.int p3), .val (.int (p1 &&& (7 : Int32))), .val (.ref aUINT16), .val (.long (0 : Int64)), .second, .val (.long (65535 : Int64)), .second, .val (.int (p3 &&& (3 : Int32))), .val (.long ((p2 &&& (3 : Int64)) - (1 : Int64))), .second, .val (.long xv), .second, .val (.int (1 : Int32))] [(.long xv), (.ref aUINT16)])) t) => k117 t (by
            refine XS.ifNo X99.here hx rfl (hb hby at_257) rfl ((if0 _ _).trans (flt (fun q => hc257_118 ((lw_gt xv (65535 : Int64)).mp q))).2.2.1) ?_
            show Steps p.tables e below (T99.setTop (mkF m 260 #[.val (.int p1), .val (.long p2), .second, .val (.int p3), .val (.int (p1 &&& (7 : Int32))), .val (.ref aUINT16), .val (.long (0 : Int64)), .second, .val (.long (65535 : Int64)), .second, .val (.int (p3 &&& (3 : Int32))), .val (.long ((p2 &&& (3 : Int64)) - (1 : Int64))), .second, .val (.long xv), .second, .unset] [])) _
            refine XS.iconst X99.here hx rfl (hb hby at_260) ?_
            show Steps p.tables e below (T99.setTop (mkF m 261 #[.val (.int p1), .val (.long p2), .second, .val (.int p3), .val (.int (p1 &&& (7 : Int32))), .val (.ref aUINT16), .val (.long (0 : Int64)), .second, .val (.long (65535 : Int64)), .second, .val (.int (p3 &&& (3 : Int32))), .val (.long ((p2 &&& (3 : Int64)) - (1 : Int64))), .second, .val (.long xv), .second, .unset] [(.int (1 : Int32))])) _
            refine XS.goto X99.here hx rfl (pc0 := 261) (pc' := 265) rfl (hb hby at_261) (by decide) (by decide) ?_
            show Steps p.tables e below (T99.setTop (mkF m 265 #[.val (.int p1), .val (.long p2), .second, .val (.int p3), .val (.int (p1 &&& (7 : Int32))), .val (.ref aUINT16), .val (.long (0 : Int64)), .second, .val (.long (65535 : Int64)), .second, .val (.int (p3 &&& (3 : Int32))), .val (.long ((p2 &&& (3 : Int64)) - (1 : Int64))), .second, .val (.long xv), .second, .unset] [(.int (1 : Int32))])) _
            refine XS.istore X99.here hx rfl (hb hby at_265) rfl (l' := #[.val (.int p1), .val (.long p2), .second, .val (.int p3), .val (.int (p1 &&& (7 : Int32))), .val (.ref aUINT16), .val (.long (0 : Int64)), .second, .val (.long (65535 : Int64)), .second, .val (.int (p3 &&& (3 : Int32))), .val (.long ((p2 &&& (3 : Int64)) - (1 : Int64))), .second, .val (.long xv), .second, .val (.int (1 : Int32))]) rfl ?_
            show Steps p.tables e below (T99.setTop (mkF m 267 #[.val (.int p1), .val (.long p2), .second, .val (.int p3), .val (.int (p1 &&& (7 : Int32))), .val (.ref aUINT16), .val (.long (0 : Int64)), .second, .val (.long (65535 : Int64)), .second, .val (.int (p3 &&& (3 : Int32))), .val (.long ((p2 &&& (3 : Int64)) - (1 : Int64))), .second, .val (.long xv), .second, .val (.int (1 : Int32))] [])) _
            refine XS.aload X99.here hx rfl (hb hby at_267) rfl rfl ?_
            show Steps p.tables e below (T99.setTop (mkF m 269 #[.val (.int p1), .val (.long p2), .second, .val (.int p3), .val (.int (p1 &&& (7 : Int32))), .val (.ref aUINT16), .val (.long (0 : Int64)), .second, .val (.long (65535 : Int64)), .second, .val (.int (p3 &&& (3 : Int32))), .val (.long ((p2 &&& (3 : Int64)) - (1 : Int64))), .second, .val (.long xv), .second, .val (.int (1 : Int32))] [(.ref aUINT16)])) _
            refine XS.lload X99.here hx rfl (hb hby at_269) rfl ?_
            show Steps p.tables e below (T99.setTop (mkF m 271 #[.val (.int p1), .val (.long p2), .second, .val (.int p3), .val (.int (p1 &&& (7 : Int32))), .val (.ref aUINT16), .val (.long (0 : Int64)), .second, .val (.long (65535 : Int64)), .second, .val (.int (p3 &&& (3 : Int32))), .val (.long ((p2 &&& (3 : Int64)) - (1 : Int64))), .second, .val (.long xv), .second, .val (.int (1 : Int32))] [(.long xv), (.ref aUINT16)])) _
            exact kt)
          obtain ⟨cq124, kq124, q124a, q124b, q124c⟩ := isOf hZ e99 (E_UINT16.ext O0.2)
          obtain ⟨_, _, ⟨T124, L124, k124, n124⟩, -, X124, ⟨Lc124, hQ124, l124, y124, z124⟩, st124⟩ := X99.virtualBack hx (y := (⟨"com/example/tightwire/tightwire/Kind", "holds", "(J)Z"⟩ : MethodName)) (z := (⟨"com/example/tightwire/tightwire/Kind", "holds", "(J)Z"⟩ : MethodName)) hown (mvT hZ (hw _ (List.mem_of_getElem? (i := 6) rfl))) (mvT hZ (hw _ (List.mem_of_getElem? (i := 7) rfl))) (notFace_of_selects (args := #[]) (mvT hZ (hw _ (List.mem_of_getElem? (i := 9) rfl)))) (mvT hZ (hw _ (List.mem_of_getElem? (i := 9) rfl))) (mvT hZ (hw _ (List.mem_of_getElem? (i := 8) rfl))) (by decide) (backOf (W := 0) (rm1 l Z a0 hw [] aUINT16 xv (0 : Int32) (16 : Int32) h0 n0 O0 (F_UINT16_signed.ext O0.2) (F_UINT16_bits.ext O0.2)) hZ (hw _ (List.mem_of_getElem? (i := 10) rfl)) (hw _ (List.mem_of_getElem? (i := 1) rfl)) (by decide) (by decide)) q124a q124c (g := (mkF m 271 #[.val (.int p1), .val (.long p2), .second, .val (.int p3), .val (.int (p1 &&& (7 : Int32))), .val (.ref aUINT16), .val (.long (0 : Int64)), .second, .val (.long (65535 : Int64)), .second, .val (.int (p3 &&& (3 : Int32))), .val (.long ((p2 &&& (3 : Int64)) - (1 : Int64))), .second, .val (.long xv), .second, .val (.int (1 : Int32))] [(.long xv), (.ref aUINT16)])) rfl (by rw [hml]; rfl) (Steps.refl _) (argsL := [(.long xv)]) (rest := []) (lenOf pd_0 rfl) rfl (by show 2 * 0 + _ ≤ _; exact Nat.le_of_eq rfl) (hb hby at_271) (fun _ _ => ⟨rfl, e99, (by decide : 0 + 0 ≤ _), (by decide : 0 + 0 ≤ _)⟩)
          dsimp only [Pt.U, Pt.locs, Pt.cells, Pt.slots] at X124 l124 y124 z124 st124 hQ124
          subst l124 y124 z124
          obtain ⟨rfl, Nq124, eh124⟩ := hQ124
          have N124 := Fr.app N0 Nq124
          have k125 := fun (t : State) (kt : Steps p.tables e below (T124.setTop (mkF m 276 #[.val (.int p1), .val (.long p2), .second, .val (.int p3), .val (.int (p1 &&& (7 : Int32))), .val (.ref aUINT16), .val (.long (0 : Int64)), .second, .val (.long (65535 : Int64)), .second, .val (.int (p3 &&& (3 : Int32))), .val (.long ((p2 &&& (3 : Int64)) - (1 : Int64))), .second, .val (.long xv), .second, .val (.int (1 : Int32))] [(.int (1 : Int32)), (.int (own_holds (0 : Int32) (16 : Int32) xv))])) t) => k123 t (by
            refine st124.trans ?_
            show Steps p.tables e below (T124.setTop (mkF m 274 #[.val (.int p1), .val (.long p2), .second, .val (.int p3), .val (.int (p1 &&& (7 : Int32))), .val (.ref aUINT16), .val (.long (0 : Int64)), .second, .val (.long (65535 : Int64)), .second, .val (.int (p3 &&& (3 : Int32))), .val (.long ((p2 &&& (3 : Int64)) - (1 : Int64))), .second, .val (.long xv), .second, .val (.int (1 : Int32))] [(.int (own_holds (0 : Int32) (16 : Int32) xv))])) _
            refine XS.iload X124.here hx rfl (hb hby at_274) rfl ?_
            show Steps p.tables e below (T124.setTop (mkF m 276 #[.val (.int p1), .val (.long p2), .second, .val (.int p3), .val (.int (p1 &&& (7 : Int32))), .val (.ref aUINT16), .val (.long (0 : Int64)), .second, .val (.long (65535 : Int64)), .second, .val (.int (p3 &&& (3 : Int32))), .val (.long ((p2 &&& (3 : Int64)) - (1 : Int64))), .second, .val (.long xv), .second, .val (.int (1 : Int32))] [(.int (1 : Int32)), (.int (own_holds (0 : Int32) (16 : Int32) xv))])) _
            exact kt)
          have k126 := fun (t : State) (kt : Steps p.tables e below (T124.setTop (mkF m 284 #[.val (.int p1), .val (.long p2), .second, .val (.int p3), .val (.int (p1 &&& (7 : Int32))), .val (.ref aUINT16), .val (.long (0 : Int64)), .second, .val (.long (65535 : Int64)), .second, .val (.int (p3 &&& (3 : Int32))), .val (.long ((p2 &&& (3 : Int64)) - (1 : Int64))), .second, .val (.long xv), .second, .val (.int (1 : Int32))] [(.int (1 : Int32))])) t) => k125 t (by
            refine XS.icmpNo X124.here hx rfl (hb hby at_276) rfl (teq (own_in_UINT16 hc249_112 hc257_118)).2 ?_
            show Steps p.tables e below (T124.setTop (mkF m 279 #[.val (.int p1), .val (.long p2), .second, .val (.int p3), .val (.int (p1 &&& (7 : Int32))), .val (.ref aUINT16), .val (.long (0 : Int64)), .second, .val (.long (65535 : Int64)), .second, .val (.int (p3 &&& (3 : Int32))), .val (.long ((p2 &&& (3 : Int64)) - (1 : Int64))), .second, .val (.long xv), .second, .val (.int (1 : Int32))] [])) _
            refine XS.iconst X124.here hx rfl (hb hby at_279) ?_
            show Steps p.tables e below (T124.setTop (mkF m 280 #[.val (.int p1), .val (.long p2), .second, .val (.int p3), .val (.int (p1 &&& (7 : Int32))), .val (.ref aUINT16), .val (.long (0 : Int64)), .second, .val (.long (65535 : Int64)), .second, .val (.int (p3 &&& (3 : Int32))), .val (.long ((p2 &&& (3 : Int64)) - (1 : Int64))), .second, .val (.long xv), .second, .val (.int (1 : Int32))] [(.int (1 : Int32))])) _
            refine XS.goto X124.here hx rfl (pc0 := 280) (pc' := 284) rfl (hb hby at_280) (by decide) (by decide) ?_
            show Steps p.tables e below (T124.setTop (mkF m 284 #[.val (.int p1), .val (.long p2), .second, .val (.int p3), .val (.int (p1 &&& (7 : Int32))), .val (.ref aUINT16), .val (.long (0 : Int64)), .second, .val (.long (65535 : Int64)), .second, .val (.int (p3 &&& (3 : Int32))), .val (.long ((p2 &&& (3 : Int64)) - (1 : Int64))), .second, .val (.long xv), .second, .val (.int (1 : Int32))] [(.int (1 : Int32))])) _
            exact kt)
          obtain ⟨fs, hr, hrun, hended, hW, hsame⟩ := X124.leave (v := some (.int (1 : Int32))) (fun h => by rw [Bd.returns] at h; cases h)
          refine ⟨_, _, k126 _ ?_, hrun, hended, _, _, rfl, ?_, ⟨_, rfl⟩, hW, hsame.mono (by decide) (by decide)⟩
          · exact retN X124 hx (t := .boolean) Bd.returns (by simp) (hb hby at_284) hr
          · show Q0 n0 _ T124.heap _
            rw [eh124]
            exact ⟨rfl, N124⟩
  · have k127 := fun (t : State) (kt : Steps p.tables e below (s₁.setTop (mkF m 8 #[.val (.int p1), .val (.long p2), .second, .val (.int p3), .val (.int (p1 &&& (7 : Int32))), .unset, .unset, .unset, .unset, .unset, .unset, .unset, .unset, .unset, .unset, .unset] [(.int (p1 &&& (7 : Int32)))])) t) => pre0 t (by
      refine XS.iloadN X0.here hx rfl (hb hby at_0) rfl ?_
      show Steps p.tables e below (s₁.setTop (mkF m 1 #[.val (.int p1), .val (.long p2), .second, .val (.int p3), .unset, .unset, .unset, .unset, .unset, .unset, .unset, .unset, .unset, .unset, .unset, .unset] [(.int p1)])) _
      refine XS.bipush X0.here hx rfl (hb hby at_1) ?_
      show Steps p.tables e below (s₁.setTop (mkF m 3 #[.val (.int p1), .val (.long p2), .second, .val (.int p3), .unset, .unset, .unset, .unset, .unset, .unset, .unset, .unset, .unset, .unset, .unset, .unset] [(.int (7 : Int32)), (.int p1)])) _
      refine XS.iand X0.here hx rfl (hb hby at_3) rfl ?_
      show Steps p.tables e below (s₁.setTop (mkF m 4 #[.val (.int p1), .val (.long p2), .second, .val (.int p3), .unset, .unset, .unset, .unset, .unset, .unset, .unset, .unset, .unset, .unset, .unset, .unset] [(.int (p1 &&& (7 : Int32)))])) _
      refine XS.istore X0.here hx rfl (hb hby at_4) rfl (l' := #[.val (.int p1), .val (.long p2), .second, .val (.int p3), .val (.int (p1 &&& (7 : Int32))), .unset, .unset, .unset, .unset, .unset, .unset, .unset, .unset, .unset, .unset, .unset]) rfl ?_
      show Steps p.tables e below (s₁.setTop (mkF m 6 #[.val (.int p1), .val (.long p2), .second, .val (.int p3), .val (.int (p1 &&& (7 : Int32))), .unset, .unset, .unset, .unset, .unset, .unset, .unset, .unset, .unset, .unset, .unset] [])) _
      refine XS.iload X0.here hx rfl (hb hby at_6) rfl ?_
      show Steps p.tables e below (s₁.setTop (mkF m 8 #[.val (.int p1), .val (.long p2), .second, .val (.int p3), .val (.int (p1 &&& (7 : Int32))), .unset, .unset, .unset, .unset, .unset, .unset, .unset, .unset, .unset, .unset, .unset] [(.int (p1 &&& (7 : Int32)))])) _
      exact kt)
    have k128 := fun (t : State) (kt : Steps p.tables e below (s₁.setTop (mkF m 32 #[.val (.int p1), .val (.long p2), .second, .val (.int p3), .val (.int (p1 &&& (7 : Int32))), .unset, .unset, .unset, .unset, .unset, .unset, .unset, .unset, .unset, .unset, .unset] [(.int (1 : Int32)), (.int (p1 &&& (7 : Int32)))])) t) => k127 t (by
      refine XS.ifYes X0.here hx rfl (pc0 := 8) (pc' := 29) rfl (hb hby at_8) rfl ((if0 _ _).trans (feq (by rw [hk]; decide)).2) (by decide) (by decide) ?_
      show Steps p.tables e below (s₁.setTop (mkF m 29 #[.val (.int p1), .val (.long p2), .second, .val (.int p3), .val (.int (p1 &&& (7 : Int32))), .unset, .unset, .unset, .unset, .unset, .unset, .unset, .unset, .unset, .unset, .unset] [])) _
      refine XS.iload X0.here hx rfl (hb hby at_29) rfl ?_
      show Steps p.tables e below (s₁.setTop (mkF m 31 #[.val (.int p1), .val (.long p2), .second, .val (.int p3), .val (.int (p1 &&& (7 : Int32))), .unset, .unset, .unset, .unset, .unset, .unset, .unset, .unset, .unset, .unset, .unset] [(.int (p1 &&& (7 : Int32)))])) _
      refine XS.iconst X0.here hx rfl (hb hby at_31) ?_
      show Steps p.tables e below (s₁.setTop (mkF m 32 #[.val (.int p1), .val (.long p2), .second, .val (.int p3), .val (.int (p1 &&& (7 : Int32))), .unset, .unset, .unset, .unset, .unset, .unset, .unset, .unset, .unset, .unset, .unset] [(.int (1 : Int32)), (.int (p1 &&& (7 : Int32)))])) _
      exact kt)
    have k129 := fun (t : State) (kt : Steps p.tables e below (s₁.setTop (mkF m 54 #[.val (.int p1), .val (.long p2), .second, .val (.int p3), .val (.int (p1 &&& (7 : Int32))), .unset, .unset, .unset, .unset, .unset, .unset, .unset, .unset, .unset, .unset, .unset] [(.int (2 : Int32)), (.int (p1 &&& (7 : Int32)))])) t) => k128 t (by
      refine XS.icmpYes X0.here hx rfl (pc0 := 32) (pc' := 51) rfl (hb hby at_32) rfl (feq (by rw [hk]; decide)).2 (by decide) (by decide) ?_
      show Steps p.tables e below (s₁.setTop (mkF m 51 #[.val (.int p1), .val (.long p2), .second, .val (.int p3), .val (.int (p1 &&& (7 : Int32))), .unset, .unset, .unset, .unset, .unset, .unset, .unset, .unset, .unset, .unset, .unset] [])) _
      refine XS.iload X0.here hx rfl (hb hby at_51) rfl ?_
      show Steps p.tables e below (s₁.setTop (mkF m 53 #[.val (.int p1), .val (.long p2), .second, .val (.int p3), .val (.int (p1 &&& (7 : Int32))), .unset, .unset, .unset, .unset, .unset, .unset, .unset, .unset, .unset, .unset, .unset] [(.int (p1 &&& (7 : Int32)))])) _
      refine XS.iconst X0.here hx rfl (hb hby at_53) ?_
      show Steps p.tables e below (s₁.setTop (mkF m 54 #[.val (.int p1), .val (.long p2), .second, .val (.int p3), .val (.int (p1 &&& (7 : Int32))), .unset, .unset, .unset, .unset, .unset, .unset, .unset, .unset, .unset, .unset, .unset] [(.int (2 : Int32)), (.int (p1 &&& (7 : Int32)))])) _
      exact kt)
    have k130 := fun (t : State) (kt : Steps p.tables e below (s₁.setTop (mkF m 78 #[.val (.int p1), .val (.long p2), .second, .val (.int p3), .val (.int (p1 &&& (7 : Int32))), .unset, .unset, .unset, .unset, .unset, .unset, .unset, .unset, .unset, .unset, .unset] [(.int (3 : Int32)), (.int (p1 &&& (7 : Int32)))])) t) => k129 t (by
      refine XS.icmpYes X0.here hx rfl (pc0 := 54) (pc' := 75) rfl (hb hby at_54) rfl (feq (by rw [hk]; decide)).2 (by decide) (by decide) ?_
      show Steps p.tables e below (s₁.setTop (mkF m 75 #[.val (.int p1), .val (.long p2), .second, .val (.int p3), .val (.int (p1 &&& (7 : Int32))), .unset, .unset, .unset, .unset, .unset, .unset, .unset, .unset, .unset, .unset, .unset] [])) _
      refine XS.iload X0.here hx rfl (hb hby at_75) rfl ?_
      show Steps p.tables e below (s₁.setTop (mkF m 77 #[.val (.int p1), .val (.long p2), .second, .val (.int p3), .val (.int (p1 &&& (7 : Int32))), .unset, .unset, .unset, .unset, .unset, .unset, .unset, .unset, .unset, .unset, .unset] [(.int (p1 &&& (7 : Int32)))])) _
      refine XS.iconst X0.here hx rfl (hb hby at_77) ?_
      show Steps p.tables e below (s₁.setTop (mkF m 78 #[.val (.int p1), .val (.long p2), .second, .val (.int p3), .val (.int (p1 &&& (7 : Int32))), .unset, .unset, .unset, .unset, .unset, .unset, .unset, .unset, .unset, .unset, .unset] [(.int (3 : Int32)), (.int (p1 &&& (7 : Int32)))])) _
      exact kt)
    have k131 := fun (t : State) (kt : Steps p.tables e below (s₁.setTop (mkF m 100 #[.val (.int p1), .val (.long p2), .second, .val (.int p3), .val (.int (p1 &&& (7 : Int32))), .unset, .unset, .unset, .unset, .unset, .unset, .unset, .unset, .unset, .unset, .unset] [(.int (4 : Int32)), (.int (p1 &&& (7 : Int32)))])) t) => k130 t (by
      refine XS.icmpYes X0.here hx rfl (pc0 := 78) (pc' := 97) rfl (hb hby at_78) rfl (feq (by rw [hk]; decide)).2 (by decide) (by decide) ?_
      show Steps p.tables e below (s₁.setTop (mkF m 97 #[.val (.int p1), .val (.long p2), .second, .val (.int p3), .val (.int (p1 &&& (7 : Int32))), .unset, .unset, .unset, .unset, .unset, .unset, .unset, .unset, .unset, .unset, .unset] [])) _
      refine XS.iload X0.here hx rfl (hb hby at_97) rfl ?_
      show Steps p.tables e below (s₁.setTop (mkF m 99 #[.val (.int p1), .val (.long p2), .second, .val (.int p3), .val (.int (p1 &&& (7 : Int32))), .unset, .unset, .unset, .unset, .unset, .unset, .unset, .unset, .unset, .unset, .unset] [(.int (p1 &&& (7 : Int32)))])) _
      refine XS.iconst X0.here hx rfl (hb hby at_99) ?_
      show Steps p.tables e below (s₁.setTop (mkF m 100 #[.val (.int p1), .val (.long p2), .second, .val (.int p3), .val (.int (p1 &&& (7 : Int32))), .unset, .unset, .unset, .unset, .unset, .unset, .unset, .unset, .unset, .unset, .unset] [(.int (4 : Int32)), (.int (p1 &&& (7 : Int32)))])) _
      exact kt)
    have k132 := fun (t : State) (kt : Steps p.tables e below (s₁.setTop (mkF m 103 #[.val (.int p1), .val (.long p2), .second, .val (.int p3), .val (.int (p1 &&& (7 : Int32))), .unset, .unset, .unset, .unset, .unset, .unset, .unset, .unset, .unset, .unset, .unset] [])) t) => k131 t (by
      refine XS.icmpNo X0.here hx rfl (hb hby at_100) rfl (teq hk).2 ?_
      show Steps p.tables e below (s₁.setTop (mkF m 103 #[.val (.int p1), .val (.long p2), .second, .val (.int p3), .val (.int (p1 &&& (7 : Int32))), .unset, .unset, .unset, .unset, .unset, .unset, .unset, .unset, .unset, .unset, .unset] [])) _
      exact kt)
    obtain ⟨T133, X133, e133, st133⟩ := getS2 X0 hx hZ hown (host := "") (Or.inl (hw _ (List.mem_of_getElem? (i := 15) rfl))) Via.refl e0 (S_INT32.ext O0.2) (g := (mkF m 103 #[.val (.int p1), .val (.long p2), .second, .val (.int p3), .val (.int (p1 &&& (7 : Int32))), .unset, .unset, .unset, .unset, .unset, .unset, .unset, .unset, .unset, .unset, .unset] [])) rfl (hb hby at_103)
    have k134 := fun (t : State) (kt : Steps p.tables e below (T133.setTop (mkF m 181 #[.val (.int p1), .val (.long p2), .second, .val (.int p3), .val (.int (p1 &&& (7 : Int32))), .val (.ref aINT32), .val (.long (-2147483648 : Int64)), .second, .val (.long (2147483647 : Int64)), .second, .unset, .unset, .unset, .unset, .unset, .unset] [])) t) => k132 t (by
      refine st133 _ ?_
      show Steps p.tables e below (T133.setTop (mkF m 106 #[.val (.int p1), .val (.long p2), .second, .val (.int p3), .val (.int (p1 &&& (7 : Int32))), .unset, .unset, .unset, .unset, .unset, .unset, .unset, .unset, .unset, .unset, .unset] [(.ref aINT32)])) _
      refine XS.astore X133.here hx rfl (hb hby at_106) rfl rfl (l' := #[.val (.int p1), .val (.long p2), .second, .val (.int p3), .val (.int (p1 &&& (7 : Int32))), .val (.ref aINT32), .unset, .unset, .unset, .unset, .unset, .unset, .unset, .unset, .unset, .unset]) rfl ?_
      show Steps p.tables e below (T133.setTop (mkF m 108 #[.val (.int p1), .val (.long p2), .second, .val (.int p3), .val (.int (p1 &&& (7 : Int32))), .val (.ref aINT32), .unset, .unset, .unset, .unset, .unset, .unset, .unset, .unset, .unset, .unset] [])) _
      refine X133.ldc2Long hx hown (mvT hZ (hw _ (List.mem_of_getElem? (i := 17) rfl))) (g := (mkF m 108 #[.val (.int p1), .val (.long p2), .second, .val (.int p3), .val (.int (p1 &&& (7 : Int32))), .val (.ref aINT32), .unset, .unset, .unset, .unset, .unset, .unset, .unset, .unset, .unset, .unset] [])) rfl (hb hby at_108) _ ?_
      show Steps p.tables e below (T133.setTop (mkF m 111 #[.val (.int p1), .val (.long p2), .second, .val (.int p3), .val (.int (p1 &&& (7 : Int32))), .val (.ref aINT32), .unset, .unset, .unset, .unset, .unset, .unset, .unset, .unset, .unset, .unset] [(.long (-2147483648 : Int64))])) _
      refine XS.lstore X133.here hx rfl (hb hby at_111) rfl (l' := #[.val (.int p1), .val (.long p2), .second, .val (.int p3), .val (.int (p1 &&& (7 : Int32))), .val (.ref aINT32), .val (.long (-2147483648 : Int64)), .second, .unset, .unset, .unset, .unset, .unset, .unset, .unset, .unset]) rfl ?_
      show Steps p.tables e below (T133.setTop (mkF m 113 #[.val (.int p1), .val (.long p2), .second, .val (.int p3), .val (.int (p1 &&& (7 : Int32))), .val (.ref aINT32), .val (.long (-2147483648 : Int64)), .second, .unset, .unset, .unset, .unset, .unset, .unset, .unset, .unset] [])) _
      refine X133.ldc2Long hx hown (mvT hZ (hw _ (List.mem_of_getElem? (i := 18) rfl))) (g := (mkF m 113 #[.val (.int p1), .val (.long p2), .second, .val (.int p3), .val (.int (p1 &&& (7 : Int32))), .val (.ref aINT32), .val (.long (-2147483648 : Int64)), .second, .unset, .unset, .unset, .unset, .unset, .unset, .unset, .unset] [])) rfl (hb hby at_113) _ ?_
      show Steps p.tables e below (T133.setTop (mkF m 116 #[.val (.int p1), .val (.long p2), .second, .val (.int p3), .val (.int (p1 &&& (7 : Int32))), .val (.ref aINT32), .val (.long (-2147483648 : Int64)), .second, .unset, .unset, .unset, .unset, .unset, .unset, .unset, .unset] [(.long (2147483647 : Int64))])) _
      refine XS.lstore X133.here hx rfl (hb hby at_116) rfl (l' := #[.val (.int p1), .val (.long p2), .second, .val (.int p3), .val (.int (p1 &&& (7 : Int32))), .val (.ref aINT32), .val (.long (-2147483648 : Int64)), .second, .val (.long (2147483647 : Int64)), .second, .unset, .unset, .unset, .unset, .unset, .unset]) rfl ?_
      show Steps p.tables e below (T133.setTop (mkF m 118 #[.val (.int p1), .val (.long p2), .second, .val (.int p3), .val (.int (p1 &&& (7 : Int32))), .val (.ref aINT32), .val (.long (-2147483648 : Int64)), .second, .val (.long (2147483647 : Int64)), .second, .unset, .unset, .unset, .unset, .unset, .unset] [])) _
      refine XS.goto X133.here hx rfl (pc0 := 118) (pc' := 181) rfl (hb hby at_118) (by decide) (by decide) ?_
      show Steps p.tables e below (T133.setTop (mkF m 181 #[.val (.int p1), .val (.long p2), .second, .val (.int p3), .val (.int (p1 &&& (7 : Int32))), .val (.ref aINT32), .val (.long (-2147483648 : Int64)), .second, .val (.long (2147483647 : Int64)), .second, .unset, .unset, .unset, .unset, .unset, .unset] [])) _
      exact kt)
    refine cps (A := ∃ xv : Int64, ∀ t, Steps p.tables e below (T133.setTop (mkF m 244 #[.val (.int p1), .val (.long p2), .second, .val (.int p3), .val (.int (p1 &&& (7 : Int32))), .val (.ref aINT32), .val (.long (-2147483648 : Int64)), .second, .val (.long (2147483647 : Int64)), .second, .val (.int (p3 &&& (3 : Int32))), .val (.long ((p2 &&& (3 : Int64)) - (1 : Int64))), .second, .val (.long xv), .second, .unset] [])) t → Steps p.tables e below (s₁.setTop (entryFrame m #[(.int p1), (.long p2), (.int p3)] maxLocals)) t) ?_ ?_
    · intro join
      have k135 := fun (t : State) (kt : Steps p.tables e below (T133.setTop (mkF m 197 #[.val (.int p1), .val (.long p2), .second, .val (.int p3), .val (.int (p1 &&& (7 : Int32))), .val (.ref aINT32), .val (.long (-2147483648 : Int64)), .second, .val (.long (2147483647 : Int64)), .second, .val (.int (p3 &&& (3 : Int32))), .val (.long ((p2 &&& (3 : Int64)) - (1 : Int64))), .second, .unset, .unset, .unset] [(.int (p3 &&& (3 : Int32)))])) t) => k134 t (by
        refine XS.iloadN X133.here hx rfl (hb hby at_181) rfl ?_
        show Steps p.tables e below (T133.setTop (mkF m 182 #[.val (.int p1), .val (.long p2), .second, .val (.int p3), .val (.int (p1 &&& (7 : Int32))), .val (.ref aINT32), .val (.long (-2147483648 : Int64)), .second, .val (.long (2147483647 : Int64)), .second, .unset, .unset, .unset, .unset, .unset, .unset] [(.int p3)])) _
        refine XS.iconst X133.here hx rfl (hb hby at_182) ?_
        show Steps p.tables e below (T133.setTop (mkF m 183 #[.val (.int p1), .val (.long p2), .second, .val (.int p3), .val (.int (p1 &&& (7 : Int32))), .val (.ref aINT32), .val (.long (-2147483648 : Int64)), .second, .val (.long (2147483647 : Int64)), .second, .unset, .unset, .unset, .unset, .unset, .unset] [(.int (3 : Int32)), (.int p3)])) _
        refine XS.iand X133.here hx rfl (hb hby at_183) rfl ?_
        show Steps p.tables e below (T133.setTop (mkF m 184 #[.val (.int p1), .val (.long p2), .second, .val (.int p3), .val (.int (p1 &&& (7 : Int32))), .val (.ref aINT32), .val (.long (-2147483648 : Int64)), .second, .val (.long (2147483647 : Int64)), .second, .unset, .unset, .unset, .unset, .unset, .unset] [(.int (p3 &&& (3 : Int32)))])) _
        refine XS.istore X133.here hx rfl (hb hby at_184) rfl (l' := #[.val (.int p1), .val (.long p2), .second, .val (.int p3), .val (.int (p1 &&& (7 : Int32))), .val (.ref aINT32), .val (.long (-2147483648 : Int64)), .second, .val (.long (2147483647 : Int64)), .second, .val (.int (p3 &&& (3 : Int32))), .unset, .unset, .unset, .unset, .unset]) rfl ?_
        show Steps p.tables e below (T133.setTop (mkF m 186 #[.val (.int p1), .val (.long p2), .second, .val (.int p3), .val (.int (p1 &&& (7 : Int32))), .val (.ref aINT32), .val (.long (-2147483648 : Int64)), .second, .val (.long (2147483647 : Int64)), .second, .val (.int (p3 &&& (3 : Int32))), .unset, .unset, .unset, .unset, .unset] [])) _
        refine XS.lloadN X133.here hx rfl (hb hby at_186) rfl ?_
        show Steps p.tables e below (T133.setTop (mkF m 187 #[.val (.int p1), .val (.long p2), .second, .val (.int p3), .val (.int (p1 &&& (7 : Int32))), .val (.ref aINT32), .val (.long (-2147483648 : Int64)), .second, .val (.long (2147483647 : Int64)), .second, .val (.int (p3 &&& (3 : Int32))), .unset, .unset, .unset, .unset, .unset] [(.long p2)])) _
        refine X133.ldc2Long hx hown (mvT hZ (hw _ (List.mem_of_getElem? (i := 5) rfl))) (g := (mkF m 187 #[.val (.int p1), .val (.long p2), .second, .val (.int p3), .val (.int (p1 &&& (7 : Int32))), .val (.ref aINT32), .val (.long (-2147483648 : Int64)), .second, .val (.long (2147483647 : Int64)), .second, .val (.int (p3 &&& (3 : Int32))), .unset, .unset, .unset, .unset, .unset] [(.long p2)])) rfl (hb hby at_187) _ ?_
        show Steps p.tables e below (T133.setTop (mkF m 190 #[.val (.int p1), .val (.long p2), .second, .val (.int p3), .val (.int (p1 &&& (7 : Int32))), .val (.ref aINT32), .val (.long (-2147483648 : Int64)), .second, .val (.long (2147483647 : Int64)), .second, .val (.int (p3 &&& (3 : Int32))), .unset, .unset, .unset, .unset, .unset] [(.long (3 : Int64)), (.long p2)])) _
        refine XS.land X133.here hx rfl (hb hby at_190) rfl ?_
        show Steps p.tables e below (T133.setTop (mkF m 191 #[.val (.int p1), .val (.long p2), .second, .val (.int p3), .val (.int (p1 &&& (7 : Int32))), .val (.ref aINT32), .val (.long (-2147483648 : Int64)), .second, .val (.long (2147483647 : Int64)), .second, .val (.int (p3 &&& (3 : Int32))), .unset, .unset, .unset, .unset, .unset] [(.long (p2 &&& (3 : Int64)))])) _
        refine XS.lconst X133.here hx rfl (hb hby at_191) ?_
        show Steps p.tables e below (T133.setTop (mkF m 192 #[.val (.int p1), .val (.long p2), .second, .val (.int p3), .val (.int (p1 &&& (7 : Int32))), .val (.ref aINT32), .val (.long (-2147483648 : Int64)), .second, .val (.long (2147483647 : Int64)), .second, .val (.int (p3 &&& (3 : Int32))), .unset, .unset, .unset, .unset, .unset] [(.long (1 : Int64)), (.long (p2 &&& (3 : Int64)))])) _
        refine XS.lsub X133.here hx rfl (hb hby at_192) rfl ?_
        show Steps p.tables e below (T133.setTop (mkF m 193 #[.val (.int p1), .val (.long p2), .second, .val (.int p3), .val (.int (p1 &&& (7 : Int32))), .val (.ref aINT32), .val (.long (-2147483648 : Int64)), .second, .val (.long (2147483647 : Int64)), .second, .val (.int (p3 &&& (3 : Int32))), .unset, .unset, .unset, .unset, .unset] [(.long ((p2 &&& (3 : Int64)) - (1 : Int64)))])) _
        refine XS.lstore X133.here hx rfl (hb hby at_193) rfl (l' := #[.val (.int p1), .val (.long p2), .second, .val (.int p3), .val (.int (p1 &&& (7 : Int32))), .val (.ref aINT32), .val (.long (-2147483648 : Int64)), .second, .val (.long (2147483647 : Int64)), .second, .val (.int (p3 &&& (3 : Int32))), .val (.long ((p2 &&& (3 : Int64)) - (1 : Int64))), .second, .unset, .unset, .unset]) rfl ?_
        show Steps p.tables e below (T133.setTop (mkF m 195 #[.val (.int p1), .val (.long p2), .second, .val (.int p3), .val (.int (p1 &&& (7 : Int32))), .val (.ref aINT32), .val (.long (-2147483648 : Int64)), .second, .val (.long (2147483647 : Int64)), .second, .val (.int (p3 &&& (3 : Int32))), .val (.long ((p2 &&& (3 : Int64)) - (1 : Int64))), .second, .unset, .unset, .unset] [])) _
        refine XS.iload X133.here hx rfl (hb hby at_195) rfl ?_
        show Steps p.tables e below (T133.setTop (mkF m 197 #[.val (.int p1), .val (.long p2), .second, .val (.int p3), .val (.int (p1 &&& (7 : Int32))), .val (.ref aINT32), .val (.long (-2147483648 : Int64)), .second, .val (.long (2147483647 : Int64)), .second, .val (.int (p3 &&& (3 : Int32))), .val (.long ((p2 &&& (3 : Int64)) - (1 : Int64))), .second, .unset, .unset, .unset] [(.int (p3 &&& (3 : Int32)))])) _
        exact kt)
      by_cases hc197_136 : (p3 &&& (3 : Int32)) = (0 : Int32)
      · have k137 := fun (t : State) (kt : Steps p.tables e below (T133.setTop (mkF m 244 #[.val (.int p1), .val (.long p2), .second, .val (.int p3), .val (.int (p1 &&& (7 : Int32))), .val (.ref aINT32), .val (.long (-2147483648 : Int64)), .second, .val (.long (2147483647 : Int64)), .second, .val (.int (p3 &&& (3 : Int32))), .val (.long ((p2 &&& (3 : Int64)) - (1 : Int64))), .second, .val (.long p2), .second, .unset] [])) t) => k135 t (by
          refine XS.ifNo X133.here hx rfl (hb hby at_197) rfl ((if0 _ _).trans (teq hc197_136).2) ?_
          show Steps p.tables e below (T133.setTop (mkF m 200 #[.val (.int p1), .val (.long p2), .second, .val (.int p3), .val (.int (p1 &&& (7 : Int32))), .val (.ref aINT32), .val (.long (-2147483648 : Int64)), .second, .val (.long (2147483647 : Int64)), .second, .val (.int (p3 &&& (3 : Int32))), .val (.long ((p2 &&& (3 : Int64)) - (1 : Int64))), .second, .unset, .unset, .unset] [])) _
          refine XS.lloadN X133.here hx rfl (hb hby at_200) rfl ?_
          show Steps p.tables e below (T133.setTop (mkF m 201 #[.val (.int p1), .val (.long p2), .second, .val (.int p3), .val (.int (p1 &&& (7 : Int32))), .val (.ref aINT32), .val (.long (-2147483648 : Int64)), .second, .val (.long (2147483647 : Int64)), .second, .val (.int (p3 &&& (3 : Int32))), .val (.long ((p2 &&& (3 : Int64)) - (1 : Int64))), .second, .unset, .unset, .unset] [(.long p2)])) _
          refine XS.lstore X133.here hx rfl (hb hby at_201) rfl (l' := #[.val (.int p1), .val (.long p2), .second, .val (.int p3), .val (.int (p1 &&& (7 : Int32))), .val (.ref aINT32), .val (.long (-2147483648 : Int64)), .second, .val (.long (2147483647 : Int64)), .second, .val (.int (p3 &&& (3 : Int32))), .val (.long ((p2 &&& (3 : Int64)) - (1 : Int64))), .second, .val (.long p2), .second, .unset]) rfl ?_
          show Steps p.tables e below (T133.setTop (mkF m 203 #[.val (.int p1), .val (.long p2), .second, .val (.int p3), .val (.int (p1 &&& (7 : Int32))), .val (.ref aINT32), .val (.long (-2147483648 : Int64)), .second, .val (.long (2147483647 : Int64)), .second, .val (.int (p3 &&& (3 : Int32))), .val (.long ((p2 &&& (3 : Int64)) - (1 : Int64))), .second, .val (.long p2), .second, .unset] [])) _
          refine XS.goto X133.here hx rfl (pc0 := 203) (pc' := 244) rfl (hb hby at_203) (by decide) (by decide) ?_
          show Steps p.tables e below (T133.setTop (mkF m 244 #[.val (.int p1), .val (.long p2), .second, .val (.int p3), .val (.int (p1 &&& (7 : Int32))), .val (.ref aINT32), .val (.long (-2147483648 : Int64)), .second, .val (.long (2147483647 : Int64)), .second, .val (.int (p3 &&& (3 : Int32))), .val (.long ((p2 &&& (3 : Int64)) - (1 : Int64))), .second, .val (.long p2), .second, .unset] [])) _
          exact kt)
        exact join ⟨_, k137⟩
      · have k138 := fun (t : State) (kt : Steps p.tables e below (T133.setTop (mkF m 209 #[.val (.int p1), .val (.long p2), .second, .val (.int p3), .val (.int (p1 &&& (7 : Int32))), .val (.ref aINT32), .val (.long (-2147483648 : Int64)), .second, .val (.long (2147483647 : Int64)), .second, .val (.int (p3 &&& (3 : Int32))), .val (.long ((p2 &&& (3 : Int64)) - (1 : Int64))), .second, .unset, .unset, .unset] [(.int (1 : Int32)), (.int (p3 &&& (3 : Int32)))])) t) => k135 t (by
          refine XS.ifYes X133.here hx rfl (pc0 := 197) (pc' := 206) rfl (hb hby at_197) rfl ((if0 _ _).trans (feq hc197_136).2) (by decide) (by decide) ?_
          show Steps p.tables e below (T133.setTop (mkF m 206 #[.val (.int p1), .val (.long p2), .second, .val (.int p3), .val (.int (p1 &&& (7 : Int32))), .val (.ref aINT32), .val (.long (-2147483648 : Int64)), .second, .val (.long (2147483647 : Int64)), .second, .val (.int (p3 &&& (3 : Int32))), .val (.long ((p2 &&& (3 : Int64)) - (1 : Int64))), .second, .unset, .unset, .unset] [])) _
          refine XS.iload X133.here hx rfl (hb hby at_206) rfl ?_
          show Steps p.tables e below (T133.setTop (mkF m 208 #[.val (.int p1), .val (.long p2), .second, .val (.int p3), .val (.int (p1 &&& (7 : Int32))), .val (.ref aINT32), .val (.long (-2147483648 : Int64)), .second, .val (.long (2147483647 : Int64)), .second, .val (.int (p3 &&& (3 : Int32))), .val (.long ((p2 &&& (3 : Int64)) - (1 : Int64))), .second, .unset, .unset, .unset] [(.int (p3 &&& (3 : Int32)))])) _
          refine XS.iconst X133.here hx rfl (hb hby at_208) ?_
          show Steps p.tables e below (T133.setTop (mkF m 209 #[.val (.int p1), .val (.long p2), .second, .val (.int p3), .val (.int (p1 &&& (7 : Int32))), .val (.ref aINT32), .val (.long (-2147483648 : Int64)), .second, .val (.long (2147483647 : Int64)), .second, .val (.int (p3 &&& (3 : Int32))), .val (.long ((p2 &&& (3 : Int64)) - (1 : Int64))), .second, .unset, .unset, .unset] [(.int (1 : Int32)), (.int (p3 &&& (3 : Int32)))])) _
          exact kt)
        by_cases hc209_139 : (p3 &&& (3 : Int32)) = (1 : Int32)
        · have k140 := fun (t : State) (kt : Steps p.tables e below (T133.setTop (mkF m 244 #[.val (.int p1), .val (.long p2), .second, .val (.int p3), .val (.int (p1 &&& (7 : Int32))), .val (.ref aINT32), .val (.long (-2147483648 : Int64)), .second, .val (.long (2147483647 : Int64)), .second, .val (.int (p3 &&& (3 : Int32))), .val (.long ((p2 &&& (3 : Int64)) - (1 : Int64))), .second, .val (.long ((2147483647 : Int64) + ((p2 &&& (3 : Int64)) - (1 : Int64)))), .second, .unset] [])) t) => k138 t (by
            refine XS.icmpNo X133.here hx rfl (hb hby at_209) rfl (teq hc209_139).2 ?_
            show Steps p.tables e below (T133.setTop (mkF m 212 #[.val (.int p1), .val (.long p2), .second, .val (.int p3), .val (.int (p1 &&& (7 : Int32))), .val (.ref aINT32), .val (.long (-2147483648 : Int64)), .second, .val (.long (2147483647 : Int64)), .second, .val (.int (p3 &&& (3 : Int32))), .val (.long ((p2 &&& (3 : Int64)) - (1 : Int64))), .second, .unset, .unset, .unset] [])) _
            refine XS.lload X133.here hx rfl (hb hby at_212) rfl ?_
            show Steps p.tables e below (T133.setTop (mkF m 214 #[.val (.int p1), .val (.long p2), .second, .val (.int p3), .val (.int (p1 &&& (7 : Int32))), .val (.ref aINT32), .val (.long (-2147483648 : Int64)), .second, .val (.long (2147483647 : Int64)), .second, .val (.int (p3 &&& (3 : Int32))), .val (.long ((p2 &&& (3 : Int64)) - (1 : Int64))), .second, .unset, .unset, .unset] [(.long (2147483647 : Int64))])) _
            refine XS.lload X133.here hx rfl (hb hby at_214) rfl ?_
            show Steps p.tables e below (T133.setTop (mkF m 216 #[.val (.int p1), .val (.long p2), .second, .val (.int p3), .val (.int (p1 &&& (7 : Int32))), .val (.ref aINT32), .val (.long (-2147483648 : Int64)), .second, .val (.long (2147483647 : Int64)), .second, .val (.int (p3 &&& (3 : Int32))), .val (.long ((p2 &&& (3 : Int64)) - (1 : Int64))), .second, .unset, .unset, .unset] [(.long ((p2 &&& (3 : Int64)) - (1 : Int64))), (.long (2147483647 : Int64))])) _
            refine XS.ladd X133.here hx rfl (hb hby at_216) rfl ?_
            show Steps p.tables e below (T133.setTop (mkF m 217 #[.val (.int p1), .val (.long p2), .second, .val (.int p3), .val (.int (p1 &&& (7 : Int32))), .val (.ref aINT32), .val (.long (-2147483648 : Int64)), .second, .val (.long (2147483647 : Int64)), .second, .val (.int (p3 &&& (3 : Int32))), .val (.long ((p2 &&& (3 : Int64)) - (1 : Int64))), .second, .unset, .unset, .unset] [(.long ((2147483647 : Int64) + ((p2 &&& (3 : Int64)) - (1 : Int64))))])) _
            refine XS.lstore X133.here hx rfl (hb hby at_217) rfl (l' := #[.val (.int p1), .val (.long p2), .second, .val (.int p3), .val (.int (p1 &&& (7 : Int32))), .val (.ref aINT32), .val (.long (-2147483648 : Int64)), .second, .val (.long (2147483647 : Int64)), .second, .val (.int (p3 &&& (3 : Int32))), .val (.long ((p2 &&& (3 : Int64)) - (1 : Int64))), .second, .val (.long ((2147483647 : Int64) + ((p2 &&& (3 : Int64)) - (1 : Int64)))), .second, .unset]) rfl ?_
            show Steps p.tables e below (T133.setTop (mkF m 219 #[.val (.int p1), .val (.long p2), .second, .val (.int p3), .val (.int (p1 &&& (7 : Int32))), .val (.ref aINT32), .val (.long (-2147483648 : Int64)), .second, .val (.long (2147483647 : Int64)), .second, .val (.int (p3 &&& (3 : Int32))), .val (.long ((p2 &&& (3 : Int64)) - (1 : Int64))), .second, .val (.long ((2147483647 : Int64) + ((p2 &&& (3 : Int64)) - (1 : Int64)))), .second, .unset] [])) _
            refine XS.goto X133.here hx rfl (pc0 := 219) (pc' := 244) rfl (hb hby at_219) (by decide) (by decide) ?_
            show Steps p.tables e below (T133.setTop (mkF m 244 #[.val (.int p1), .val (.long p2), .second, .val (.int p3), .val (.int (p1 &&& (7 : Int32))), .val (.ref aINT32), .val (.long (-2147483648 : Int64)), .second, .val (.long (2147483647 : Int64)), .second, .val (.int (p3 &&& (3 : Int32))), .val (.long ((p2 &&& (3 : Int64)) - (1 : Int64))), .second, .val (.long ((2147483647 : Int64) + ((p2 &&& (3 : Int64)) - (1 : Int64)))), .second, .unset] [])) _
            exact kt)
          exact join ⟨_, k140⟩
        · have k141 := fun (t : State) (kt : Steps p.tables e below (T133.setTop (mkF m 225 #[.val (.int p1), .val (.long p2), .second, .val (.int p3), .val (.int (p1 &&& (7 : Int32))), .val (.ref aINT32), .val (.long (-2147483648 : Int64)), .second, .val (.long (2147483647 : Int64)), .second, .val (.int (p3 &&& (3 : Int32))), .val (.long ((p2 &&& (3 : Int64)) - (1 : Int64))), .second, .unset, .unset, .unset] [(.int (2 : Int32)), (.int (p3 &&& (3 : Int32)))])) t) => k138 t (by
            refine XS.icmpYes X133.here hx rfl (pc0 := 209) (pc' := 222) rfl (hb hby at_209) rfl (feq hc209_139).2 (by decide) (by decide) ?_
            show Steps p.tables e below (T133.setTop (mkF m 222 #[.val (.int p1), .val (.long p2), .second, .val (.int p3), .val (.int (p1 &&& (7 : Int32))), .val (.ref aINT32), .val (.long (-2147483648 : Int64)), .second, .val (.long (2147483647 : Int64)), .second, .val (.int (p3 &&& (3 : Int32))), .val (.long ((p2 &&& (3 : Int64)) - (1 : Int64))), .second, .unset, .unset, .unset] [])) _
            refine XS.iload X133.here hx rfl (hb hby at_222) rfl ?_
            show Steps p.tables e below (T133.setTop (mkF m 224 #[.val (.int p1), .val (.long p2), .second, .val (.int p3), .val (.int (p1 &&& (7 : Int32))), .val (.ref aINT32), .val (.long (-2147483648 : Int64)), .second, .val (.long (2147483647 : Int64)), .second, .val (.int (p3 &&& (3 : Int32))), .val (.long ((p2 &&& (3 : Int64)) - (1 : Int64))), .second, .unset, .unset, .unset] [(.int (p3 &&& (3 : Int32)))])) _
            refine XS.iconst X133.here hx rfl (hb hby at_224) ?_
            show Steps p.tables e below (T133.setTop (mkF m 225 #[.val (.int p1), .val (.long p2), .second, .val (.int p3), .val (.int (p1 &&& (7 : Int32))), .val (.ref aINT32), .val (.long (-2147483648 : Int64)), .second, .val (.long (2147483647 : Int64)), .second, .val (.int (p3 &&& (3 : Int32))), .val (.long ((p2 &&& (3 : Int64)) - (1 : Int64))), .second, .unset, .unset, .unset] [(.int (2 : Int32)), (.int (p3 &&& (3 : Int32)))])) _
            exact kt)
          by_cases hc225_142 : (p3 &&& (3 : Int32)) = (2 : Int32)
          · have k143 := fun (t : State) (kt : Steps p.tables e below (T133.setTop (mkF m 244 #[.val (.int p1), .val (.long p2), .second, .val (.int p3), .val (.int (p1 &&& (7 : Int32))), .val (.ref aINT32), .val (.long (-2147483648 : Int64)), .second, .val (.long (2147483647 : Int64)), .second, .val (.int (p3 &&& (3 : Int32))), .val (.long ((p2 &&& (3 : Int64)) - (1 : Int64))), .second, .val (.long ((-2147483648 : Int64) - ((p2 &&& (3 : Int64)) - (1 : Int64)))), .second, .unset] [])) t) => k141 t (by
              refine XS.icmpNo X133.here hx rfl (hb hby at_225) rfl (teq hc225_142).2 ?_
              show Steps p.tables e below (T133.setTop (mkF m 228 #[.val (.int p1), .val (.long p2), .second, .val (.int p3), .val (.int (p1 &&& (7 : Int32))), .val (.ref aINT32), .val (.long (-2147483648 : Int64)), .second, .val (.long (2147483647 : Int64)), .second, .val (.int (p3 &&& (3 : Int32))), .val (.long ((p2 &&& (3 : Int64)) - (1 : Int64))), .second, .unset, .unset, .unset] [])) _
              refine XS.lload X133.here hx rfl (hb hby at_228) rfl ?_
              show Steps p.tables e below (T133.setTop (mkF m 230 #[.val (.int p1), .val (.long p2), .second, .val (.int p3), .val (.int (p1 &&& (7 : Int32))), .val (.ref aINT32), .val (.long (-2147483648 : Int64)), .second, .val (.long (2147483647 : Int64)), .second, .val (.int (p3 &&& (3 : Int32))), .val (.long ((p2 &&& (3 : Int64)) - (1 : Int64))), .second, .unset, .unset, .unset] [(.long (-2147483648 : Int64))])) _
              refine XS.lload X133.here hx rfl (hb hby at_230) rfl ?_
              show Steps p.tables e below (T133.setTop (mkF m 232 #[.val (.int p1), .val (.long p2), .second, .val (.int p3), .val (.int (p1 &&& (7 : Int32))), .val (.ref aINT32), .val (.long (-2147483648 : Int64)), .second, .val (.long (2147483647 : Int64)), .second, .val (.int (p3 &&& (3 : Int32))), .val (.long ((p2 &&& (3 : Int64)) - (1 : Int64))), .second, .unset, .unset, .unset] [(.long ((p2 &&& (3 : Int64)) - (1 : Int64))), (.long (-2147483648 : Int64))])) _
              refine XS.lsub X133.here hx rfl (hb hby at_232) rfl ?_
              show Steps p.tables e below (T133.setTop (mkF m 233 #[.val (.int p1), .val (.long p2), .second, .val (.int p3), .val (.int (p1 &&& (7 : Int32))), .val (.ref aINT32), .val (.long (-2147483648 : Int64)), .second, .val (.long (2147483647 : Int64)), .second, .val (.int (p3 &&& (3 : Int32))), .val (.long ((p2 &&& (3 : Int64)) - (1 : Int64))), .second, .unset, .unset, .unset] [(.long ((-2147483648 : Int64) - ((p2 &&& (3 : Int64)) - (1 : Int64))))])) _
              refine XS.lstore X133.here hx rfl (hb hby at_233) rfl (l' := #[.val (.int p1), .val (.long p2), .second, .val (.int p3), .val (.int (p1 &&& (7 : Int32))), .val (.ref aINT32), .val (.long (-2147483648 : Int64)), .second, .val (.long (2147483647 : Int64)), .second, .val (.int (p3 &&& (3 : Int32))), .val (.long ((p2 &&& (3 : Int64)) - (1 : Int64))), .second, .val (.long ((-2147483648 : Int64) - ((p2 &&& (3 : Int64)) - (1 : Int64)))), .second, .unset]) rfl ?_
              show Steps p.tables e below (T133.setTop (mkF m 235 #[.val (.int p1), .val (.long p2), .second, .val (.int p3), .val (.int (p1 &&& (7 : Int32))), .val (.ref aINT32), .val (.long (-2147483648 : Int64)), .second, .val (.long (2147483647 : Int64)), .second, .val (.int (p3 &&& (3 : Int32))), .val (.long ((p2 &&& (3 : Int64)) - (1 : Int64))), .second, .val (.long ((-2147483648 : Int64) - ((p2 &&& (3 : Int64)) - (1 : Int64)))), .second, .unset] [])) _
              refine XS.goto X133.here hx rfl (pc0 := 235) (pc' := 244) rfl (hb hby at_235) (by decide) (by decide) ?_
              show Steps p.tables e below (T133.setTop (mkF m 244 #[.val (.int p1), .val (.long p2), .second, .val (.int p3), .val (.int (p1 &&& (7 : Int32))), .val (.ref aINT32), .val (.long (-2147483648 : Int64)), .second, .val (.long (2147483647 : Int64)), .second, .val (.int (p3 &&& (3 : Int32))), .val (.long ((p2 &&& (3 : Int64)) - (1 : Int64))), .second, .val (.long ((-2147483648 : Int64) - ((p2 &&& (3 : Int64)) - (1 : Int64)))), .second, .unset] [])) _
              exact kt)
            exact join ⟨_, k143⟩
          · have k144 := fun (t : State) (kt : Steps p.tables e below (T133.setTop (mkF m 244 #[.val (.int p1), .val (.long p2), .second, .val (.int p3), .val (.int (p1 &&& (7 : Int32))), .val (.ref aINT32), .val (.long (-2147483648 : Int64)), .second, .val (.long (2147483647 : Int64)), .second, .val (.int (p3 &&& (3 : Int32))), .val (.long ((p2 &&& (3 : Int64)) - (1 : Int64))), .second, .val (.long (p2 >>> ((48 : Int32) &&& 0x3f).toInt64)), .second, .unset] [])) t) => k141 t (by
              refine XS.icmpYes X133.here hx rfl (pc0 := 225) (pc' := 238) rfl (hb hby at_225) rfl (feq hc225_142).2 (by decide) (by decide) ?_
              show Steps p.tables e below (T133.setTop (mkF m 238 #[.val (.int p1), .val (.long p2), .second, .val (.int p3), .val (.int (p1 &&& (7 : Int32))), .val (.ref aINT32), .val (.long (-2147483648 : Int64)), .second, .val (.long (2147483647 : Int64)), .second, .val (.int (p3 &&& (3 : Int32))), .val (.long ((p2 &&& (3 : Int64)) - (1 : Int64))), .second, .unset, .unset, .unset] [])) _
              refine XS.lloadN X133.here hx rfl (hb hby at_238) rfl ?_
              show Steps p.tables e below (T133.setTop (mkF m 239 #[.val (.int p1), .val (.long p2), .second, .val (.int p3), .val (.int (p1 &&& (7 : Int32))), .val (.ref aINT32), .val (.long (-2147483648 : Int64)), .second, .val (.long (2147483647 : Int64)), .second, .val (.int (p3 &&& (3 : Int32))), .val (.long ((p2 &&& (3 : Int64)) - (1 : Int64))), .second, .unset, .unset, .unset] [(.long p2)])) _
              refine XS.bipush X133.here hx rfl (hb hby at_239) ?_
              show Steps p.tables e below (T133.setTop (mkF m 241 #[.val (.int p1), .val (.long p2), .second, .val (.int p3), .val (.int (p1 &&& (7 : Int32))), .val (.ref aINT32), .val (.long (-2147483648 : Int64)), .second, .val (.long (2147483647 : Int64)), .second, .val (.int (p3 &&& (3 : Int32))), .val (.long ((p2 &&& (3 : Int64)) - (1 : Int64))), .second, .unset, .unset, .unset] [(.int (48 : Int32)), (.long p2)])) _
              refine XS.lshr X133.here hx rfl (hb hby at_241) rfl ?_
              show Steps p.tables e below (T133.setTop (mkF m 242 #[.val (.int p1), .val (.long p2), .second, .val (.int p3), .val (.int (p1 &&& (7 : Int32))), .val (.ref aINT32), .val (.long (-2147483648 : Int64)), .second, .val (.long (2147483647 : Int64)), .second, .val (.int (p3 &&& (3 : Int32))), .val (.long ((p2 &&& (3 : Int64)) - (1 : Int64))), .second, .unset, .unset, .unset] [(.long (p2 >>> ((48 : Int32) &&& 0x3f).toInt64))])) _
              refine XS.lstore X133.here hx rfl (hb hby at_242) rfl (l' := #[.val (.int p1), .val (.long p2), .second, .val (.int p3), .val (.int (p1 &&& (7 : Int32))), .val (.ref aINT32), .val (.long (-2147483648 : Int64)), .second, .val (.long (2147483647 : Int64)), .second, .val (.int (p3 &&& (3 : Int32))), .val (.long ((p2 &&& (3 : Int64)) - (1 : Int64))), .second, .val (.long (p2 >>> ((48 : Int32) &&& 0x3f).toInt64)), .second, .unset]) rfl ?_
              show Steps p.tables e below (T133.setTop (mkF m 244 #[.val (.int p1), .val (.long p2), .second, .val (.int p3), .val (.int (p1 &&& (7 : Int32))), .val (.ref aINT32), .val (.long (-2147483648 : Int64)), .second, .val (.long (2147483647 : Int64)), .second, .val (.int (p3 &&& (3 : Int32))), .val (.long ((p2 &&& (3 : Int64)) - (1 : Int64))), .second, .val (.long (p2 >>> ((48 : Int32) &&& 0x3f).toInt64)), .second, .unset] [])) _
              exact kt)
            exact join ⟨_, k144⟩
    · rintro ⟨xv, kJ⟩
      have k145 := fun (t : State) (kt : Steps p.tables e below (T133.setTop (mkF m 249 #[.val (.int p1), .val (.long p2), .second, .val (.int p3), .val (.int (p1 &&& (7 : Int32))), .val (.ref aINT32), .val (.long (-2147483648 : Int64)), .second, .val (.long (2147483647 : Int64)), .second, .val (.int (p3 &&& (3 : Int32))), .val (.long ((p2 &&& (3 : Int64)) - (1 : Int64))), .second, .val (.long xv), .second, .unset] [(.int (lcmpW (-2147483648 : Int64) xv))])) t) => kJ t (by
        refine XS.lload X133.here hx rfl (hb hby at_244) rfl ?_
        show Steps p.tables e below (T133.setTop (mkF m 246 #[.val (.int p1), .val (.long p2), .second, .val (.int p3), .val (.int (p1 &&& (7 : Int32))), .val (.ref aINT32), .val (.long (-2147483648 : Int64)), .second, .val (.long (2147483647 : Int64)), .second, .val (.int (p3 &&& (3 : Int32))), .val (.long ((p2 &&& (3 : Int64)) - (1 : Int64))), .second, .val (.long xv), .second, .unset] [(.long (-2147483648 : Int64))])) _
        refine XS.lload X133.here hx rfl (hb hby at_246) rfl ?_
        show Steps p.tables e below (T133.setTop (mkF m 248 #[.val (.int p1), .val (.long p2), .second, .val (.int p3), .val (.int (p1 &&& (7 : Int32))), .val (.ref aINT32), .val (.long (-2147483648 : Int64)), .second, .val (.long (2147483647 : Int64)), .second, .val (.int (p3 &&& (3 : Int32))), .val (.long ((p2 &&& (3 : Int64)) - (1 : Int64))), .second, .val (.long xv), .second, .unset] [(.long xv), (.long (-2147483648 : Int64))])) _
        refine XS.lcmp X133.here hx rfl (hb hby at_248) rfl ?_
        show Steps p.tables e below (T133.setTop (mkF m 249 #[.val (.int p1), .val (.long p2), .second, .val (.int p3), .val (.int (p1 &&& (7 : Int32))), .val (.ref aINT32), .val (.long (-2147483648 : Int64)), .second, .val (.long (2147483647 : Int64)), .second, .val (.int (p3 &&& (3 : Int32))), .val (.long ((p2 &&& (3 : Int64)) - (1 : Int64))), .second, .val (.long xv), .second, .unset] [(.int (lcmpW (-2147483648 : Int64) xv))])) _
        exact kt)
      by_cases hc249_146 : xv < (-2147483648 : Int64)
      · have k147 := fun (t : State) (kt : Steps p.tables e below (T133.setTop (mkF m 271 #[.val (.int p1), .val (.long p2), .second, .val (.int p3), .val (.int (p1 &&& (7 : Int32))), .val (.ref aINT32), .val (.long (-2147483648 : Int64)), .second, .val (.long (2147483647 : Int64)), .second, .val (.int (p3 &&& (3 : Int32))), .val (.long ((p2 &&& (3 : Int64)) - (1 : Int64))), .second, .val (.long xv), .second, .val (.int (0 : Int32))] [(.long xv), (.ref aINT32)])) t) => k145 t (by
          refine XS.ifYes X133.here hx rfl (pc0 := 249) (pc' := 264) rfl (hb hby at_249) rfl ((if0 _ _).trans (tlt ((lw_gt (-2147483648 : Int64) xv).mpr hc249_146)).2.2.1) (by decide) (by decide) ?_
          show Steps p.tables e below (T133.setTop (mkF m 264 #[.val (.int p1), .val (.long p2), .second, .val (.int p3), .val (.int (p1 &&& (7 : Int32))), .val (.ref aINT32), .val (.long (-2147483648 : Int64)), .second, .val (.long (2147483647 : Int64)), .second, .val (.int (p3 &&& (3 : Int32))), .val (.long ((p2 &&& (3 : Int64)) - (1 : Int64))), .second, .val (.long xv), .second, .unset] [])) _
          refine XS.iconst X133.here hx rfl (hb hby at_264) ?_
          show Steps p.tables e below (T133.setTop (mkF m 265 #[.val (.int p1), .val (.long p2), .second, .val (.int p3), .val (.int (p1 &&& (7 : Int32))), .val (.ref aINT32), .val (.long (-2147483648 : Int64)), .second, .val (.long (2147483647 : Int64)), .second, .val (.int (p3 &&& (3 : Int32))), .val (.long ((p2 &&& (3 : Int64)) - (1 : Int64))), .second, .val (.long xv), .second, .unset] [(.int (0 : Int32))])) _
          refine XS.istore X133.here hx rfl (hb hby at_265) rfl (l' := #[.val (.int p1), .val (.long p2), .second, .val (.int p3), .val (.int (p1 &&& (7 : Int32))), .val (.ref aINT32), .val (.long (-2147483648 : Int64)), .second, .val (.long (2147483647 : Int64)), .second, .val (.int (p3 &&& (3 : Int32))), .val (.long ((p2 &&& (3 : Int64)) - (1 : Int64))), .second, .val (.long xv), .second, .val (.int (0 : Int32))]) rfl ?_
          show Steps p.tables e below (T133.setTop (mkF m 267 #[.val (.int p1), .val (.long p2), .second, .val (.int p3), .val (.int (p1 &&& (7 : Int32))), .val (.ref aINT32), .val (.long (-2147483648 : Int64)), .second, .val (.long (2147483647 : Int64)), .second, .val (.int (p3 &&& (3 : Int32))), .val (.long ((p2 &&& (3 : Int64)) - (1 : Int64))), .second, .val (.long xv), .second, .val (.int (0 : Int32))] [])) _
          refine XS.aload X133.here hx rfl (hb hby at_267) rfl rfl ?_
          show Steps p.tables e below (T133.setTop (mkF m 269 #[.val (.int p1), .val (.long p2), .second, .val (.int p3), .val (.int (p1 &&& (7 : Int32))), .val (.ref aINT32), .val (.long (-2147483648 : Int64)), .second, .val (.long (2147483647 : Int64)), .second, .val (.int (p3 &&& (3 : Int32))), .val (.long ((p2 &&& (3 : Int64)) - (1 : Int64))), .second, .val (.long xv), .second, .val (.int (0 : Int32))] [(.ref aINT32)])) _
          refine XS.lload X133.here hx rfl (hb hby at_269) rfl ?_
          show Steps p.tables e below (T133.setTop (mkF m 271 #[.val (.int p1), .val (.long p2), .second, .val (.int p3), .val (.int (p1 &&& (7 : Int32))), .val (.ref aINT32), .val (.long (-2147483648 : Int64)), .second, .val (.long (2147483647 : Int64)), .second, .val (.int (p3 &&& (3 : Int32))), .val (.long ((p2 &&& (3 : Int64)) - (1 : Int64))), .second, .val (.long xv), .second, .val (.int (0 : Int32))] [(.long xv), (.ref aINT32)])) _
          exact kt)
        obtain ⟨cq148, kq148, q148a, q148b, q148c⟩ := isOf hZ e133 (E_INT32.ext O0.2)
        obtain ⟨_, _, ⟨T148, L148, k148, n148⟩, -, X148, ⟨Lc148, hQ148, l148, y148, z148⟩, st148⟩ := X133.virtualBack hx (y := (⟨"com/example/tightwire/tightwire/Kind", "holds", "(J)Z"⟩ : MethodName)) (z := (⟨"com/example/tightwire/tightwire/Kind", "holds", "(J)Z"⟩ : MethodName)) hown (mvT hZ (hw _ (List.mem_of_getElem? (i := 6) rfl))) (mvT hZ (hw _ (List.mem_of_getElem? (i := 7) rfl))) (notFace_of_selects (args := #[]) (mvT hZ (hw _ (List.mem_of_getElem? (i := 9) rfl)))) (mvT hZ (hw _ (List.mem_of_getElem? (i := 9) rfl))) (mvT hZ (hw _ (List.mem_of_getElem? (i := 8) rfl))) (by decide) (backOf (W := 0) (rm1 l Z a0 hw [] aINT32 xv (1 : Int32) (32 : Int32) h0 n0 O0 (F_INT32_signed.ext O0.2) (F_INT32_bits.ext O0.2)) hZ (hw _ (List.mem_of_getElem? (i := 10) rfl)) (hw _ (List.mem_of_getElem? (i := 1) rfl)) (by decide) (by decide)) q148a q148c (g := (mkF m 271 #[.val (.int p1), .val (.long p2), .second, .val (.int p3), .val (.int (p1 &&& (7 : Int32))), .val (.ref aINT32), .val (.long (-2147483648 : Int64)), .second, .val (.long (2147483647 : Int64)), .second, .val (.int (p3 &&& (3 : Int32))), .val (.long ((p2 &&& (3 : Int64)) - (1 : Int64))), .second, .val (.long xv), .second, .val (.int (0 : Int32))] [(.long xv), (.ref aINT32)])) rfl (by rw [hml]; rfl) (Steps.refl _) (argsL := [(.long xv)]) (rest := []) (lenOf pd_0 rfl) rfl (by show 2 * 0 + _ ≤ _; exact Nat.le_of_eq rfl) (hb hby at_271) (fun _ _ => ⟨rfl, e133, (by decide : 0 + 0 ≤ _), (by decide : 0 + 0 ≤ _)⟩)
        dsimp only [Pt.U, Pt.locs, Pt.cells, Pt.slots] at X148 l148 y148 z148 st148 hQ148
        subst l148 y148 z148
        obtain ⟨rfl, Nq148, eh148⟩ := hQ148
        have N148 := Fr.app N0 Nq148
        have k149 := fun (t : State) (kt : Steps p.tables e below (T148.setTop (mkF m 276 #[.val (.int p1), .val (.long p2), .second, .val (.int p3), .val (.int (p1 &&& (7 : Int32))), .val (.ref aINT32), .val (.long (-2147483648 : Int64)), .second, .val (.long (2147483647 : Int64)), .second, .val (.int (p3 &&& (3 : Int32))), .val (.long ((p2 &&& (3 : Int64)) - (1 : Int64))), .second, .val (.long xv), .second, .val (.int (0 : Int32))] [(.int (0 : Int32)), (.int (own_holds (1 : Int32) (32 : Int32) xv))])) t) => k147 t (by
          refine st148.trans ?_
          show Steps p.tables e below (T148.setTop (mkF m 274 #[.val (.int p1), .val (.long p2), .second, .val (.int p3), .val (.int (p1 &&& (7 : Int32))), .val (.ref aINT32), .val (.long (-2147483648 : Int64)), .second, .val (.long (2147483647 : Int64)), .second, .val (.int (p3 &&& (3 : Int32))), .val (.long ((p2 &&& (3 : Int64)) - (1 : Int64))), .second, .val (.long xv), .second, .val (.int (0 : Int32))] [(.int (own_holds (1 : Int32) (32 : Int32) xv))])) _
          refine XS.iload X148.here hx rfl (hb hby at_274) rfl ?_
          show Steps p.tables e below (T148.setTop (mkF m 276 #[.val (.int p1), .val (.long p2), .second, .val (.int p3), .val (.int (p1 &&& (7 : Int32))), .val (.ref aINT32), .val (.long (-2147483648 : Int64)), .second, .val (.long (2147483647 : Int64)), .second, .val (.int (p3 &&& (3 : Int32))), .val (.long ((p2 &&& (3 : Int64)) - (1 : Int64))), .second, .val (.long xv), .second, .val (.int (0 : Int32))] [(.int (0 : Int32)), (.int (own_holds (1 : Int32) (32 : Int32) xv))])) _
          exact kt)
        have k150 := fun (t : State) (kt : Steps p.tables e below (T148.setTop (mkF m 284 #[.val (.int p1), .val (.long p2), .second, .val (.int p3), .val (.int (p1 &&& (7 : Int32))), .val (.ref aINT32), .val (.long (-2147483648 : Int64)), .second, .val (.long (2147483647 : Int64)), .second, .val (.int (p3 &&& (3 : Int32))), .val (.long ((p2 &&& (3 : Int64)) - (1 : Int64))), .second, .val (.long xv), .second, .val (.int (0 : Int32))] [(.int (1 : Int32))])) t) => k149 t (by
          refine XS.icmpNo X148.here hx rfl (hb hby at_276) rfl (teq (own_lo_INT32 hc249_146)).2 ?_
          show Steps p.tables e below (T148.setTop (mkF m 279 #[.val (.int p1), .val (.long p2), .second, .val (.int p3), .val (.int (p1 &&& (7 : Int32))), .val (.ref aINT32), .val (.long (-2147483648 : Int64)), .second, .val (.long (2147483647 : Int64)), .second, .val (.int (p3 &&& (3 : Int32))), .val (.long ((p2 &&& (3 : Int64)) - (1 : Int64))), .second, .val (.long xv), .second, .val (.int (0 : Int32))] [])) _
          refine XS.iconst X148.here hx rfl (hb hby at_279) ?_
          show Steps p.tables e below (T148.setTop (mkF m 280 #[.val (.int p1), .val (.long p2), .second, .val (.int p3), .val (.int (p1 &&& (7 : Int32))), .val (.ref aINT32), .val (.long (-2147483648 : Int64)), .second, .val (.long (2147483647 : Int64)), .second, .val (.int (p3 &&& (3 : Int32))), .val (.long ((p2 &&& (3 : Int64)) - (1 : Int64))), .second, .val (.long xv), .second, .val (.int (0 : Int32))] [(.int (1 : Int32))])) _
          refine XS.goto X148.here hx rfl (pc0 := 280) (pc' := 284) rfl (hb hby at_280) (by decide) (by decide) ?_
          show Steps p.tables e below (T148.setTop (mkF m 284 #[.val (.int p1), .val (.long p2), .second, .val (.int p3), .val (.int (p1 &&& (7 : Int32))), .val (.ref aINT32), .val (.long (-2147483648 : Int64)), .second, .val (.long (2147483647 : Int64)), .second, .val (.int (p3 &&& (3 : Int32))), .val (.long ((p2 &&& (3 : Int64)) - (1 : Int64))), .second, .val (.long xv), .second, .val (.int (0 : Int32))] [(.int (1 : Int32))])) _
          exact kt)
        obtain ⟨fs, hr, hrun, hended, hW, hsame⟩ := X148.leave (v := some (.int (1 : Int32))) (fun h => by rw [Bd.returns] at h; cases h)
        refine ⟨_, _, k150 _ ?_, hrun, hended, _, _, rfl, ?_, ⟨_, rfl⟩, hW, hsame.mono (by decide) (by decide)⟩
        · exact retN X148 hx (t := .boolean) Bd.returns (by simp) (hb hby at_284) hr
        · show Q0 n0 _ T148.heap _
          rw [eh148]
          exact ⟨rfl, N148⟩
      · have k151 := fun (t : State) (kt : Steps p.tables e below (T133.setTop (mkF m 257 #[.val (.int p1), .val (.long p2), .second, .val (.int p3), .val (.int (p1 &&& (7 : Int32))), .val (.ref aINT32), .val (.long (-2147483648 : Int64)), .second, .val (.long (2147483647 : Int64)), .second, .val (.int (p3 &&& (3 : Int32))), .val (.long ((p2 &&& (3 : Int64)) - (1 : Int64))), .second, .val (.long xv), .second, .unset] [(.int (lcmpW xv (2147483647 : Int64)))])) t) => k145 t (by
          refine XS.ifNo X133.here hx rfl (hb hby at_249) rfl ((if0 _ _).trans (flt (fun q => hc249_146 ((lw_gt (-2147483648 : Int64) xv).mp q))).2.2.1) ?_
          show Steps p.tables e below (T133.setTop (mkF m 252 #[.val (.int p1), .val (.long p2), .second, .val (.int p3), .val (.int (p1 &&& (7 : Int32))), .val (.ref aINT32), .val (.long (-2147483648 : Int64)), .second, .val (.long (2147483647 : Int64)), .second, .val (.int (p3 &&& (3 : Int32))), .val (.long ((p2 &&& (3 : Int64)) - (1 : Int64))), .second, .val (.long xv), .second, .unset] [])) _
          refine XS.lload X133.here hx rfl (hb hby at_252) rfl ?_
          show Steps p.tables e below (T133.setTop (mkF m 254 #[.val (.int p1), .val (.long p2), .second, .val (.int p3), .val (.int (p1 &&& (7 : Int32))), .val (.ref aINT32), .val (.long (-2147483648 : Int64)), .second, .val (.long (2147483647 : Int64)), .second, .val (.int (p3 &&& (3 : Int32))), .val (.long ((p2 &&& (3 : Int64)) - (1 : Int64))), .second, .val (.long xv), .second, .unset] [(.long xv)])) _
          refine XS.lload X133.here hx rfl (hb hby at_254) rfl ?_
          show Steps p.tables e below (T133.setTop (mkF m 256 #[.val (.int p1), .val (.long p2), .second, .val (.int p3), .val (.int (p1 &&& (7 : Int32))), .val (.ref aINT32), .val (.long (-2147483648 : Int64)), .second, .val (.long (2147483647 : Int64)), .second, .val (.int (p3 &&& (3 : Int32))), .val (.long ((p2 &&& (3 : Int64)) - (1 : Int64))), .second, .val (.long xv), .second, .unset] [(.long (2147483647 : Int64)), (.long xv)])) _
          refine XS.lcmp X133.here hx rfl (hb hby at_256) rfl ?_
          show Steps p.tables e below (T133.setTop (mkF m 257 #[.val (.int p1), .val (.long p2), .second, .val (.int p3), .val (.int (p1 &&& (7 : Int32))), .val (.ref aINT32), .val (.long (-2147483648 : Int64)), .second, .val (.long (2147483647 : Int64)), .second, .val (.int (p3 &&& (3 : Int32))), .val (.long ((p2 &&& (3 : Int64)) - (1 : Int64))), .second, .val (.long xv), .second, .unset] [(.int (lcmpW xv (2147483647 : Int64)))])) _
          exact kt)
        by_cases hc257_152 : (2147483647 : Int64) < xv
        · have k153 := fun (t : State) (kt : Steps p.tables e below (T133.setTop (mkF m 271 #[.val (.int p1), .val (.long p2), .second, .val (.int p3), .val (.int (p1 &&& (7 : Int32))), .val (.ref aINT32), .val (.long (-2147483648 : Int64)), .second, .val (.long (2147483647 : Int64)), .second, .val (.int (p3 &&& (3 : Int32))), .val (.long ((p2 &&& (3 : Int64)) - (1 : Int64))), .second, .val (.long xv), .second, .val (.int (0 : Int32))] [(.long xv), (.ref aINT32)])) t) => k151 t (by
            refine XS.ifYes X133.here hx rfl (pc0 := 257) (pc' := 264) rfl (hb hby at_257) rfl ((if0 _ _).trans (tlt ((lw_gt xv (2147483647 : Int64)).mpr hc257_152)).2.2.1) (by decide) (by decide) ?_
            show Steps p.tables e below (T133.setTop (mkF m 264 #[.val (.int p1), .val (.long p2), .second, .val (.int p3), .val (.int (p1 &&& (7 : Int32))), .val (.ref aINT32), .val (.long (-2147483648 : Int64)), .second, .val (.long (2147483647 : Int64)), .second, .val (.int (p3 &&& (3 : Int32))), .val (.long ((p2 &&& (3 : Int64)) - (1 : Int64))), .second, .val (.long xv), .second, .unset] [])) _
            refine XS.iconst X133.here hx rfl (hb hby at_264) ?_
            show Steps p.tables e below (T133.setTop (mkF m 265 #[.val (.int p1), .val (.long p2), .second, .val (.int p3), .val (.int (p1 &&& (7 : Int32))), .val (.ref aINT32), .val (.long (-2147483648 : Int64)), .second, .val (.long (2147483647 : Int64)), .second, .val (.int (p3 &&& (3 : Int32))), .val (.long ((p2 &&& (3 : Int64)) - (1 : Int64))), .second, .val (.long xv), .second, .unset] [(.int (0 : Int32))])) _
            refine XS.istore X133.here hx rfl (hb hby at_265) rfl (l' := #[.val (.int p1), .val (.long p2), .second, .val (.int p3), .val (.int (p1 &&& (7 : Int32))), .val (.ref aINT32), .val (.long (-2147483648 : Int64)), .second, .val (.long (2147483647 : Int64)), .second, .val (.int (p3 &&& (3 : Int32))), .val (.long ((p2 &&& (3 : Int64)) - (1 : Int64))), .second, .val (.long xv), .second, .val (.int (0 : Int32))]) rfl ?_
            show Steps p.tables e below (T133.setTop (mkF m 267 #[.val (.int p1), .val (.long p2), .second, .val (.int p3), .val (.int (p1 &&& (7 : Int32))), .val (.ref aINT32), .val (.long (-2147483648 : Int64)), .second, .val (.long (2147483647 : Int64)), .second, .val (.int (p3 &&& (3 : Int32))), .val (.long ((p2 &&& (3 : Int64)) - (1 : Int64))), .second, .val (.long xv), .second, .val (.int (0 : Int32))] [])) _
            refine XS.aload X133.here hx rfl (hb hby at_267) rfl rfl ?_
            show Steps p.tables e below (T133.setTop (mkF m 269 #[.val (.int p1), .val (.long p2), .second, .val (.int p3), .val (.int (p1 &&& (7 : Int32))), .val (.ref aINT32), .val (.long (-2147483648 : Int64)), .second, .val (.long (2147483647 : Int64)), .second, .val (.int (p3 &&& (3 : Int32))), .val (.long ((p2 &&& (3 : Int64)) - (1 : Int64))), .second, .val (.long xv), .second, .val (.int (0 : Int32))] [(.ref aINT32)])) _
            refine XS.lload X133.here hx rfl (hb hby at_269) rfl ?_
            show Steps p.tables e below (T133.setTop (mkF m 271 #[.val (.int p1), .val (.long p2), .second, .val (.int p3), .val (.int (p1 &&& (7 : Int32))), .val (.ref aINT32), .val (.long (-2147483648 : Int64)), .second, .val (.long (2147483647 : Int64)), .second, .val (.int (p3 &&& (3 : Int32))), .val (.long ((p2 &&& (3 : Int64)) - (1 : Int64))), .second, .val (.long xv), .second, .val (.int (0 : Int32))] [(.long xv), (.ref aINT32)])) _
            exact kt)
          obtain ⟨cq154, kq154, q154a, q154b, q154c⟩ := isOf hZ e133 (E_INT32.ext O0.2)
          obtain ⟨_, _, ⟨T154, L154, k154, n154⟩, -, X154, ⟨Lc154, hQ154, l154, y154, z154⟩, st154⟩ := X133.virtualBack hx (y := (⟨"com/example/tightwire/tightwire/Kind", "holds", "(J)Z"⟩ : MethodName)) (z := (⟨"com/example/tightwire/tightwire/Kind", "holds", "(J)Z"⟩ : MethodName)) hown (mvT hZ (hw _ (List.mem_of_getElem? (i := 6) rfl))) (mvT hZ (hw _ (List.mem_of_getElem? (i := 7) rfl))) (notFace_of_selects (args := #[]) (mvT hZ (hw _ (List.mem_of_getElem? (i := 9) rfl)))) (mvT hZ (hw _ (List.mem_of_getElem? (i := 9) rfl))) (mvT hZ (hw _ (List.mem_of_getElem? (i := 8) rfl))) (by decide) (backOf (W := 0) (rm1 l Z a0 hw [] aINT32 xv (1 : Int32) (32 : Int32) h0 n0 O0 (F_INT32_signed.ext O0.2) (F_INT32_bits.ext O0.2)) hZ (hw _ (List.mem_of_getElem? (i := 10) rfl)) (hw _ (List.mem_of_getElem? (i := 1) rfl)) (by decide) (by decide)) q154a q154c (g := (mkF m 271 #[.val (.int p1), .val (.long p2), .second, .val (.int p3), .val (.int (p1 &&& (7 : Int32))), .val (.ref aINT32), .val (.long (-2147483648 : Int64)), .second, .val (.long (2147483647 : Int64)), .second, .val (.int (p3 &&& (3 : Int32))), .val (.long ((p2 &&& (3 : Int64)) - (1 : Int64))), .second, .val (.long xv), .second, .val (.int (0 : Int32))] [(.long xv), (.ref aINT32)])) rfl (by rw [hml]; rfl) (Steps.refl _) (argsL := [(.long xv)]) (rest := []) (lenOf pd_0 rfl) rfl (by show 2 * 0 + _ ≤ _; exact Nat.le_of_eq rfl) (hb hby at_271) (fun _ _ => ⟨rfl, e133, (by decide : 0 + 0 ≤ _), (by decide : 0 + 0 ≤ _)⟩)
          dsimp only [Pt.U, Pt.locs, Pt.cells, Pt.slots] at X154 l154 y154 z154 st154 hQ154
          subst l154 y154 z154
          obtain ⟨rfl, Nq154, eh154⟩ := hQ154
          have N154 := Fr.app N0 Nq154
          have k155 := fun (t : State) (kt : Steps p.tables e below (T154.setTop (mkF m 276 #[.val (.int p1), .val (.long p2), .second, .val (.int p3), .val (.int (p1 &&& (7 : Int32))), .val (.ref aINT32), .val (.long (-2147483648 : Int64)), .second, .val (.long (2147483647 : Int64)), .second, .val (.int (p3 &&& (3 : Int32))), .val (.long ((p2 &&& (3 : Int64)) - (1 : Int64))), .second, .val (.long xv), .second, .val (.int (0 : Int32))] [(.int (0 : Int32)), (.int (own_holds (1 : Int32) (32 : Int32) xv))])) t) => k153 t (by
            refine st154.trans ?_
            show Steps p.tables e below (T154.setTop (mkF m 274 #[.val (.int p1), .val (.long p2), .second, .val (.int p3), .val (.int (p1 &&& (7 : Int32))), .val (.ref aINT32), .val (.long (-2147483648 : Int64)), .second, .val (.long (2147483647 : Int64)), .second, .val (.int (p3 &&& (3 : Int32))), .val (.long ((p2 &&& (3 : Int64)) - (1 : Int64))), .second, .val (.long xv), .second, .val (.int (0 : Int32))] [(.int (own_holds (1 : Int32) (32 : Int32) xv))])) _
            refine XS.iload X154.here hx rfl (hb hby at_274) rfl ?_
            show Steps p.tables e below (T154.setTop (mkF m 276 #[.val (.int p1), .val (.long p2), .second, .val (.int p3), .val (.int (p1 &&& (7 : Int32))), .val (.ref aINT32), .val (.long (-2147483648 : Int64)), .second, .val (.long (2147483647 : Int64)), .second, .val (.int (p3 &&& (3 : Int32))), .val (.long ((p2 &&& (3 : Int64)) - (1 : Int64))), .second, .val (.long xv), .second, .val (.int (0 : Int32))] [(.int (0 : Int32)), (.int (own_holds (1 : Int32) (32 : Int32) xv))])) _
            exact kt)
          have k156 := fun (t : State) (kt : Steps p.tables e below (T154.setTop (mkF m 284 #[.val (.int p1), .val (.long p2), .second, .val (.int p3), .val (.int (p1 &&& (7 : Int32))), .val (.ref aINT32), .val (.long (-2147483648 : Int64)), .second, .val (.long (2147483647 : Int64)), .second, .val (.int (p3 &&& (3 : Int32))), .val (.long ((p2 &&& (3 : Int64)) - (1 : Int64))), .second, .val (.long xv), .second, .val (.int (0 : Int32))] [(.int (1 : Int32))])) t) => k155 t (by
            refine XS.icmpNo X154.here hx rfl (hb hby at_276) rfl (teq (own_hi_INT32 hc257_152)).2 ?_
            show Steps p.tables e below (T154.setTop (mkF m 279 #[.val (.int p1), .val (.long p2), .second, .val (.int p3), .val (.int (p1 &&& (7 : Int32))), .val (.ref aINT32), .val (.long (-2147483648 : Int64)), .second, .val (.long (2147483647 : Int64)), .second, .val (.int (p3 &&& (3 : Int32))), .val (.long ((p2 &&& (3 : Int64)) - (1 : Int64))), .second, .val (.long xv), .second, .val (.int (0 : Int32))] [])) _
            refine XS.iconst X154.here hx rfl (hb hby at_279) ?_
            show Steps p.tables e below (T154.setTop (mkF m 280 #[.val (.int p1), .val (.long p2), .second, .val (.int p3), .val (.int (p1 &&& (7 : Int32))), .val (.ref aINT32), .val (.long (-2147483648 : Int64)), .second, .val (.long (2147483647 : Int64)), .second, .val (.int (p3 &&& (3 : Int32))), .val (.long ((p2 &&& (3 : Int64)) - (1 : Int64))), .second, .val (.long xv), .second, .val (.int (0 : Int32))] [(.int (1 : Int32))])) _
            refine XS.goto X154.here hx rfl (pc0 := 280) (pc' := 284) rfl (hb hby at_280) (by decide) (by decide) ?_
            show Steps p.tables e below (T154.setTop (mkF m 284 #[.val (.int p1), .val (.long p2), .second, .val (.int p3), .val (.int (p1 &&& (7 : Int32))), .val (.ref aINT32), .val (.long (-2147483648 : Int64)), .second, .val (.long (2147483647 : Int64)), .second, .val (.int (p3 &&& (3 : Int32))), .val (.long ((p2 &&& (3 : Int64)) - (1 : Int64))), .second, .val (.long xv), .second, .val (.int (0 : Int32))] [(.int (1 : Int32))])) _
            exact kt)
          obtain ⟨fs, hr, hrun, hended, hW, hsame⟩ := X154.leave (v := some (.int (1 : Int32))) (fun h => by rw [Bd.returns] at h; cases h)
          refine ⟨_, _, k156 _ ?_, hrun, hended, _, _, rfl, ?_, ⟨_, rfl⟩, hW, hsame.mono (by decide) (by decide)⟩
          · exact retN X154 hx (t := .boolean) Bd.returns (by simp) (hb hby at_284) hr
          · show Q0 n0 _ T154.heap _
            rw [eh154]
            exact ⟨rfl, N154⟩
        · have k157 := fun (t : State) (kt : Steps p.tables e below (T133.setTop (mkF m 271 #[.val (.int p1), .val (.long p2), .second, .val (.int p3), .val (.int (p1 &&& (7 : Int32))), .val (.ref aINT32), .val (.long (-2147483648 : Int64)), .second, .val (.long (2147483647 : Int64)), .second, .val (.int (p3 &&& (3 : Int32))), .val (.long ((p2 &&& (3 : Int64)) - (1 : Int64))), .second, .val (.long xv), .second, .val (.int (1 : Int32))] [(.long xv), (.ref aINT32)])) t) => k151 t (by
            refine XS.ifNo X133.here hx rfl (hb hby at_257) rfl ((if0 _ _).trans (flt (fun q => hc257_152 ((lw_gt xv (2147483647 : Int64)).mp q))).2.2.1) ?_
            show Steps p.tables e below (T133.setTop (mkF m 260 #[.val (.int p1), .val (.long p2), .second, .val (.int p3), .val (.int (p1 &&& (7 : Int32))), .val (.ref aINT32), .val (.long (-2147483648 : Int64)), .second, .val (.long (2147483647 : Int64)), .second, .val (.int (p3 &&& (3 : Int32))), .val (.long ((p2 &&& (3 : Int64)) - (1 : Int64))), .second, .val (.long xv), .second, .unset] [])) _
            refine XS.iconst X133.here hx rfl (hb hby at_260) ?_
            show Steps p.tables e below (T133.setTop (mkF m 261 #[.val (.int p1), .val (.long p2), .second, .val (.int p3), .val (.int (p1 &&& (7 : Int32))), .val (.ref aINT32), .val (.long (-2147483648 : Int64)), .second, .val (.long (2147483647 : Int64)), .second, .val (.int (p3 &&& (3 : Int32))), .val (.long ((p2 &&& (3 : Int64)) - (1 : Int64))), .second, .val (.long xv), .second, .unset] [(.int (1 : Int32))])) _
            refine XS.goto X133.here hx rfl (pc0 := 261) (pc' := 265) rfl (hb hby at_261) (by decide) (by decide) ?_
            show Steps p.tables e below (T133.setTop (mkF m 265 #[.val (.int p1), .val (.long p2), .second, .val (.int p3), .val (.int (p1 &&& (7 : Int32))), .val (.ref aINT32), .val (.long (-2147483648 : Int64)), .second, .val (.long (2147483647 : Int64)), .second, .val (.int (p3 &&& (3 : Int32))), .val (.long ((p2 &&& (3 : Int64)) - (1 : Int64))), .second, .val (.long xv), .second, .unset] [(.int (1 : Int32))])) _
            refine XS.istore X133.here hx rfl (hb hby at_265) rfl (l' := #[.val (.int p1), .val (.long p2), .second, .val (.int p3), .val (.int (p1 &&& (7 : Int32))), .val (.ref aINT32), .val (.long (-2147483648 : Int64)), .second, .val (.long (2147483647 : Int64)), .second, .val (.int (p3 &&& (3 : Int32))), .val (.long ((p2 &&& (3 : Int64)) - (1 : Int64))), .second, .val (.long xv), .second, .val (.int (1 : Int32))]) rfl ?_
            show Steps p.tables e below (T133.setTop (mkF m 267 #[.val (.int p1), .val (.long p2), .second, .val (.int p3), .val (.int (p1 &&& (7 : Int32))), .val (.ref aINT32), .val (.long (-2147483648 : Int64)), .second, .val (.long (2147483647 : Int64)), .second, .val (.int (p3 &&& (3 : Int32))), .val (.long ((p2 &&& (3 : Int64)) - (1 : Int64))), .second, .val (.long xv), .second, .val (.int (1 : Int32))] [])) _
            refine XS.aload X133.here hx rfl (hb hby at_267) rfl rfl ?_
            show Steps p.tables e below (T133.setTop (mkF m 269 #[.val (.int p1), .val (.long p2), .second, .val (.int p3), .val (.int (p1 &&& (7 : Int32))), .val (.ref aINT32), .val (.long (-2147483648 : Int64)), .second, .val (.long (2147483647 : Int64)), .second, .val (.int (p3 &&& (3 : Int32))), .val (.long ((p2 &&& (3 : Int64)) - (1 : Int64))), .second, .val (.long xv), .second, .val (.int (1 : Int32))] [(.ref aINT32)])) _
            refine XS.lload X133.here hx rfl (hb hby at_269) rfl ?_
            show Steps p.tables e below (T133.setTop (mkF m 271 #[.val (.int p1), .val (.long p2), .second, .val (.int p3), .val (.int (p1 &&& (7 : Int32))), .val (.ref aINT32), .val (.long (-2147483648 : Int64)), .second, .val (.long (2147483647 : Int64)), .second, .val (.int (p3 &&& (3 : Int32))), .val (.long ((p2 &&& (3 : Int64)) - (1 : Int64))), .second, .val (.long xv), .second, .val (.int (1 : Int32))] [(.long xv), (.ref aINT32)])) _
            exact kt)
          obtain ⟨cq158, kq158, q158a, q158b, q158c⟩ := isOf hZ e133 (E_INT32.ext O0.2)
          obtain ⟨_, _, ⟨T158, L158, k158, n158⟩, -, X158, ⟨Lc158, hQ158, l158, y158, z158⟩, st158⟩ := X133.virtualBack hx (y := (⟨"com/example/tightwire/tightwire/Kind", "holds", "(J)Z"⟩ : MethodName)) (z := (⟨"com/example/tightwire/tightwire/Kind", "holds", "(J)Z"⟩ : MethodName)) hown (mvT hZ (hw _ (List.mem_of_getElem? (i := 6) rfl))) (mvT hZ (hw _ (List.mem_of_getElem? (i := 7) rfl))) (notFace_of_selects (args := #[]) (mvT hZ (hw _ (List.mem_of_getElem? (i := 9) rfl)))) (mvT hZ (hw _ (List.mem_of_getElem? (i := 9) rfl))) (mvT hZ (hw _ (List.mem_of_getElem? (i := 8) rfl))) (by decide) (backOf (W := 0) (rm1 l Z a0 hw [] aINT32 xv (1 : Int32) (32 : Int32) h0 n0 O0 (F_INT32_signed.ext O0.2) (F_INT32_bits.ext O0.2)) hZ (hw _ (List.mem_of_getElem? (i := 10) rfl)) (hw _ (List.mem_of_getElem? (i := 1) rfl)) (by decide) (by decide)) q158a q158c (g := (mkF m 271 #[.val (.int p1), .val (.long p2), .second, .val (.int p3), .val (.int (p1 &&& (7 : Int32))), .val (.ref aINT32), .val (.long (-2147483648 : Int64)), .second, .val (.long (2147483647 : Int64)), .second, .val (.int (p3 &&& (3 : Int32))), .val (.long ((p2 &&& (3 : Int64)) - (1 : Int64))), .second, .val (.long xv), .second, .val (.int (1 : Int32))] [(.long xv), (.ref aINT32)])) rfl (by rw [hml]; rfl) (Steps.refl _) (argsL := [(.long xv)]) (rest := []) (lenOf pd_0 rfl) rfl (by show 2 * 0 + _ ≤ _; exact Nat.le_of_eq rfl) (hb hby at_271) (fun _ _ => ⟨rfl, e133, (by decide : 0 + 0 ≤ _), (by decide : 0 + 0 ≤ _)⟩)
          dsimp only [Pt.U, Pt.locs, Pt.cells, Pt.slots] at X158 l158 y158 z158 st158 hQ158
          subst l158 y158 z158
          obtain ⟨rfl, Nq158, eh158⟩ := hQ158
          have N158 := Fr.app N0 Nq158
          have k159 := fun (t : State) (kt : Steps p.tables e below (T158.setTop (mkF m 276 #[.val (.int p1), .val (.long p2), .second, .val (.int p3), .val (.int (p1 &&& (7 : Int32))), .val (.ref aINT32), .val (.long (-2147483648 : Int64)), .second, .val (.long (2147483647 : Int64)), .second, .val (.int (p3 &&& (3 : Int32))), .val (.long ((p2 &&& (3 : Int64)) - (1 : Int64))), .second, .val (.long xv), .second, .val (.int (1 : Int32))] [(.int (1 : Int32)), (.int (own_holds (1 : Int32) (32 : Int32) xv))])) t) => k157 t (by
            refine st158.trans ?_
            show Steps p.tables e below (T158.setTop (mkF m 274 #[.val (.int p1), .val (.long p2), .second, .val (.int p3), .val (.int (p1 &&& (7 : Int32))), .val (.ref aINT32), .val (.long (-2147483648 : Int64)), .second, .val (.long (2147483647 : Int64)), .second, .val (.int (p3 &&& (3 : Int32))), .val (.long ((p2 &&& (3 : Int64)) - (1 : Int64))), .second, .val (.long xv), .second, .val (.int (1 : Int32))] [(.int (own_holds (1 : Int32) (32 : Int32) xv))])) _
            refine XS.iload X158.here hx rfl (hb hby at_274) rfl ?_
            show Steps p.tables e below (T158.setTop (mkF m 276 #[.val (.int p1), .val (.long p2), .second, .val (.int p3), .val (.int (p1 &&& (7 : Int32))), .val (.ref aINT32), .val (.long (-2147483648 : Int64)), .second, .val (.long (2147483647 : Int64)), .second, .val (.int (p3 &&& (3 : Int32))), .val (.long ((p2 &&& (3 : Int64)) - (1 : Int64))), .second, .val (.long xv), .second, .val (.int (1 : Int32))] [(.int (1 : Int32)), (.int (own_holds (1 : Int32) (32 : Int32) xv))])) _
            exact kt)
          have k160 := fun (t : State) (kt : Steps p.tables e below (T158.setTop (mkF m 284 #[.val (.int p1), .val (.long p2), .second, .val (.int p3), .val (.int (p1 &&& (7 : Int32))), .val (.ref aINT32), .val (.long (-2147483648 : Int64)), .second, .val (.long (2147483647 : Int64)), .second, .val (.int (p3 &&& (3 : Int32))), .val (.long ((p2 &&& (3 : Int64)) - (1 : Int64))), .second, .val (.long xv), .second, .val (.int (1 : Int32))] [(.int (1 : Int32))])) t) => k159 t (by
            refine XS.icmpNo X158.here hx rfl (hb hby at_276) rfl (teq (own_in_INT32 hc249_146 hc257_152)).2 ?_
            show Steps p.tables e below (T158.setTop (mkF m 279 #[.val (.int p1), .val (.long p2), .second, .val (.int p3), .val (.int (p1 &&& (7 : Int32))), .val (.ref aINT32), .val (.long (-2147483648 : Int64)), .second, .val (.long (2147483647 : Int64)), .second, .val (.int (p3 &&& (3 : Int32))), .val (.long ((p2 &&& (3 : Int64)) - (1 : Int64))), .second, .val (.long xv), .second, .val (.int (1 : Int32))] [])) _
            refine XS.iconst X158.here hx rfl (hb hby at_279) ?_
            show Steps p.tables e below (T158.setTop (mkF m 280 #[.val (.int p1), .val (.long p2), .second, .val (.int p3), .val (.int (p1 &&& (7 : Int32))), .val (.ref aINT32), .val (.long (-2147483648 : Int64)), .second, .val (.long (2147483647 : Int64)), .second, .val (.int (p3 &&& (3 : Int32))), .val (.long ((p2 &&& (3 : Int64)) - (1 : Int64))), .second, .val (.long xv), .second, .val (.int (1 : Int32))] [(.int (1 : Int32))])) _
            refine XS.goto X158.here hx rfl (pc0 := 280) (pc' := 284) rfl (hb hby at_280) (by decide) (by decide) ?_
            show Steps p.tables e below (T158.setTop (mkF m 284 #[.val (.int p1), .val (.long p2), .second, .val (.int p3), .val (.int (p1 &&& (7 : Int32))), .val (.ref aINT32), .val (.long (-2147483648 : Int64)), .second, .val (.long (2147483647 : Int64)), .second, .val (.int (p3 &&& (3 : Int32))), .val (.long ((p2 &&& (3 : Int64)) - (1 : Int64))), .second, .val (.long xv), .second, .val (.int (1 : Int32))] [(.int (1 : Int32))])) _
            exact kt)
          obtain ⟨fs, hr, hrun, hended, hW, hsame⟩ := X158.leave (v := some (.int (1 : Int32))) (fun h => by rw [Bd.returns] at h; cases h)
          refine ⟨_, _, k160 _ ?_, hrun, hended, _, _, rfl, ?_, ⟨_, rfl⟩, hW, hsame.mono (by decide) (by decide)⟩
          · exact retN X158 hx (t := .boolean) Bd.returns (by simp) (hb hby at_284) hr
          · show Q0 n0 _ T158.heap _
            rw [eh158]
            exact ⟨rfl, N158⟩
  · have k161 := fun (t : State) (kt : Steps p.tables e below (s₁.setTop (mkF m 8 #[.val (.int p1), .val (.long p2), .second, .val (.int p3), .val (.int (p1 &&& (7 : Int32))), .unset, .unset, .unset, .unset, .unset, .unset, .unset, .unset, .unset, .unset, .unset] [(.int (p1 &&& (7 : Int32)))])) t) => pre0 t (by
      refine XS.iloadN X0.here hx rfl (hb hby at_0) rfl ?_
      show Steps p.tables e below (s₁.setTop (mkF m 1 #[.val (.int p1), .val (.long p2), .second, .val (.int p3), .unset, .unset, .unset, .unset, .unset, .unset, .unset, .unset, .unset, .unset, .unset, .unset] [(.int p1)])) _
      refine XS.bipush X0.here hx rfl (hb hby at_1) ?_
      show Steps p.tables e below (s₁.setTop (mkF m 3 #[.val (.int p1), .val (.long p2), .second, .val (.int p3), .unset, .unset, .unset, .unset, .unset, .unset, .unset, .unset, .unset, .unset, .unset, .unset] [(.int (7 : Int32)), (.int p1)])) _
      refine XS.iand X0.here hx rfl (hb hby at_3) rfl ?_
      show Steps p.tables e below (s₁.setTop (mkF m 4 #[.val (.int p1), .val (.long p2), .second, .val (.int p3), .unset, .unset, .unset, .unset, .unset, .unset, .unset, .unset, .unset, .unset, .unset, .unset] [(.int (p1 &&& (7 : Int32)))])) _
      refine XS.istore X0.here hx rfl (hb hby at_4) rfl (l' := #[.val (.int p1), .val (.long p2), .second, .val (.int p3), .val (.int (p1 &&& (7 : Int32))), .unset, .unset, .unset, .unset, .unset, .unset, .unset, .unset, .unset, .unset, .unset]) rfl ?_
      show Steps p.tables e below (s₁.setTop (mkF m 6 #[.val (.int p1), .val (.long p2), .second, .val (.int p3), .val (.int (p1 &&& (7 : Int32))), .unset, .unset, .unset, .unset, .unset, .unset, .unset, .unset, .unset, .unset, .unset] [])) _
      refine XS.iload X0.here hx rfl (hb hby at_6) rfl ?_
      show Steps p.tables e below (s₁.setTop (mkF m 8 #[.val (.int p1), .val (.long p2), .second, .val (.int p3), .val (.int (p1 &&& (7 : Int32))), .unset, .unset, .unset, .unset, .unset, .unset, .unset, .unset, .unset, .unset, .unset] [(.int (p1 &&& (7 : Int32)))])) _
      exact kt)
    have k162 := fun (t : State) (kt : Steps p.tables e below (s₁.setTop (mkF m 32 #[.val (.int p1), .val (.long p2), .second, .val (.int p3), .val (.int (p1 &&& (7 : Int32))), .unset, .unset, .unset, .unset, .unset, .unset, .unset, .unset, .unset, .unset, .unset] [(.int (1 : Int32)), (.int (p1 &&& (7 : Int32)))])) t) => k161 t (by
      refine XS.ifYes X0.here hx rfl (pc0 := 8) (pc' := 29) rfl (hb hby at_8) rfl ((if0 _ _).trans (feq (by rw [hk]; decide)).2) (by decide) (by decide) ?_
      show Steps p.tables e below (s₁.setTop (mkF m 29 #[.val (.int p1), .val (.long p2), .second, .val (.int p3), .val (.int (p1 &&& (7 : Int32))), .unset, .unset, .unset, .unset, .unset, .unset, .unset, .unset, .unset, .unset, .unset] [])) _
      refine XS.iload X0.here hx rfl (hb hby at_29) rfl ?_
      show Steps p.tables e below (s₁.setTop (mkF m 31 #[.val (.int p1), .val (.long p2), .second, .val (.int p3), .val (.int (p1 &&& (7 : Int32))), .unset, .unset, .unset, .unset, .unset, .unset, .unset, .unset, .unset, .unset, .unset] [(.int (p1 &&& (7 : Int32)))])) _
      refine XS.iconst X0.here hx rfl (hb hby at_31) ?_
      show Steps p.tables e below (s₁.setTop (mkF m 32 #[.val (.int p1), .val (.long p2), .second, .val (.int p3), .val (.int (p1 &&& (7 : Int32))), .unset, .unset, .unset, .unset, .unset, .unset, .unset, .unset, .unset, .unset, .unset] [(.int (1 : Int32)), (.int (p1 &&& (7 : Int32)))])) _
      exact kt)
    have k163 := fun (t : State) (kt : Steps p.tables e below (s₁.setTop (mkF m 54 #[.val (.int p1), .val (.long p2), .second, .val (.int p3), .val (.int (p1 &&& (7 : Int32))), .unset, .unset, .unset, .unset, .unset, .unset, .unset, .unset, .unset, .unset, .unset] [(.int (2 : Int32)), (.int (p1 &&& (7 : Int32)))])) t) => k162 t (by
      refine XS.icmpYes X0.here hx rfl (pc0 := 32) (pc' := 51) rfl (hb hby at_32) rfl (feq (by rw [hk]; decide)).2 (by decide) (by decide) ?_
      show Steps p.tables e below (s₁.setTop (mkF m 51 #[.val (.int p1), .val (.long p2), .second, .val (.int p3), .val (.int (p1 &&& (7 : Int32))), .unset, .unset, .unset, .unset, .unset, .unset, .unset, .unset, .unset, .unset, .unset] [])) _
      refine XS.iload X0.here hx rfl (hb hby at_51) rfl ?_
      show Steps p.tables e below (s₁.setTop (mkF m 53 #[.val (.int p1), .val (.long p2), .second, .val (.int p3), .val (.int (p1 &&& (7 : Int32))), .unset, .unset, .unset, .unset, .unset, .unset, .unset, .unset, .unset, .unset, .unset] [(.int (p1 &&& (7 : Int32)))])) _
      refine XS.iconst X0.here hx rfl (hb hby at_53) ?_
      show Steps p.tables e below (s₁.setTop (mkF m 54 #[.val (.int p1), .val (.long p2), .second, .val (.int p3), .val (.int (p1 &&& (7 : Int32))), .unset, .unset, .unset, .unset, .unset, .unset, .unset, .unset, .unset, .unset, .unset] [(.int (2 : Int32)), (.int (p1 &&& (7 : Int32)))])) _
      exact kt)
    have k164 := fun (t : State) (kt : Steps p.tables e below (s₁.setTop (mkF m 78 #[.val (.int p1), .val (.long p2), .second, .val (.int p3), .val (.int (p1 &&& (7 : Int32))), .unset, .unset, .unset, .unset, .unset, .unset, .unset, .unset, .unset, .unset, .unset] [(.int (3 : Int32)), (.int (p1 &&& (7 : Int32)))])) t) => k163 t (by
      refine XS.icmpYes X0.here hx rfl (pc0 := 54) (pc' := 75) rfl (hb hby at_54) rfl (feq (by rw [hk]; decide)).2 (by decide) (by decide) ?_
      show Steps p.tables e below (s₁.setTop (mkF m 75 #[.val (.int p1), .val (.long p2), .second, .val (.int p3), .val (.int (p1 &&& (7 : Int32))), .unset, .unset, .unset, .unset, .unset, .unset, .unset, .unset, .unset, .unset, .unset] [])) _
      refine XS.iload X0.here hx rfl (hb hby at_75) rfl ?_
      show Steps p.tables e below (s₁.setTop (mkF m 77 #[.val (.int p1), .val (.long p2), .second, .val (.int p3), .val (.int (p1 &&& (7 : Int32))), .unset, .unset, .unset, .unset, .unset, .unset, .unset, .unset, .unset, .unset, .unset] [(.int (p1 &&& (7 : Int32)))])) _
      refine XS.iconst X0.here hx rfl (hb hby at_77) ?_
      show Steps p.tables e below (s₁.setTop (mkF m 78 #[.val (.int p1), .val (.long p2), .second, .val (.int p3), .val (.int (p1 &&& (7 : Int32))), .unset, .unset, .unset, .unset, .unset, .unset, .unset, .unset, .unset, .unset, .unset] [(.int (3 : Int32)), (.int (p1 &&& (7 : Int32)))])) _
      exact kt)
    have k165 := fun (t : State) (kt : Steps p.tables e below (s₁.setTop (mkF m 100 #[.val (.int p1), .val (.long p2), .second, .val (.int p3), .val (.int (p1 &&& (7 : Int32))), .unset, .unset, .unset, .unset, .unset, .unset, .unset, .unset, .unset, .unset, .unset] [(.int (4 : Int32)), (.int (p1 &&& (7 : Int32)))])) t) => k164 t (by
      refine XS.icmpYes X0.here hx rfl (pc0 := 78) (pc' := 97) rfl (hb hby at_78) rfl (feq (by rw [hk]; decide)).2 (by decide) (by decide) ?_
      show Steps p.tables e below (s₁.setTop (mkF m 97 #[.val (.int p1), .val (.long p2), .second, .val (.int p3), .val (.int (p1 &&& (7 : Int32))), .unset, .unset, .unset, .unset, .unset, .unset, .unset, .unset, .unset, .unset, .unset] [])) _
      refine XS.iload X0.here hx rfl (hb hby at_97) rfl ?_
      show Steps p.tables e below (s₁.setTop (mkF m 99 #[.val (.int p1), .val (.long p2), .second, .val (.int p3), .val (.int (p1 &&& (7 : Int32))), .unset, .unset, .unset, .unset, .unset, .unset, .unset, .unset, .unset, .unset, .unset] [(.int (p1 &&& (7 : Int32)))])) _
      refine XS.iconst X0.here hx rfl (hb hby at_99) ?_
      show Steps p.tables e below (s₁.setTop (mkF m 100 #[.val (.int p1), .val (.long p2), .second, .val (.int p3), .val (.int (p1 &&& (7 : Int32))), .unset, .unset, .unset, .unset, .unset, .unset, .unset, .unset, .unset, .unset, .unset] [(.int (4 : Int32)), (.int (p1 &&& (7 : Int32)))])) _
      exact kt)
    have k166 := fun (t : State) (kt : Steps p.tables e below (s₁.setTop (mkF m 124 #[.val (.int p1), .val (.long p2), .second, .val (.int p3), .val (.int (p1 &&& (7 : Int32))), .unset, .unset, .unset, .unset, .unset, .unset, .unset, .unset, .unset, .unset, .unset] [(.int (5 : Int32)), (.int (p1 &&& (7 : Int32)))])) t) => k165 t (by
      refine XS.icmpYes X0.here hx rfl (pc0 := 100) (pc' := 121) rfl (hb hby at_100) rfl (feq (by rw [hk]; decide)).2 (by decide) (by decide) ?_
      show Steps p.tables e below (s₁.setTop (mkF m 121 #[.val (.int p1), .val (.long p2), .second, .val (.int p3), .val (.int (p1 &&& (7 : Int32))), .unset, .unset, .unset, .unset, .unset, .unset, .unset, .unset, .unset, .unset, .unset] [])) _
      refine XS.iload X0.here hx rfl (hb hby at_121) rfl ?_
      show Steps p.tables e below (s₁.setTop (mkF m 123 #[.val (.int p1), .val (.long p2), .second, .val (.int p3), .val (.int (p1 &&& (7 : Int32))), .unset, .unset, .unset, .unset, .unset, .unset, .unset, .unset, .unset, .unset, .unset] [(.int (p1 &&& (7 : Int32)))])) _
      refine XS.iconst X0.here hx rfl (hb hby at_123) ?_
      show Steps p.tables e below (s₁.setTop (mkF m 124 #[.val (.int p1), .val (.long p2), .second, .val (.int p3), .val (.int (p1 &&& (7 : Int32))), .unset, .unset, .unset, .unset, .unset, .unset, .unset, .unset, .unset, .unset, .unset] [(.int (5 : Int32)), (.int (p1 &&& (7 : Int32)))])) _
      exact kt)
    have k167 := fun (t : State) (kt : Steps p.tables e below (s₁.setTop (mkF m 127 #[.val (.int p1), .val (.long p2), .second, .val (.int p3), .val (.int (p1 &&& (7 : Int32))), .unset, .unset, .unset, .unset, .unset, .unset, .unset, .unset, .unset, .unset, .unset] [])) t) => k166 t (by
      refine XS.icmpNo X0.here hx rfl (hb hby at_124) rfl (teq hk).2 ?_
      show Steps p.tables e below (s₁.setTop (mkF m 127 #[.val (.int p1), .val (.long p2), .second, .val (.int p3), .val (.int (p1 &&& (7 : Int32))), .unset, .unset, .unset, .unset, .unset, .unset, .unset, .unset, .unset, .unset, .unset] [])) _
      exact kt)
    obtain ⟨T168, X168, e168, st168⟩ := getS2 X0 hx hZ hown (host := "") (Or.inl (hw _ (List.mem_of_getElem? (i := 35) rfl))) Via.refl e0 (S_UINT32.ext O0.2) (g := (mkF m 127 #[.val (.int p1), .val (.long p2), .second, .val (.int p3), .val (.int (p1 &&& (7 : Int32))), .unset, .unset, .unset, .unset, .unset, .unset, .unset, .unset, .unset, .unset, .unset] [])) rfl (hb hby at_127)
    have k169 := fun (t : State) (kt : Steps p.tables e below (T168.setTop (mkF m 181 #[.val (.int p1), .val (.long p2), .second, .val (.int p3), .val (.int (p1 &&& (7 : Int32))), .val (.ref aUINT32), .val (.long (0 : Int64)), .second, .val (.long (4294967295 : Int64)), .second, .unset, .unset, .unset, .unset, .unset, .unset] [])) t) => k167 t (by
      refine st168 _ ?_
      show Steps p.tables e below (T168.setTop (mkF m 130 #[.val (.int p1), .val (.long p2), .second, .val (.int p3), .val (.int (p1 &&& (7 : Int32))), .unset, .unset, .unset, .unset, .unset, .unset, .unset, .unset, .unset, .unset, .unset] [(.ref aUINT32)])) _
      refine XS.astore X168.here hx rfl (hb hby at_130) rfl rfl (l' := #[.val (.int p1), .val (.long p2), .second, .val (.int p3), .val (.int (p1 &&& (7 : Int32))), .val (.ref aUINT32), .unset, .unset, .unset, .unset, .unset, .unset, .unset, .unset, .unset, .unset]) rfl ?_
      show Steps p.tables e below (T168.setTop (mkF m 132 #[.val (.int p1), .val (.long p2), .second, .val (.int p3), .val (.int (p1 &&& (7 : Int32))), .val (.ref aUINT32), .unset, .unset, .unset, .unset, .unset, .unset, .unset, .unset, .unset, .unset] [])) _
      refine XS.lconst X168.here hx rfl (hb hby at_132) ?_
      show Steps p.tables e below (T168.setTop (mkF m 133 #[.val (.int p1), .val (.long p2), .second, .val (.int p3), .val (.int (p1 &&& (7 : Int32))), .val (.ref aUINT32), .unset, .unset, .unset, .unset, .unset, .unset, .unset, .unset, .unset, .unset] [(.long (0 : Int64))])) _
      refine XS.lstore X168.here hx rfl (hb hby at_133) rfl (l' := #[.val (.int p1), .val (.long p2), .second, .val (.int p3), .val (.int (p1 &&& (7 : Int32))), .val (.ref aUINT32), .val (.long (0 : Int64)), .second, .unset, .unset, .unset, .unset, .unset, .unset, .unset, .unset]) rfl ?_
      show Steps p.tables e below (T168.setTop (mkF m 135 #[.val (.int p1), .val (.long p2), .second, .val (.int p3), .val (.int (p1 &&& (7 : Int32))), .val (.ref aUINT32), .val (.long (0 : Int64)), .second, .unset, .unset, .unset, .unset, .unset, .unset, .unset, .unset] [])) _
      refine X168.ldc2Long hx hown (mvT hZ (hw _ (List.mem_of_getElem? (i := 37) rfl))) (g := (mkF m 135 #[.val (.int p1), .val (.long p2), .second, .val (.int p3), .val (.int (p1 &&& (7 : Int32))), .val (.ref aUINT32), .val (.long (0 : Int64)), .second, .unset, .unset, .unset, .unset, .unset, .unset, .unset, .unset] [])) rfl (hb hby at_135) _ ?_
      show Steps p.tables e below (T168.setTop (mkF m 138 #[.val (.int p1), .val (.long p2), .second, .val (.int p3), .val (.int (p1 &&& (7 : Int32))), .val (.ref aUINT32), .val (.long (0 : Int64)), .second, .unset, .unset, .unset, .unset, .unset, .unset, .unset, .unset] [(.long (4294967295 : Int64))])) _
      refine XS.lstore X168.here hx rfl (hb hby at_138) rfl (l' := #[.val (.int p1), .val (.long p2), .second, .val (.int p3), .val (.int (p1 &&& (7 : Int32))), .val (.ref aUINT32), .val (.long (0 : Int64)), .second, .val (.long (4294967295 : Int64)), .second, .unset, .unset, .unset, .unset, .unset, .unset]) rfl ?_
      show Steps p.tables e below (T168.setTop (mkF m 140 #[.val (.int p1), .val (.long p2), .second, .val (.int p3), .val (.int (p1 &&& (7 : Int32))), .val (.ref aUINT32), .val (.long (0 : Int64)), .second, .val (.long (4294967295 : Int64)), .second, .unset, .unset, .unset, .unset, .unset, .unset] [])) _
      refine XS.goto X168.here hx rfl (pc0 := 140) (pc' := 181) rfl (hb hby at_140) (by decide) (by decide) ?_
      show Steps p.tables e below (T168.setTop (mkF m 181 #[.val (.int p1), .val (.long p2), .second, .val (.int p3), .val (.int (p1 &&& (7 : Int32))), .val (.ref aUINT32), .val (.long (0 : Int64)), .second, .val (.long (4294967295 : Int64)), .second, .unset, .unset, .unset, .unset, .unset, .unset] [])) _
      exact kt)
    refine cps (A := ∃ xv : Int64, ∀ t, Steps p.tables e below (T168.setTop (mkF m 244 #[.val (.int p1), .val (.long p2), .second, .val (.int p3), .val (.int (p1 &&& (7 : Int32))), .val (.ref aUINT32), .val (.long (0 : Int64)), .second, .val (.long (4294967295 : Int64)), .second, .val (.int (p3 &&& (3 : Int32))), .val (.long ((p2 &&& (3 : Int64)) - (1 : Int64))), .second, .val (.long xv), .second, .unset] [])) t → Steps p.tables e below (s₁.setTop (entryFrame m #[(.int p1), (.long p2), (.int p3)] maxLocals)) t) ?_ ?_
    · intro join
      have k170 := fun (t : State) (kt : Steps p.tables e below (T168.setTop (mkF m 197 #[.val (.int p1), .val (.long p2), .second, .val (.int p3), .val (.int (p1 &&& (7 : Int32))), .val (.ref aUINT32), .val (.long (0 : Int64)), .second, .val (.long (4294967295 : Int64)), .second, .val (.int (p3 &&& (3 : Int32))), .val (.long ((p2 &&& (3 : Int64)) - (1 : Int64))), .second, .unset, .unset, .unset] [(.int (p3 &&& (3 : Int32)))])) t) => k169 t (by
        refine XS.iloadN X168.here hx rfl (hb hby at_181) rfl ?_
        show Steps p.tables e below (T168.setTop (mkF m 182 #[.val (.int p1), .val (.long p2), .second, .val (.int p3), .val (.int (p1 &&& (7 : Int32))), .val (.ref aUINT32), .val (.long (0 : Int64)), .second, .val (.long (4294967295 : Int64)), .second, .unset, .unset, .unset, .unset, .unset, .unset] [(.int p3)])) _
        refine XS.iconst X168.here hx rfl (hb hby at_182) ?_
        show Steps p.tables e below (T168.setTop (mkF m 183 #[.val (.int p1), .val (.long p2), .second, .val (.int p3), .val (.int (p1 &&& (7 : Int32))), .val (.ref aUINT32), .val (.long (0 : Int64)), .second, .val (.long (4294967295 : Int64)), .second, .unset, .unset, .unset, .unset, .unset, .unset] [(.int (3 : Int32)), (.int p3)])) _
        refine XS.iand X168.here hx rfl (hb hby at_183) rfl ?_
        show Steps p.tables e below (T168.setTop (mkF m 184 #[.val (.int p1), .val (.long p2), .second, .val (.int p3), .val (.int (p1 &&& (7 : Int32))), .val (.ref aUINT32), .val (.long (0 : Int64)), .second, .val (.long (4294967295 : Int64)), .second, .unset, .unset, .unset, .unset, .unset, .unset] [(.int (p3 &&& (3 : Int32)))])) _
        refine XS.istore X168.here hx rfl (hb hby at_184) rfl (l' := #[.val (.int p1), .val (.long p2), .second, .val (.int p3), .val (.int (p1 &&& (7 : Int32))), .val (.ref aUINT32), .val (.long (0 : Int64)), .second, .val (.long (4294967295 : Int64)), .second, .val (.int (p3 &&& (3 : Int32))), .unset, .unset, .unset, .unset, .unset]) rfl ?_
        show Steps p.tables e below (T168.setTop (mkF m 186 #[.val (.int p1), .val (.long p2), .second, .val (.int p3), .val (.int (p1 &&& (7 : Int32))), .val (.ref aUINT32), .val (.long (0 : Int64)), .second, .val (.long (4294967295 : Int64)), .second, .val (.int (p3 &&& (3 : Int32))), .unset, .unset, .unset, .unset, .unset] [])) _
        refine XS.lloadN X168.here hx rfl (hb hby at_186) rfl ?_
        show Steps p.tables e below (T168.setTop (mkF m 187 #[.val (.int p1), .val (.long p2), .second, .val (.int p3), .val (.int (p1 &&& (7 : Int32))), .val (.ref aUINT32), .val (.long (0 : Int64)), .second, .val (.long (4294967295 : Int64)), .second, .val (.int (p3 &&& (3 : Int32))), .unset, .unset, .unset, .unset, .unset] [(.long p2)])) _
        refine X168.ldc2Long hx hown (mvT hZ (hw _ (List.mem_of_getElem? (i := 5) rfl))) (g := (mkF m 187 #[.val (.int p1), .val (.long p2), .second, .val (.int p3), .val (.int (p1 &&& (7 : Int32))), .val (.ref aUINT32), .val (.long (0 : Int64)), .second, .val (.long (4294967295 : Int64)), .second, .val (.int (p3 &&& (3 : Int32))), .unset, .unset, .unset, .unset, .unset] [(.long p2)])) rfl (hb hby at_187) _ ?_
        show Steps p.tables e below (T168.setTop (mkF m 190 #[.val (.int p1), .val (.long p2), .second, .val (.int p3), .val (.int (p1 &&& (7 : Int32))), .val (.ref aUINT32), .val (.long (0 : Int64)), .second, .val (.long (4294967295 : Int64)), .second, .val (.int (p3 &&& (3 : Int32))), .unset, .unset, .unset, .unset, .unset] [(.long (3 : Int64)), (.long p2)])) _
        refine XS.land X168.here hx rfl (hb hby at_190) rfl ?_
        show Steps p.tables e below (T168.setTop (mkF m 191 #[.val (.int p1), .val (.long p2), .second, .val (.int p3), .val (.int (p1 &&& (7 : Int32))), .val (.ref aUINT32), .val (.long (0 : Int64)), .second, .val (.long (4294967295 : Int64)), .second, .val (.int (p3 &&& (3 : Int32))), .unset, .unset, .unset, .unset, .unset] [(.long (p2 &&& (3 : Int64)))])) _
        refine XS.lconst X168.here hx rfl (hb hby at_191) ?_
        show Steps p.tables e below (T168.setTop (mkF m 192 #[.val (.int p1), .val (.long p2), .second, .val (.int p3), .val (.int (p1 &&& (7 : Int32))), .val (.ref aUINT32), .val (.long (0 : Int64)), .second, .val (.long (4294967295 : Int64)), .second, .val (.int (p3 &&& (3 : Int32))), .unset, .unset, .unset, .unset, .unset] [(.long (1 : Int64)), (.long (p2 &&& (3 : Int64)))])) _
        refine XS.lsub X168.here hx rfl (hb hby at_192) rfl ?_
        show Steps p.tables e below (T168.setTop (mkF m 193 #[.val (.int p1), .val (.long p2), .second, .val (.int p3), .val (.int (p1 &&& (7 : Int32))), .val (.ref aUINT32), .val (.long (0 : Int64)), .second, .val (.long (4294967295 : Int64)), .second, .val (.int (p3 &&& (3 : Int32))), .unset, .unset, .unset, .unset, .unset] [(.long ((p2 &&& (3 : Int64)) - (1 : Int64)))])) _
        refine XS.lstore X168.here hx rfl (hb hby at_193) rfl (l' := #[.val (.int p1), .val (.long p2), .second, .val (.int p3), .val (.int (p1 &&& (7 : Int32))), .val (.ref aUINT32), .val (.long (0 : Int64)), .second, .val (.long (4294967295 : Int64)), .second, .val (.int (p3 &&& (3 : Int32))), .val (.long ((p2 &&& (3 : Int64)) - (1 : Int64))), .second, .unset, .unset, .unset]) rfl ?_
        show Steps p.tables e below (T168.setTop (mkF m 195 #[.val (.int p1), .val (.long p2), .second, .val (.int p3), .val (.int (p1 &&& (7 : Int32))), .val (.ref aUINT32), .val (.long (0 : Int64)), .second, .val (.long (4294967295 : Int64)), .second, .val (.int (p3 &&& (3 : Int32))), .val (.long ((p2 &&& (3 : Int64)) - (1 : Int64))), .second, .unset, .unset, .unset] [])) _
        refine XS.iload X168.here hx rfl (hb hby at_195) rfl ?_
        show Steps p.tables e below (T168.setTop (mkF m 197 #[.val (.int p1), .val (.long p2), .second, .val (.int p3), .val (.int (p1 &&& (7 : Int32))), .val (.ref aUINT32), .val (.long (0 : Int64)), .second, .val (.long (4294967295 : Int64)), .second, .val (.int (p3 &&& (3 : Int32))), .val (.long ((p2 &&& (3 : Int64)) - (1 : Int64))), .second, .unset, .unset, .unset] [(.int (p3 &&& (3 : Int32)))])) _
        exact kt)
      by_cases hc197_171 : (p3 &&& (3 : Int32)) = (0 : Int32)
      · have k172 := fun (t : State) (kt : Steps p.tables e below (T168.setTop (mkF m 244 #[.val (.int p1), .val (.long p2), .second, .val (.int p3), .val (.int (p1 &&& (7 : Int32))), .val (.ref aUINT32), .val (.long (0 : Int64)), .second, .val (.long (4294967295 : Int64)), .second, .val (.int (p3 &&& (3 : Int32))), .val (.long ((p2 &&& (3 : Int64)) - (1 : Int64))), .second, .val (.long p2), .second, .unset] [])) t) => k170 t (by
          refine XS.ifNo X168.here hx rfl (hb hby at_197) rfl ((if0 _ _).trans (teq hc197_171).2) ?_
          show Steps p.tables e below (T168.setTop (mkF m 200 #[.val (.int p1), .val (.long p2), .second, .val (.int p3), .val (.int (p1 &&& (7 : Int32))), .val (.ref aUINT32), .val (.long (0 : Int64)), .second, .val (.long (4294967295 : Int64)), .second, .val (.int (p3 &&& (3 : Int32))), .val (.long ((p2 &&& (3 : Int64)) - (1 : Int64))), .second, .unset, .unset, .unset] [])) _
          refine XS.lloadN X168.here hx rfl (hb hby at_200) rfl ?_
          show Steps p.tables e below (T168.setTop (mkF m 201 #[.val (.int p1), .val (.long p2), .second, .val (.int p3), .val (.int (p1 &&& (7 : Int32))), .val (.ref aUINT32), .val (.long (0 : Int64)), .second, .val (.long (4294967295 : Int64)), .second, .val (.int (p3 &&& (3 : Int32))), .val (.long ((p2 &&& (3 : Int64)) - (1 : Int64))), .second, .unset, .unset, .unset] [(.long p2)])) _
          refine XS.lstore X168.here hx rfl (hb hby at_201) rfl (l' := #[.val (.int p1), .val (.long p2), .second, .val (.int p3), .val (.int (p1 &&& (7 : Int32))), .val (.ref aUINT32), .val (.long (0 : Int64)), .second, .val (.long (4294967295 : Int64)), .second, .val (.int (p3 &&& (3 : Int32))), .val (.long ((p2 &&& (3 : Int64)) - (1 : Int64))), .second, .val (.long p2), .second, .unset]) rfl ?_
          show Steps p.tables e below (T168.setTop (mkF m 203 #[.val (.int p1), .val (.long p2), .second, .val (.int p3), .val (.int (p1 &&& (7 : Int32))), .val (.ref aUINT32), .val (.long (0 : Int64)), .second, .val (.long (4294967295 : Int64)), .second, .val (.int (p3 &&& (3 : Int32))), .val (.long ((p2 &&& (3 : Int64)) - (1 : Int64))), .second, .val (.long p2), .second, .unset] [])) _
          refine XS.goto X168.here hx rfl (pc0 := 203) (pc' := 244) rfl (hb hby at_203) (by decide) (by decide) ?_
          show Steps p.tables e below (T168.setTop (mkF m 244 #[.val (.int p1), .val (.long p2), .second, .val (.int p3), .val (.int (p1 &&& (7 : Int32))), .val (.ref aUINT32), .val (.long (0 : Int64)), .second, .val (.long (4294967295 : Int64)), .second, .val (.int (p3 &&& (3 : Int32))), .val (.long ((p2 &&& (3 : Int64)) - (1 : Int64))), .second, .val (.long p2), .second, .unset] [])) _
          exact kt)
        exact join ⟨_, k172⟩
      · have k173 := fun (t : State) (kt : Steps p.tables e below (T168.setTop (mkF m 209 #[.val (.int p1), .val (.long p2), .second, .val (.int p3), .val (.int (p1 &&& (7 : Int32))), .val (.ref aUINT32), .val (.long (0 : Int64)), .second, .val (.long (4294967295 : Int64)), .second, .val (.int (p3 &&& (3 : Int32))), .val (.long ((p2 &&& (3 : Int64)) - (1 : Int64))), .second, .unset, .unset, .unset] [(.int (1 : Int32)), (.int (p3 &&& (3 : Int32)))])) t) => k170 t (by
          refine XS.ifYes X168.here hx rfl (pc0 := 197) (pc' := 206) rfl (hb hby at_197) rfl ((if0 _ _).trans (feq hc197_171).2) (by decide) (by decide) ?_
          show Steps p.tables e below (T168.setTop (mkF m 206 #[.val (.int p1), .val (.long p2), .second, .val (.int p3), .val (.int (p1 &&& (7 : Int32))), .val (.ref aUINT32), .val (.long (0 : Int64)), .second, .val (.long (4294967295 : Int64)), .second, .val (.int (p3 &&& (3 : Int32))), .val (.long ((p2 &&& (3 : Int64)) - (1 : Int64))), .second, .unset, .unset, .unset] [])) _
          refine XS.iload X168.here hx rfl (hb hby at_206) rfl ?_
          show Steps p.tables e below (T168.setTop (mkF m 208 #[.val (.int p1), .val (.long p2), .second, .val (.int p3), .val (.int (p1 &&& (7 : Int32))), .val (.ref aUINT32), .val (.long (0 : Int64)), .second, .val (.long (4294967295 : Int64)), .second, .val (.int (p3 &&& (3 : Int32))), .val (.long ((p2 &&& (3 : Int64)) - (1 : Int64))), .second, .unset, .unset, .unset] [(.int (p3 &&& (3 : Int32)))])) _
          refine XS.iconst X168.here hx rfl (hb hby at_208) ?_
          show Steps p.tables e below (T168.setTop (mkF m 209 #[.val (.int p1), .val (.long p2), .second, .val (.int p3), .val (.int (p1 &&& (7 : Int32))), .val (.ref aUINT32), .val (.long (0 : Int64)), .second, .val (.long (4294967295 : Int64)), .second, .val (.int (p3 &&& (3 : Int32))), .val (.long ((p2 &&& (3 : Int64)) - (1 : Int64))), .second, .unset, .unset, .unset] [(.int (1 : Int32)), (.int (p3 &&& (3 : Int32)))])) _
          exact kt)
        by_cases hc209_174 : (p3 &&& (3 : Int32)) = (1 : Int32)
        · have k175 := fun (t : State) (kt : Steps p.tables e below (T168.setTop (mkF m 244 #[.val (.int p1), .val (.long p2), .second, .val (.int p3), .val (.int (p1 &&& (7 : Int32))), .val (.ref aUINT32), .val (.long (0 : Int64)), .second, .val (.long (4294967295 : Int64)), .second, .val (.int (p3 &&& (3 : Int32))), .val (.long ((p2 &&& (3 : Int64)) - (1 : Int64))), .second, .val (.long ((4294967295 : Int64) + ((p2 &&& (3 : Int64)) - (1 : Int64)))), .second, .unset] [])) t) => k173 t (by
            refine XS.icmpNo X168.here hx rfl (hb hby at_209) rfl (teq hc209_174).2 ?_
            show Steps p.tables e below (T168.setTop (mkF m 212 #[.val (.int p1), .val (.long p2), .second, .val (.int p3), .val (.int (p1 &&& (7 : Int32))), .val (.ref aUINT32), .val (.long (0 : Int64)), .second, .val (.long (4294967295 : Int64)), .second, .val (.int (p3 &&& (3 : Int32))), .val (.long ((p2 &&& (3 : Int64)) - (1 : Int64))), .second, .unset, .unset, .unset] [])) _
            refine XS.lload X168.here hx rfl (hb hby at_212) rfl ?_
            show Steps p.tables e below (T168.setTop (mkF m 214 #[.val (.int p1), .val (.long p2), .second, .val (.int p3), .val (.int (p1 &&& (7 : Int32))), .val (.ref aUINT32), .val (.long (0 : Int64)), .second, .val (.long (4294967295 : Int64)), .second, .val (.int (p3 &&& (3 : Int32))), .val (.long ((p2 &&& (3 : Int64)) - (1 : Int64))), .second, .unset, .unset, .unset] [(.long (4294967295 : Int64))])) _
            refine XS.lload X168.here hx rfl (hb hby at_214) rfl ?_
            show Steps p.tables e below (T168.setTop (mkF m 216 #[.val (.int p1), .val (.long p2), .second, .val (.int p3), .val (.int (p1 &&& (7 : Int32))), .val (.ref aUINT32), .val (.long (0 : Int64)), .second, .val (.long (4294967295 : Int64)), .second, .val (.int (p3 &&& (3 : Int32))), .val (.long ((p2 &&& (3 : Int64)) - (1 : Int64))), .second, .unset, .unset, .unset] [(.long ((p2 &&& (3 : Int64)) - (1 : Int64))), (.long (4294967295 : Int64))])) _
            refine XS.ladd X168.here hx rfl (hb hby at_216) rfl ?_
            show Steps p.tables e below (T168.setTop (mkF m 217 #[.val (.int p1), .val (.long p2), .second, .val (.int p3), .val (.int (p1 &&& (7 : Int32))), .val (.ref aUINT32), .val (.long (0 : Int64)), .second, .val (.long (4294967295 : Int64)), .second, .val (.int (p3 &&& (3 : Int32))), .val (.long ((p2 &&& (3 : Int64)) - (1 : Int64))), .second, .unset, .unset, .unset] [(.long ((4294967295 : Int64) + ((p2 &&& (3 : Int64)) - (1 : Int64))))])) _
            refine XS.lstore X168.here hx rfl (hb hby at_217) rfl (l' := #[.val (.int p1), .val (.long p2), .second, .val (.int p3), .val (.int (p1 &&& (7 : Int32))), .val (.ref aUINT32), .val (.long (0 : Int64)), .second, .val (.long (4294967295 : Int64)), .second, .val (.int (p3 &&& (3 : Int32))), .val (.long ((p2 &&& (3 : Int64)) - (1 : Int64))), .second, .val (.long ((4294967295 : Int64) + ((p2 &&& (3 : Int64)) - (1 : Int64)))), .second, .unset]) rfl ?_
            show Steps p.tables e below (T168.setTop (mkF m 219 #[.val (.int p1), .val (.long p2), .second, .val (.int p3), .val (.int (p1 &&& (7 : Int32))), .val (.ref aUINT32), .val (.long (0 : Int64)), .second, .val (.long (4294967295 : Int64)), .second, .val (.int (p3 &&& (3 : Int32))), .val (.long ((p2 &&& (3 : Int64)) - (1 : Int64))), .second, .val (.long ((4294967295 : Int64) + ((p2 &&& (3 : Int64)) - (1 : Int64)))), .second, .unset] [])) _
            refine XS.goto X168.here hx rfl (pc0 := 219) (pc' := 244) rfl (hb hby at_219) (by decide) (by decide) ?_
            show Steps p.tables e below (T168.setTop (mkF m 244 #[.val (.int p1), .val (.long p2), .second, .val (.int p3), .val (.int (p1 &&& (7 : Int32))), .val (.ref aUINT32), .val (.long (0 : Int64)), .second, .val (.long (4294967295 : Int64)), .second, .val (.int (p3 &&& (3 : Int32))), .val (.long ((p2 &&& (3 : Int64)) - (1 : Int64))), .second, .val (.long ((4294967295 : Int64) + ((p2 &&& (3 : Int64)) - (1 : Int64)))), .second, .unset] [])) _
            exact kt)
          exact join ⟨_, k175⟩
        · have k176 := fun (t : State) (kt : Steps p.tables e below (T168.setTop (mkF m 225 #[.val (.int p1), .val (.long p2), .second, .val (.int p3), .val (.int (p1 &&& (7 : Int32))), .val (.ref aUINT32), .val (.long (0 : Int64)), .second, .val (.long (4294967295 : Int64)), .second, .val (.int (p3 &&& (3 : Int32))), .val (.long ((p2 &&& (3 : Int64)) - (1 : Int64))), .second, .unset, .unset, .unset] [(.int (2 : Int32)), (.int (p3 &&& (3 : Int32)))])) t) => k173 t (by
            refine XS.icmpYes X168.here hx rfl (pc0 := 209) (pc' := 222) rfl (hb hby at_209) rfl (feq hc209_174).2 (by decide) (by decide) ?_
            show Steps p.tables e below (T168.setTop (mkF m 222 #[.val (.int p1), .val (.long p2), .second, .val (.int p3), .val (.int (p1 &&& (7 : Int32))), .val (.ref aUINT32), .val (.long (0 : Int64)), .second, .val (.long (4294967295 : Int64)), .second, .val (.int (p3 &&& (3 : Int32))), .val (.long ((p2 &&& (3 : Int64)) - (1 : Int64))), .second, .unset, .unset, .unset] [])) _
            refine XS.iload X168.here hx rfl (hb hby at_222) rfl ?_
            show Steps p.tables e below (T168.setTop (mkF m 224 #[.val (.int p1), .val (.long p2), .second, .val (.int p3), .val (.int (p1 &&& (7 : Int32))), .val (.ref aUINT32), .val (.long (0 : Int64)), .second, .val (.long (4294967295 : Int64)), .second, .val (.int (p3 &&& (3 : Int32))), .val (.long ((p2 &&& (3 : Int64)) - (1 : Int64))), .second, .unset, .unset, .unset] [(.int (p3 &&& (3 : Int32)))])) _
            refine XS.iconst X168.here hx rfl (hb hby at_224) ?_
            show Steps p.tables e below (T168.setTop (mkF m 225 #[.val (.int p1), .val (.long p2), .second, .val (.int p3), .val (.int (p1 &&& (7 : Int32))), .val (.ref aUINT32), .val (.long (0 : Int64)), .second, .val (.long (4294967295 : Int64)), .second, .val (.int (p3 &&& (3 : Int32))), .val (.long ((p2 &&& (3 : Int64)) - (1 : Int64))), .second, .unset, .unset, .unset] [(.int (2 : Int32)), (.int (p3 &&& (3 : Int32)))])) _
            exact kt)
          by_cases hc225_177 : (p3 &&& (3 : Int32)) = (2 : Int32)
          · have k178 := fun (t : State) (kt : Steps p.tables e below (T168.setTop (mkF m 244 #[.val (.int p1), .val (.long p2), .second, .val (.int p3), .val (.int (p1 &&& (7 : Int32))), .val (.ref aUINT32), .val (.long (0 : Int64)), .second, .val (.long (4294967295 : Int64)), .second, .val (.int (p3 &&& (3 : Int32))), .val (.long ((p2 &&& (3 : Int64)) - (1 : Int64))), .second, .val (.long ((0 : Int64) - ((p2 &&& (3 : Int64)) - (1 : Int64)))), .second, .unset] [])) t) => k176 t (by
              refine XS.icmpNo X168.here hx rfl (hb hby at_225) rfl (teq hc225_177).2 ?_
              show Steps p.tables e below (T168.setTop (mkF m 228 #[.val (.int p1), .val (.long p2), .second, .val (.int p3), .val (.int (p1 &&& (7 : Int32))), .val (.ref aUINT32), .val (.long (0 : Int64)), .second, .val (.long (4294967295 : Int64)), .second, .val (.int (p3 &&& (3 : Int32))), .val (.long ((p2 &&& (3 : Int64)) - (1 : Int64))), .second, .unset, .unset, .unset] [])) _
              refine XS.lload X168.here hx rfl (hb hby at_228) rfl ?_
              show Steps p.tables e below (T168.setTop (mkF m 230 #[.val (.int p1), .val (.long p2), .second, .val (.int p3), .val (.int (p1 &&& (7 : Int32))), .val (.ref aUINT32), .val (.long (0 : Int64)), .second, .val (.long (4294967295 : Int64)), .second, .val (.int (p3 &&& (3 : Int32))), .val (.long ((p2 &&& (3 : Int64)) - (1 : Int64))), .second, .unset, .unset, .unset] [(.long (0 : Int64))])) _
              refine XS.lload X168.here hx rfl (hb hby at_230) rfl ?_
              show Steps p.tables e below (T168.setTop (mkF m 232 #[.val (.int p1), .val (.long p2), .second, .val (.int p3), .val (.int (p1 &&& (7 : Int32))), .val (.ref aUINT32), .val (.long (0 : Int64)), .second, .val (.long (4294967295 : Int64)), .second, .val (.int (p3 &&& (3 : Int32))), .val (.long ((p2 &&& (3 : Int64)) - (1 : Int64))), .second, .unset, .unset, .unset] [(.long ((p2 &&& (3 : Int64)) - (1 : Int64))), (.long (0 : Int64))])) _
              refine XS.lsub X168.here hx rfl (hb hby at_232) rfl ?_
              show Steps p.tables e below (T168.setTop (mkF m 233 #[.val (.int p1), .val (.long p2), .second, .val (.int p3), .val (.int (p1 &&& (7 : Int32))), .val (.ref aUINT32), .val (.long (0 : Int64)), .second, .val (.long (4294967295 : Int64)), .second, .val (.int (p3 &&& (3 : Int32))), .val (.long ((p2 &&& (3 : Int64)) - (1 : Int64))), .second, .unset, .unset, .unset] [(.long ((0 : Int64) - ((p2 &&& (3 : Int64)) - (1 : Int64))))])) _
              refine XS.lstore X168.here hx rfl (hb hby at_233) rfl (l' := #[.val (.int p1), .val (.long p2), .second, .val (.int p3), .val (.int (p1 &&& (7 : Int32))), .val (.ref aUINT32), .val (.long (0 : Int64)), .second, .val (.long (4294967295 : Int64)), .second, .val (.int (p3 &&& (3 : Int32))), .val (.long ((p2 &&& (3 : Int64)) - (1 : Int64))), .second, .val (.long ((0 : Int64) - ((p2 &&& (3 : Int64)) - (1 : Int64)))), .second, .unset]) rfl ?_
              show Steps p.tables e below (T168.setTop (mkF m 235 #[.val (.int p1), .val (.long p2), .second, .val (.int p3), .val (.int (p1 &&& (7 : Int32))), .val (.ref aUINT32), .val (.long (0 : Int64)), .second, .val (.long (4294967295 : Int64)), .second, .val (.int (p3 &&& (3 : Int32))), .val (.long ((p2 &&& (3 : Int64)) - (1 : Int64))), .second, .val (.long ((0 : Int64) - ((p2 &&& (3 : Int64)) - (1 : Int64)))), .second, .unset] [])) _
              refine XS.goto X168.here hx rfl (pc0 := 235) (pc' := 244) rfl (hb hby at_235) (by decide) (by decide) ?_
              show Steps p.tables e below (T168.setTop (mkF m 244 #[.val (.int p1), .val (.long p2), .second, .val (.int p3), .val (.int (p1 &&& (7 : Int32))), .val (.ref aUINT32), .val (.long (0 : Int64)), .second, .val (.long (4294967295 : Int64)), .second, .val (.int (p3 &&& (3 : Int32))), .val (.long ((p2 &&& (3 : Int64)) - (1 : Int64))), .second, .val (.long ((0 : Int64) - ((p2 &&& (3 : Int64)) - (1 : Int64)))), .second, .unset] [])) _
              exact kt)
            exact join ⟨_, k178⟩
          · have k179 := fun (t : State) (kt : Steps p.tables e below (T168.setTop (mkF m 244 #[.val (.int p1), .val (.long p2), .second, .val (.int p3), .val (.int (p1 &&& (7 : Int32))), .val (.ref aUINT32), .val (.long (0 : Int64)), .second, .val (.long (4294967295 : Int64)), .second, .val (.int (p3 &&& (3 : Int32))), .val (.long ((p2 &&& (3 : Int64)) - (1 : Int64))), .second, .val (.long (p2 >>> ((48 : Int32) &&& 0x3f).toInt64)), .second, .unset] [])) t) => k176 t (by
              refine XS.icmpYes X168.here hx rfl (pc0 := 225) (pc' := 238) rfl (hb hby at_225) rfl (feq hc225_177).2 (by decide) (by decide) ?_
              show Steps p.tables e below (T168.setTop (mkF m 238 #[.val (.int p1), .val (.long p2), .second, .val (.int p3), .val (.int (p1 &&& (7 : Int32))), .val (.ref aUINT32), .val (.long (0 : Int64)), .second, .val (.long (4294967295 : Int64)), .second, .val (.int (p3 &&& (3 : Int32))), .val (.long ((p2 &&& (3 : Int64)) - (1 : Int64))), .second, .unset, .unset, .unset] [])) _
              refine XS.lloadN X168.here hx rfl (hb hby at_238) rfl ?_
              show Steps p.tables e below (T168.setTop (mkF m 239 #[.val (.int p1), .val (.long p2), .second, .val (.int p3), .val (.int (p1 &&& (7 : Int32))), .val (.ref aUINT32), .val (.long (0 : Int64)), .second, .val (.long (4294967295 : Int64)), .second, .val (.int (p3 &&& (3 : Int32))), .val (.long ((p2 &&& (3 : Int64)) - (1 : Int64))), .second, .unset, .unset, .unset] [(.long p2)])) _
              refine XS.bipush X168.here hx rfl (hb hby at_239) ?_
              show Steps p.tables e below (T168.setTop (mkF m 241 #[.val (.int p1), .val (.long p2), .second, .val (.int p3), .val (.int (p1 &&& (7 : Int32))), .val (.ref aUINT32), .val (.long (0 : Int64)), .second, .val (.long (4294967295 : Int64)), .second, .val (.int (p3 &&& (3 : Int32))), .val (.long ((p2 &&& (3 : Int64)) - (1 : Int64))), .second, .unset, .unset, .unset] [(.int (48 : Int32)), (.long p2)])) _
              refine XS.lshr X168.here hx rfl (hb hby at_241) rfl ?_
              show Steps p.tables e below (T168.setTop (mkF m 242 #[.val (.int p1), .val (.long p2), .second, .val (.int p3), .val (.int (p1 &&& (7 : Int32))), .val (.ref aUINT32), .val (.long (0 : Int64)), .second, .val (.long (4294967295 : Int64)), .second, .val (.int (p3 &&& (3 : Int32))), .val (.long ((p2 &&& (3 : Int64)) - (1 : Int64))), .second, .unset, .unset, .unset] [(.long (p2 >>> ((48 : Int32) &&& 0x3f).toInt64))])) _
              refine XS.lstore X168.here hx rfl (hb hby at_242) rfl (l' := #[.val (.int p1), .val (.long p2), .second, .val (.int p3), .val (.int (p1 &&& (7 : Int32))), .val (.ref aUINT32), .val (.long (0 : Int64)), .second, .val (.long (4294967295 : Int64)), .second, .val (.int (p3 &&& (3 : Int32))), .val (.long ((p2 &&& (3 : Int64)) - (1 : Int64))), .second, .val (.long (p2 >>> ((48 : Int32) &&& 0x3f).toInt64)), .second, .unset]) rfl ?_
              show Steps p.tables e below (T168.setTop (mkF m 244 #[.val (.int p1), .val (.long p2), .second, .val (.int p3), .val (.int (p1 &&& (7 : Int32))), .val (.ref aUINT32), .val (.long (0 : Int64)), .second, .val (.long (4294967295 : Int64)), .second, .val (.int (p3 &&& (3 : Int32))), .val (.long ((p2 &&& (3 : Int64)) - (1 : Int64))), .second, .val (.long (p2 >>> ((48 : Int32) &&& 0x3f).toInt64)), .second, .unset] [])) _
              exact kt)
            exact join ⟨_, k179⟩
    · rintro ⟨xv, kJ⟩
      have k180 := fun (t : State) (kt : Steps p.tables e below (T168.setTop (mkF m 249 #[.val (.int p1), .val (.long p2), .second, .val (.int p3), .val (.int (p1 &&& (7 : Int32))), .val (.ref aUINT32), .val (.long (0 : Int64)), .second, .val (.long (4294967295 : Int64)), .second, .val (.int (p3 &&& (3 : Int32))), .val (.long ((p2 &&& (3 : Int64)) - (1 : Int64))), .second, .val (.long xv), .second, .unset] [(.int (lcmpW (0 : Int64) xv))])) t) => kJ t (by
        refine XS.lload X168.here hx rfl (hb hby at_244) rfl ?_
        show Steps p.tables e below (T168.setTop (mkF m 246 #[.val (.int p1), .val (.long p2), .second, .val (.int p3), .val (.int (p1 &&& (7 : Int32))), .val (.ref aUINT32), .val (.long (0 : Int64)), .second, .val (.long (4294967295 : Int64)), .second, .val (.int (p3 &&& (3 : Int32))), .val (.long ((p2 &&& (3 : Int64)) - (1 : Int64))), .second, .val (.long xv), .second, .unset] [(.long (0 : Int64))])) _
        refine XS.lload X168.here hx rfl (hb hby at_246) rfl ?_
        show Steps p.tables e below (T168.setTop (mkF m 248 #[.val (.int p1), .val (.long p2), .second, .val (.int p3), .val (.int (p1 &&& (7 : Int32))), .val (.ref aUINT32), .val (.long (0 : Int64)), .second, .val (.long (4294967295 : Int64)), .second, .val (.int (p3 &&& (3 : Int32))), .val (.long ((p2 &&& (3 : Int64)) - (1 : Int64))), .second, .val (.long xv), .second, .unset] [(.long xv), (.long (0 : Int64))])) _
        refine XS.lcmp X168.here hx rfl (hb hby at_248) rfl ?_
        show Steps p.tables e below (T168.setTop (mkF m 249 #[.val (.int p1), .val (.long p2), .second, .val (.int p3), .val (.int (p1 &&& (7 : Int32))), .val (.ref aUINT32), .val (.long (0 : Int64)), .second, .val (.long (4294967295 : Int64)), .second, .val (.int (p3 &&& (3 : Int32))), .val (.long ((p2 &&& (3 : Int64)) - (1 : Int64))), .second, .val (.long xv), .second, .unset] [(.int (lcmpW (0 : Int64) xv))])) _
        exact kt)
      by_cases hc249_181 : xv < (0 : Int64)
      · have k182 := fun (t : State) (kt : Steps p.tables e below (T168.setTop (mkF m 271 #[.val (.int p1), .val (.long p2), .second, .val (.int p3), .val (.int (p1 &&& (7 : Int32))), .val (.ref aUINT32), .val (.long (0 : Int64)), .second, .val (.long (4294967295 : Int64)), .second, .val (.int (p3 &&& (3 : Int32))), .val (.long ((p2 &&& (3 : Int64)) - (1 : Int64))), .second, .val (.long xv), .second, .val (.int (0 : Int32))] [(.long xv), (.ref aUINT32)])) t) => k180 t (by
          refine XS.ifYes X168.here hx rfl (pc0 := 249) (pc' := 264) rfl (hb hby at_249) rfl ((if0 _ _).trans (tlt ((lw_gt (0 : Int64) xv).mpr hc249_181)).2.2.1) (by decide) (by decide) ?_
          show Steps p.tables e below (T168.setTop (mkF m 264 #[.val (.int p1), .val (.long p2), .second, .val (.int p3), .val (.int (p1 &&& (7 : Int32))), .val (.ref aUINT32), .val (.long (0 : Int64)), .second, .val (.long (4294967295 : Int64)), .second, .val (.int (p3 &&& (3 : Int32))), .val (.long ((p2 &&& (3 : Int64)) - (1 : Int64))), .second, .val (.long xv), .second, .unset] [])) _
          refine XS.iconst X168.here hx rfl (hb hby at_264) ?_
          show Steps p.tables e below (T168.setTop (mkF m 265 #[.val (.int p1), .val (.long p2), .second, .val (.int p3), .val (.int (p1 &&& (7 : Int32))), .val (.ref aUINT32), .val (.long (0 : Int64)), .second, .val (.long (4294967295 : Int64)), .second, .val (.int (p3 &&& (3 : Int32))), .val (.long ((p2 &&& (3 : Int64)) - (1 : Int64))), .second, .val (.long xv), .second, .unset] [(.int (0 : Int32))])) _
          refine XS.istore X168.here hx rfl (hb hby at_265) rfl (l' := #[.val (.int p1), .val (.long p2), .second, .val (.int p3), .val (.int (p1 &&& (7 : Int32))), .val (.ref aUINT32), .val (.long (0 : Int64)), .second, .val (.long (4294967295 : Int64)), .second, .val (.int (p3 &&& (3 : Int32))), .val (.long ((p2 &&& (3 : Int64)) - (1 : Int64))), .second, .val (.long xv), .second, .val (.int (0 : Int32))]) rfl ?_
          show Steps p.tables e below (T168.setTop (mkF m 267 #[.val (.int p1), .val (.long p2), .second, .val (.int p3), .val (.int (p1 &&& (7 : Int32))), .val (.ref aUINT32), .val (.long (0 : Int64)), .second, .val (.long (4294967295 : Int64)), .second, .val (.int (p3 &&& (3 : Int32))), .val (.long ((p2 &&& (3 : Int64)) - (1 : Int64))), .second, .val (.long xv), .second, .val (.int (0 : Int32))] [])) _
          refine XS.aload X168.here hx rfl (hb hby at_267) rfl rfl ?_
          show Steps p.tables e below (T168.setTop (mkF m 269 #[.val (.int p1), .val (.long p2), .second, .val (.int p3), .val (.int (p1 &&& (7 : Int32))), .val (.ref aUINT32), .val (.long (0 : Int64)), .second, .val (.long (4294967295 : Int64)), .second, .val (.int (p3 &&& (3 : Int32))), .val (.long ((p2 &&& (3 : Int64)) - (1 : Int64))), .second, .val (.long xv), .second, .val (.int (0 : Int32))] [(.ref aUINT32)])) _
          refine XS.lload X168.here hx rfl (hb hby at_269) rfl ?_
          show Steps p.tables e below (T168.setTop (mkF m 271 #[.val (.int p1), .val (.long p2), .second, .val (.int p3), .val (.int (p1 &&& (7 : Int32))), .val (.ref aUINT32), .val (.long (0 : Int64)), .second, .val (.long (4294967295 : Int64)), .second, .val (.int (p3 &&& (3 : Int32))), .val (.long ((p2 &&& (3 : Int64)) - (1 : Int64))), .second, .val (.long xv), .second, .val (.int (0 : Int32))] [(.long xv), (.ref aUINT32)])) _
          exact kt)
        obtain ⟨cq183, kq183, q183a, q183b, q183c⟩ := isOf hZ e168 (E_UINT32.ext O0.2)
        obtain ⟨_, _, ⟨T183, L183, k183, n183⟩, -, X183, ⟨Lc183, hQ183, l183, y183, z183⟩, st183⟩ := X168.virtualBack hx (y := (⟨"com/example/tightwire/tightwire/Kind", "holds", "(J)Z"⟩ : MethodName)) (z := (⟨"com/example/tightwire/tightwire/Kind", "holds", "(J)Z"⟩ : MethodName)) hown (mvT hZ (hw _ (List.mem_of_getElem? (i := 6) rfl))) (mvT hZ (hw _ (List.mem_of_getElem? (i := 7) rfl))) (notFace_of_selects (args := #[]) (mvT hZ (hw _ (List.mem_of_getElem? (i := 9) rfl)))) (mvT hZ (hw _ (List.mem_of_getElem? (i := 9) rfl))) (mvT hZ (hw _ (List.mem_of_getElem? (i := 8) rfl))) (by decide) (backOf (W := 0) (rm1 l Z a0 hw [] aUINT32 xv (0 : Int32) (32 : Int32) h0 n0 O0 (F_UINT32_signed.ext O0.2) (F_UINT32_bits.ext O0.2)) hZ (hw _ (List.mem_of_getElem? (i := 10) rfl)) (hw _ (List.mem_of_getElem? (i := 1) rfl)) (by decide) (by decide)) q183a q183c (g := (mkF m 271 #[.val (.int p1), .val (.long p2), .second, .val (.int p3), .val (.int (p1 &&& (7 : Int32))), .val (.ref aUINT32), .val (.long (0 : Int64)), .second, .val (.long (4294967295 : Int64)), .second, .val (.int (p3 &&& (3 : Int32))), .val (.long ((p2 &&& (3 : Int64)) - (1 : Int64))), .second, .val (.long xv), .second, .val (.int (0 : Int32))] [(.long xv), (.ref aUINT32)])) rfl (by rw [hml]; rfl) (Steps.refl _) (argsL := [(.long xv)]) (rest := []) (lenOf pd_0 rfl) rfl (by show 2 * 0 + _ ≤ _; exact Nat.le_of_eq rfl) (hb hby at_271) (fun _ _ => ⟨rfl, e168, (by decide : 0 + 0 ≤ _), (by decide : 0 + 0 ≤ _)⟩)
        dsimp only [Pt.U, Pt.locs, Pt.cells, Pt.slots] at X183 l183 y183 z183 st183 hQ183
        subst l183 y183 z183
        obtain ⟨rfl, Nq183, eh183⟩ := hQ183
        have N183 := Fr.app N0 Nq183
        have k184 := fun (t : State) (kt : Steps p.tables e below (T183.setTop (mkF m 276 #[.val (.int p1), .val (.long p2), .second, .val (.int p3), .val (.int (p1 &&& (7 : Int32))), .val (.ref aUINT32), .val (.long (0 : Int64)), .second, .val (.long (4294967295 : Int64)), .second, .val (.int (p3 &&& (3 : Int32))), .val (.long ((p2 &&& (3 : Int64)) - (1 : Int64))), .second, .val (.long xv), .second, .val (.int (0 : Int32))] [(.int (0 : Int32)), (.int (own_holds (0 : Int32) (32 : Int32) xv))])) t) => k182 t (by
          refine st183.trans ?_
          show Steps p.tables e below (T183.setTop (mkF m 274 #[.val (.int p1), .val (.long p2), .second, .val (.int p3), .val (.int (p1 &&& (7 : Int32))), .val (.ref aUINT32), .val (.long (0 : Int64)), .second, .val (.long (4294967295 : Int64)), .second, .val (.int (p3 &&& (3 : Int32))), .val (.long ((p2 &&& (3 : Int64)) - (1 : Int64))), .second, .val (.long xv), .second, .val (.int (0 : Int32))] [(.int (own_holds (0 : Int32) (32 : Int32) xv))])) _
          refine XS.iload X183.here hx rfl (hb hby at_274) rfl ?_
          show Steps p.tables e below (T183.setTop (mkF m 276 #[.val (.int p1), .val (.long p2), .second, .val (.int p3), .val (.int (p1 &&& (7 : Int32))), .val (.ref aUINT32), .val (.long (0 : Int64)), .second, .val (.long (4294967295 : Int64)), .second, .val (.int (p3 &&& (3 : Int32))), .val (.long ((p2 &&& (3 : Int64)) - (1 : Int64))), .second, .val (.long xv), .second, .val (.int (0 : Int32))] [(.int (0 : Int32)), (.int (own_holds (0 : Int32) (32 : Int32) xv))])) _
          exact kt)
        have k185 := fun (t : State) (kt : Steps p.tables e below (T183.setTop (mkF m 284 #[.val (.int p1), .val (.long p2), .second, .val (.int p3), .val (.int (p1 &&& (7 : Int32))), .val (.ref aUINT32), .val (.long (0 : Int64)), .second, .val (.long (4294967295 : Int64)), .second, .val (.int (p3 &&& (3 : Int32))), .val (.long ((p2 &&& (3 : Int64)) - (1 : Int64))), .second, .val (.long xv), .second, .val (.int (0 : Int32))] [(.int (1 : Int32))])) t) => k184 t (by
          refine XS.icmpNo X183.here hx rfl (hb hby at_276) rfl (teq (own_lo_UINT32 hc249_181)).2 ?_
          show Steps p.tables e below (T183.setTop (mkF m 279 #[.val (.int p1), .val (.long p2), .second, .val (.int p3), .val (.int (p1 &&& (7 : Int32))), .val (.ref aUINT32), .val (.long (0 : Int64)), .second, .val (.long (4294967295 : Int64)), .second, .val (.int (p3 &&& (3 : Int32))), .val (.long ((p2 &&& (3 : Int64)) - (1 : Int64))), .second, .val (.long xv), .second, .val (.int (0 : Int32))] [])) _
          refine XS.iconst X183.here hx rfl (hb hby at_279) ?_
          show Steps p.tables e below (T183.setTop (mkF m 280 #[.val (.int p1), .val (.long p2), .second, .val (.int p3), .val (.int (p1 &&& (7 : Int32))), .val (.ref aUINT32), .val (.long (0 : Int64)), .second, .val (.long (4294967295 : Int64)), .second, .val (.int (p3 &&& (3 : Int32))), .val (.long ((p2 &&& (3 : Int64)) - (1 : Int64))), .second, .val (.long xv), .second, .val (.int (0 : Int32))] [(.int (1 : Int32))])) _
          refine XS.goto X183.here hx rfl (pc0 := 280) (pc' := 284) rfl (hb hby at_280) (by decide) (by decide) ?_
          show Steps p.tables e below (T183.setTop (mkF m 284 #[.val (.int p1), .val (.long p2), .second, .val (.int p3), .val (.int (p1 &&& (7 : Int32))), .val (.ref aUINT32), .val (.long (0 : Int64)), .second, .val (.long (4294967295 : Int64)), .second, .val (.int (p3 &&& (3 : Int32))), .val (.long ((p2 &&& (3 : Int64)) - (1 : Int64))), .second, .val (.long xv), .second, .val (.int (0 : Int32))] [(.int (1 : Int32))])) _
          exact kt)
        obtain ⟨fs, hr, hrun, hended, hW, hsame⟩ := X183.leave (v := some (.int (1 : Int32))) (fun h => by rw [Bd.returns] at h; cases h)
        refine ⟨_, _, k185 _ ?_, hrun, hended, _, _, rfl, ?_, ⟨_, rfl⟩, hW, hsame.mono (by decide) (by decide)⟩
        · exact retN X183 hx (t := .boolean) Bd.returns (by simp) (hb hby at_284) hr
        · show Q0 n0 _ T183.heap _
          rw [eh183]
          exact ⟨rfl, N183⟩
      · have k186 := fun (t : State) (kt : Steps p.tables e below (T168.setTop (mkF m 257 #[.val (.int p1), .val (.long p2), .second, .val (.int p3), .val (.int (p1 &&& (7 : Int32))), .val (.ref aUINT32), .val (.long (0 : Int64)), .second, .val (.long (4294967295 : Int64)), .second, .val (.int (p3 &&& (3 : Int32))), .val (.long ((p2 &&& (3 : Int64)) - (1 : Int64))), .second, .val (.long xv), .second, .unset] [(.int (lcmpW xv (4294967295 : Int64)))])) t) => k180 t (by
          refine XS.ifNo X168.here hx rfl (hb hby at_249) rfl ((if0 _ _).trans (flt (fun q => hc249_181 ((lw_gt (0 : Int64) xv).mp q))).2.2.1) ?_
          show Steps p.tables e below (T168.setTop (mkF m 252 #[.val (.int p1), .val (.long p2), .second, .val (.int p3), .val (.int (p1 &&& (7 : Int32))), .val (.ref aUINT32), .val (.long (0 : Int64)), .second, .val (.long (4294967295 : Int64)), .second, .val (.int (p3 &&& (3 : Int32))), .val (.long ((p2 &&& (3 : Int64)) - (1 : Int64))), .second, .val (.long xv), .second, .unset] [])) _
          refine XS.lload X168.here hx rfl (hb hby at_252) rfl ?_
          show Steps p.tables e below (T168.setTop (mkF m 254 #[.val (.int p1), .val (.long p2), .second, .val (.int p3), .val (.int (p1 &&& (7 : Int32))), .val (.ref aUINT32), .val (.long (0 : Int64)), .second, .val (.long (4294967295 : Int64)), .second, .val (.int (p3 &&& (3 : Int32))), .val (.long ((p2 &&& (3 : Int64)) - (1 : Int64))), .second, .val (.long xv), .second, .unset] [(.long xv)])) _
          refine XS.lload X168.here hx rfl (hb hby at_254) rfl ?_
          show Steps p.tables e below (T168.setTop (mkF m 256 #[.val (.int p1), .val (.long p2), .second, .val (.int p3), .val (.int (p1 &&& (7 : Int32))), .val (.ref aUINT32), .val (.long (0 : Int64)), .second, .val (.long (4294967295 : Int64)), .second, .val (.int (p3 &&& (3 : Int32))), .val (.long ((p2 &&& (3 : Int64)) - (1 : Int64))), .second, .val (.long xv), .second, .unset] [(.long (4294967295 : Int64)), (.long xv)])) _
          refine XS.lcmp X168.here hx rfl (hb hby at_256) rfl ?_
          show Steps p.tables e below (T168.setTop (mkF m 257 #[.val (.int p1), .val (.long p2), .second, .val (.int p3), .val (.int (p1 &&& (7 : Int32))), .val (.ref aUINT32), .val (.long (0 : Int64)), .second, .val (.long (4294967295 : Int64)), .second, .val (.int (p3 &&& (3 : Int32))), .val (.long ((p2 &&& (3 : Int64)) - (1 : Int64))), .second, .val (.long xv), .second, .unset] [(.int (lcmpW xv (4294967295 : Int64)))])) _
          exact kt)
        by_cases hc257_187 : (4294967295 : Int64) < xv
        · have k188 := fun (t : State) (kt : Steps p.tables e below (T168.setTop (mkF m 271 #[.val (.int p1), .val (.long p2), .second, .val (.int p3), .val (.int (p1 &&& (7 : Int32))), .val (.ref aUINT32), .val (.long (0 : Int64)), .second, .val (.long (4294967295 : Int64)), .second, .val (.int (p3 &&& (3 : Int32))), .val (.long ((p2 &&& (3 : Int64)) - (1 : Int64))), .second, .val (.long xv), .second, .val (.int (0 : Int32))] [(.long xv), (.ref aUINT32)])) t) => k186 t (by
            refine XS.ifYes X168.here hx rfl (pc0 := 257) (pc' := 264) rfl (hb hby at_257) rfl ((if0 _ _).trans (tlt ((lw_gt xv (4294967295 : Int64)).mpr hc257_187)).2.2.1) (by decide) (by decide) ?_
            show Steps p.tables e below (T168.setTop (mkF m 264 #[.val (.int p1), .val (.long p2), .second, .val (.int p3), .val (.int (p1 &&& (7 : Int32))), .val (.ref aUINT32), .val (.long (0 : Int64)), .second, .val (.long (4294967295 : Int64)), .second, .val (.int (p3 &&& (3 : Int32))), .val (.long ((p2 &&& (3 : Int64)) - (1 : Int64))), .second, .val (.long xv), .second, .unset] [])) _
            refine XS.iconst X168.here hx rfl (hb hby at_264) ?_
            show Steps p.tables e below (T168.setTop (mkF m 265 #[.val (.int p1), .val (.long p2), .second, .val (.int p3), .val (.int (p1 &&& (7 : Int32))), .val (.ref aUINT32), .val (.long (0 : Int64)), .second, .val (.long (4294967295 : Int64)), .second, .val (.int (p3 &&& (3 : Int32))), .val (.long ((p2 &&& (3 : Int64)) - (1 : Int64))), .second, .val (.long xv), .second, .unset] [(.int (0 : Int32))])) _
            refine XS.istore X168.here hx rfl (hb hby at_265) rfl (l' := #[.val (.int p1), .val (.long p2), .second, .val (.int p3), .val (.int (p1 &&& (7 : Int32))), .val (.ref aUINT32), .val (.long (0 : Int64)), .second, .val (.long (4294967295 : Int64)), .second, .val (.int (p3 &&& (3 : Int32))), .val (.long ((p2 &&& (3 : Int64)) - (1 : Int64))), .second, .val (.long xv), .second, .val (.int (0 : Int32))]) rfl ?_
            show Steps p.tables e below (T168.setTop (mkF m 267 #[.val (.int p1), .val (.long p2), .second, .val (.int p3), .val (.int (p1 &&& (7 : Int32))), .val (.ref aUINT32), .val (.long (0 : Int64)), .second, .val (.long (4294967295 : Int64)), .second, .val (.int (p3 &&& (3 : Int32))), .val (.long ((p2 &&& (3 : Int64)) - (1 : Int64))), .second, .val (.long xv), .second, .val (.int (0 : Int32))] [])) _
            refine XS.aload X168.here hx rfl (hb hby at_267) rfl rfl ?_
            show Steps p.tables e below (T168.setTop (mkF m 269 #[.val (.int p1), .val (.long p2), .second, .val (.int p3), .val (.int (p1 &&& (7 : Int32))), .val (.ref aUINT32), .val (.long (0 : Int64)), .second, .val (.long (4294967295 : Int64)), .second, .val (.int (p3 &&& (3 : Int32))), .val (.long ((p2 &&& (3 : Int64)) - (1 : Int64))), .second, .val (.long xv), .second, .val (.int (0 : Int32))] [(.ref aUINT32)])) _
            refine XS.lload X168.here hx rfl (hb hby at_269) rfl ?_
            show Steps p.tables e below (T168.setTop (mkF m 271 #[.val (.int p1), .val (.long p2), .second, .val (.int p3), .val (.int (p1 &&& (7 : Int32))), .val (.ref aUINT32), .val (.long (0 : Int64)), .second, .val (.long (4294967295 : Int64)), .second, .val (.int (p3 &&& (3 : Int32))), .val (.long ((p2 &&& (3 : Int64)) - (1 : Int64))), .second, .val (.long xv), .second, .val (.int (0 : Int32))] [(.long xv), (.ref aUINT32)])) _
            exact kt)
          obtain ⟨cq189, kq189, q189a, q189b, q189c⟩ := isOf hZ e168 (E_UINT32.ext O0.2)
          obtain ⟨_, _, ⟨T189, L189, k189, n189⟩, -, X189, ⟨Lc189, hQ189, l189, y189, z189⟩, st189⟩ := X168.virtualBack hx (y := (⟨"com/example/tightwire/tightwire/Kind", "holds", "(J)Z"⟩ : MethodName)) (z := (⟨"com/example/tightwire/tightwire/Kind", "holds", "(J)Z"⟩ : MethodName)) hown (mvT hZ (hw _ (List.mem_of_getElem? (i := 6) rfl))) (mvT hZ (hw _ (List.mem_of_getElem? (i := 7) rfl))) (notFace_of_selects (args := #[]) (mvT hZ (hw _ (List.mem_of_getElem? (i := 9) rfl)))) (mvT hZ (hw _ (List.mem_of_getElem? (i := 9) rfl))) (mvT hZ (hw _ (List.mem_of_getElem? (i := 8) rfl))) (by decide) (backOf (W := 0) (rm1 l Z a0 hw [] aUINT32 xv (0 : Int32) (32 : Int32) h0 n0 O0 (F_UINT32_signed.ext O0.2) (F_UINT32_bits.ext O0.2)) hZ (hw _ (List.mem_of_getElem? (i := 10) rfl)) (hw _ (List.mem_of_getElem? (i := 1) rfl)) (by decide) (by decide)) q189a q189c (g := (mkF m 271 #[.val (.int p1), .val (.long p2), .second, .val (.int p3), .val (.int (p1 &&& (7 : Int32))), .val (.ref aUINT32), .val (.long (0 : Int64)), .second, .val (.long (4294967295 : Int64)), .second, .val (.int (p3 &&& (3 : Int32))), .val (.long ((p2 &&& (3 : Int64)) - (1 : Int64))), .second, .val (.long xv), .second, .val (.int (0 : Int32))] [(.long xv), (.ref aUINT32)])) rfl (by rw [hml]; rfl) (Steps.refl _) (argsL := [(.long xv)]) (rest := []) (lenOf pd_0 rfl) rfl (by show 2 * 0 + _ ≤ _; exact Nat.le_of_eq rfl) (hb hby at_271) (fun _ _ => ⟨rfl, e168, (by decide : 0 + 0 ≤ _), (by decide : 0 + 0 ≤ _)⟩)
          dsimp only [Pt.U, Pt.locs, Pt.cells, Pt.slots] at X189 l189 y189 z189 st189 hQ189
          subst l189 y189 z189
          obtain ⟨rfl, Nq189, eh189⟩ := hQ189
          have N189 := Fr.app N0 Nq189
          have k190 := fun (t : State) (kt : Steps p.tables e below (T189.setTop (mkF m 276 #[.val (.int p1), .val (.long p2), .second, .val (.int p3), .val (.int (p1 &&& (7 : Int32))), .val (.ref aUINT32), .val (.long (0 : Int64)), .second, .val (.long (4294967295 : Int64)), .second, .val (.int (p3 &&& (3 : Int32))), .val (.long ((p2 &&& (3 : Int64)) - (1 : Int64))), .second, .val (.long xv), .second, .val (.int (0 : Int32))] [(.int (0 : Int32)), (.int (own_holds (0 : Int32) (32 : Int32) xv))])) t) => k188 t (by
            refine st189.trans ?_
            show Steps p.tables e below (T189.setTop (mkF m 274 #[.val (.int p1), .val (.long p2), .second, .val (.int p3), .val (.int (p1 &&& (7 : Int32))), .val (.ref aUINT32), .val (.long (0 : Int64)), .second, .val (.long (4294967295 : Int64)), .second, .val (.int (p3 &&& (3 : Int32))), .val (.long ((p2 &&& (3 : Int64)) - (1 : Int64))), .second, .val (.long xv), .second, .val (.int (0 : Int32))] [(.int (own_holds (0 : Int32) (32 : Int32) xv))])) _
            refine XS.iload X189.here hx rfl (hb hby at_274) rfl ?_
            show Steps p.tables e below (T189.setTop (mkF m 276 #[.val (.int p1), .val (.long p2), .second, .val (.int p3), .val (.int (p1 &&& (7 : Int32))), .val (.ref aUINT32), .val (.long (0 : Int64)), .second, .val (.long (4294967295 : Int64)), .second, .val (.int (p3 &&& (3 : Int32))), .val (.long ((p2 &&& (3 : Int64)) - (1 : Int64))), .second, .val (.long xv), .second, .val (.int (0 : Int32))] [(.int (0 : Int32)), (.int (own_holds (0 : Int32) (32 : Int32) xv))])) _
            exact kt)
          have k191 := fun (t : State) (kt : Steps p.tables e below (T189.setTop (mkF m 284 #[.val (.int p1), .val (.long p2), .second, .val (.int p3), .val (.int (p1 &&& (7 : Int32))), .val (.ref aUINT32), .val (.long (0 : Int64)), .second, .val (.long (4294967295 : Int64)), .second, .val (.int (p3 &&& (3 : Int32))), .val (.long ((p2 &&& (3 : Int64)) - (1 : Int64))), .second, .val (.long xv), .second, .val (.int (0 : Int32))] [(.int (1 : Int32))])) t) => k190 t (by
            refine XS.icmpNo X189.here hx rfl (hb hby at_276) rfl (teq (own_hi_UINT32 hc257_187)).2 ?_
            show Steps p.tables e below (T189.setTop (mkF m 279 #[.val (.int p1), .val (.long p2), .second, .val (.int p3), .val (.int (p1 &&& (7 : Int32))), .val (.ref aUINT32), .val (.long (0 : Int64)), .second, .val (.long (4294967295 : Int64)), .second, .val (.int (p3 &&& (3 : Int32))), .val (.long ((p2 &&& (3 : Int64)) - (1 : Int64))), .second, .val (.long xv), .second, .val (.int (0 : Int32))] [])) _
            refine XS.iconst X189.here hx rfl (hb hby at_279) ?_
            show Steps p.tables e below (T189.setTop (mkF m 280 #[.val (.int p1), .val (.long p2), .second, .val (.int p3), .val (.int (p1 &&& (7 : Int32))), .val (.ref aUINT32), .val (.long (0 : Int64)), .second, .val (.long (4294967295 : Int64)), .second, .val (.int (p3 &&& (3 : Int32))), .val (.long ((p2 &&& (3 : Int64)) - (1 : Int64))), .second, .val (.long xv), .second, .val (.int (0 : Int32))] [(.int (1 : Int32))])) _
            refine XS.goto X189.here hx rfl (pc0 := 280) (pc' := 284) rfl (hb hby at_280) (by decide) (by decide) ?_
            show Steps p.tables e below (T189.setTop (mkF m 284 #[.val (.int p1), .val (.long p2), .second, .val (.int p3), .val (.int (p1 &&& (7 : Int32))), .val (.ref aUINT32), .val (.long (0 : Int64)), .second, .val (.long (4294967295 : Int64)), .second, .val (.int (p3 &&& (3 : Int32))), .val (.long ((p2 &&& (3 : Int64)) - (1 : Int64))), .second, .val (.long xv), .second, .val (.int (0 : Int32))] [(.int (1 : Int32))])) _
            exact kt)
          obtain ⟨fs, hr, hrun, hended, hW, hsame⟩ := X189.leave (v := some (.int (1 : Int32))) (fun h => by rw [Bd.returns] at h; cases h)
          refine ⟨_, _, k191 _ ?_, hrun, hended, _, _, rfl, ?_, ⟨_, rfl⟩, hW, hsame.mono (by decide) (by decide)⟩
          · exact retN X189 hx (t := .boolean) Bd.returns (by simp) (hb hby at_284) hr
          · show Q0 n0 _ T189.heap _
            rw [eh189]
            exact ⟨rfl, N189⟩
        · have k192 := fun (t : State) (kt : Steps p.tables e below (T168.setTop (mkF m 271 #[.val (.int p1), .val (.long p2), .second, .val (.int p3), .val (.int (p1 &&& (7 : Int32))), .val (.ref aUINT32), .val (.long (0 : Int64)), .second, .val (.long (4294967295 : Int64)), .second, .val (.int (p3 &&& (3 : Int32))), .val (.long ((p2 &&& (3 : Int64)) - (1 : Int64))), .second, .val (.long xv), .second, .val (.int (1 : Int32))] [(.long xv), (.ref aUINT32)])) t) => k186 t (by
            refine XS.ifNo X168.here hx rfl (hb hby at_257) rfl ((if0 _ _).trans (flt (fun q => hc257_187 ((lw_gt xv (4294967295 : Int64)).mp q))).2.2.1) ?_
            show Steps p.tables e below (T168.setTop (mkF m 260 #[.val (.int p1), .val (.long p2), .second, .val (.int p3), .val (.int (p1 &&& (7 : Int32))), .val (.ref aUINT32), .val (.long (0 : Int64)), .second, .val (.long (4294967295 : Int64)), .second, .val (.int (p3 &&& (3 : Int32))), .val (.long ((p2 &&& (3 : Int64)) - (1 : Int64))), .second, .val (.long xv), .second, .unset] [])) _
            refine XS.iconst X168.here hx rfl (hb hby at_260) ?_
            show Steps p.tables e below (T168.setTop (mkF m 261 #[.val (.int p1), .val (.long p2), .second, .val (.int p3), .val (.int (p1 &&& (7 : Int32))), .val (.ref aUINT32), .val (.long (0 : Int64)), .second, .val (.long (4294967295 : Int64)), .second, .val (.int (p3 &&& (3 : Int32))), .val (.long ((p2 &&& (3 : Int64)) - (1 : Int64))), .second, .val (.long xv), .second, .unset] [(.int (1 : Int32))])) _
            refine XS.goto X168.here hx rfl (pc0 := 261) (pc' := 265) rfl (hb hby at_261) (by decide) (by decide) ?_
            show Steps p.tables e below (T168.setTop (mkF m 265 #[.val (.int p1), .val (.long p2), .second, .val (.int p3), .val (.int (p1 &&& (7 : Int32))), .val (.ref aUINT32), .val (.long (0 : Int64)), .second, .val (.long (4294967295 : Int64)), .second, .val (.int (p3 &&& (3 : Int32))), .val (.long ((p2 &&& (3 : Int64)) - (1 : Int64))), .second, .val (.long xv), .second, .unset] [(.int (1 : Int32))])) _
            refine XS.istore X168.here hx rfl (hb hby at_265) rfl (l' := #[.val (.int p1), .val (.long p2), .second, .val (.int p3), .val (.int (p1 &&& (7 : Int32))), .val (.ref aUINT32), .val (.long (0 : Int64)), .second, .val (.long (4294967295 : Int64)), .second, .val (.int (p3 &&& (3 : Int32))), .val (.long ((p2 &&& (3 : Int64)) - (1 : Int64))), .second, .val (.long xv), .second, .val (.int (1 : Int32))]) rfl ?_
            show Steps p.tables e below (T168.setTop (mkF m 267 #[.val (.int p1), .val (.long p2), .second, .val (.int p3), .val (.int (p1 &&& (7 : Int32))), .val (.ref aUINT32), .val (.long (0 : Int64)), .second, .val (.long (4294967295 : Int64)), .second, .val (.int (p3 &&& (3 : Int32))), .val (.long ((p2 &&& (3 : Int64)) - (1 : Int64))), .second, .val (.long xv), .second, .val (.int (1 : Int32))] [])) _
            refine XS.aload X168.here hx rfl (hb hby at_267) rfl rfl ?_
            show Steps p.tables e below (T168.setTop (mkF m 269 #[.val (.int p1), .val (.long p2), .second, .val (.int p3), .val (.int (p1 &&& (7 : Int32))), .val (.ref aUINT32), .val (.long (0 : Int64)), .second, .val (.long (4294967295 : Int64)), .second, .val (.int (p3 &&& (3 : Int32))), .val (.long ((p2 &&& (3 : Int64)) - (1 : Int64))), .second, .val (.long xv), .second, .val (.int (1 : Int32))] [(.ref aUINT32)])) _
            refine XS.lload X168.here hx rfl (hb hby at_269) rfl ?_
            show Steps p.tables e below (T168.setTop (mkF m 271 #[.val (.int p1), .val (.long p2), .second, .val (.int p3), .val (.int (p1 &&& (7 : Int32))), .val (.ref aUINT32), .val (.long (0 : Int64)), .second, .val (.long (4294967295 : Int64)), .second, .val (.int (p3 &&& (3 : Int32))), .val (.long ((p2 &&& (3 : Int64)) - (1 : Int64))), .second, .val (.long xv), .second, .val (.int (1 : Int32))] [(.long xv), (.ref aUINT32)])) _
            exact kt)
          obtain ⟨cq193, kq193, q193a, q193b, q193c⟩ := isOf hZ e168 (E_UINT32.ext O0.2)
          obtain ⟨_, _, ⟨T193, L193, k193, n193⟩, -, X193, ⟨Lc193, hQ193, l193, y193, z193⟩, st193⟩ := X168.virtualBack hx (y := (⟨"com/example/tightwire/tightwire/Kind", "holds", "(J)Z"⟩ : MethodName)) (z := (⟨"com/example/tightwire/tightwire/Kind", "holds", "(J)Z"⟩ : MethodName)) hown (mvT hZ (hw _ (List.mem_of_getElem? (i := 6) rfl))) (mvT hZ (hw _ (List.mem_of_getElem? (i := 7) rfl))) (notFace_of_selects (args := #[]) (mvT hZ (hw _ (List.mem_of_getElem? (i := 9) rfl)))) (mvT hZ (hw _ (List.mem_of_getElem? (i := 9) rfl))) (mvT hZ (hw _ (List.mem_of_getElem? (i := 8) rfl))) (by decide) (backOf (W := 0) (rm1 l Z a0 hw [] aUINT32 xv (0 : Int32) (32 : Int32) h0 n0 O0 (F_UINT32_signed.ext O0.2) (F_UINT32_bits.ext O0.2)) hZ (hw _ (List.mem_of_getElem? (i := 10) rfl)) (hw _ (List.mem_of_getElem? (i := 1) rfl)) (by decide) (by decide)) q193a q193c (g := (mkF m 271 #[.val (.int p1), .val (.long p2), .second, .val (.int p3), .val (.int (p1 &&& (7 : Int32))), .val (.ref aUINT32), .val (.long (0 : Int64)), .second, .val (.long (4294967295 : Int64)), .second, .val (.int (p3 &&& (3 : Int32))), .val (.long ((p2 &&& (3 : Int64)) - (1 : Int64))), .second, .val (.long xv), .second, .val (.int (1 : Int32))] [(.long xv), (.ref aUINT32)])) rfl (by rw [hml]; rfl) (Steps.refl _) (argsL := [(.long xv)]) (rest := []) (lenOf pd_0 rfl) rfl (by show 2 * 0 + _ ≤ _; exact Nat.le_of_eq rfl) (hb hby at_271) (fun _ _ => ⟨rfl, e168, (by decide : 0 + 0 ≤ _), (by decide : 0 + 0 ≤ _)⟩)
          dsimp only [Pt.U, Pt.locs, Pt.cells, Pt.slots] at X193 l193 y193 z193 st193 hQ193
          subst l193 y193 z193
          obtain ⟨rfl, Nq193, eh193⟩ := hQ193
          have N193 := Fr.app N0 Nq193
          have k194 := fun (t : State) (kt : Steps p.tables e below (T193.setTop (mkF m 276 #[.val (.int p1), .val (.long p2), .second, .val (.int p3), .val (.int (p1 &&& (7 : Int32))), .val (.ref aUINT32), .val (.long (0 : Int64)), .second, .val (.long (4294967295 : Int64)), .second, .val (.int (p3 &&& (3 : Int32))), .val (.long ((p2 &&& (3 : Int64)) - (1 : Int64))), .second, .val (.long xv), .second, .val (.int (1 : Int32))] [(.int (1 : Int32)), (.int (own_holds (0 : Int32) (32 : Int32) xv))])) t) => k192 t (by
            refine st193.trans ?_
            show Steps p.tables e below (T193.setTop (mkF m 274 #[.val (.int p1), .val (.long p2), .second, .val (.int p3), .val (.int (p1 &&& (7 : Int32))), .val (.ref aUINT32), .val (.long (0 : Int64)), .second, .val (.long (4294967295 : Int64)), .second, .val (.int (p3 &&& (3 : Int32))), .val (.long ((p2 &&& (3 : Int64)) - (1 : Int64))), .second, .val (.long xv), .second, .val (.int (1 : Int32))] [(.int (own_holds (0 : Int32) (32 : Int32) xv))])) _
            refine XS.iload X193.here hx rfl (hb hby at_274) rfl ?_
            show Steps p.tables e below (T193.setTop (mkF m 276 #[.val (.int p1), .val (.long p2), .second, .val (.int p3), .val (.int (p1 &&& (7 : Int32))), .val (.ref aUINT32), .val (.long (0 : Int64)), .second, .val (.long (4294967295 : Int64)), .second, .val (.int (p3 &&& (3 : Int32))), .val (.long ((p2 &&& (3 : Int64)) - (1 : Int64))), .second, .val (.long xv), .second, .val (.int (1 : Int32))] [(.int (1 : Int32)), (.int (own_holds (0 : Int32) (32 : Int32) xv))])) _
            exact kt)
          have k195 := fun (t : State) (kt : Steps p.tables e below (T193.setTop (mkF m 284 #[.val (.int p1), .val (.long p2), .second, .val (.int p3), .val (.int (p1 &&& (7 : Int32))), .val (.ref aUINT32), .val (.long (0 : Int64)), .second, .val (.long (4294967295 : Int64)), .second, .val (.int (p3 &&& (3 : Int32))), .val (.long ((p2 &&& (3 : Int64)) - (1 : Int64))), .second, .val (.long xv), .second, .val (.int (1 : Int32))] [(.int (1 : Int32))])) t) => k194 t (by
            refine XS.icmpNo X193.here hx rfl (hb hby at_276) rfl (teq (own_in_UINT32 hc249_181 hc257_187)).2 ?_
            show Steps p.tables e below (T193.setTop (mkF m 279 #[.val (.int p1), .val (.long p2), .second, .val (.int p3), .val (.int (p1 &&& (7 : Int32))), .val (.ref aUINT32), .val (.long (0 : Int64)), .second, .val (.long (4294967295 : Int64)), .second, .val (.int (p3 &&& (3 : Int32))), .val (.long ((p2 &&& (3 : Int64)) - (1 : Int64))), .second, .val (.long xv), .second, .val (.int (1 : Int32))] [])) _
            refine XS.iconst X193.here hx rfl (hb hby at_279) ?_
            show Steps p.tables e below (T193.setTop (mkF m 280 #[.val (.int p1), .val (.long p2), .second, .val (.int p3), .val (.int (p1 &&& (7 : Int32))), .val (.ref aUINT32), .val (.long (0 : Int64)), .second, .val (.long (4294967295 : Int64)), .second, .val (.int (p3 &&& (3 : Int32))), .val (.long ((p2 &&& (3 : Int64)) - (1 : Int64))), .second, .val (.long xv), .second, .val (.int (1 : Int32))] [(.int (1 : Int32))])) _
            refine XS.goto X193.here hx rfl (pc0 := 280) (pc' := 284) rfl (hb hby at_280) (by decide) (by decide) ?_
            show Steps p.tables e below (T193.setTop (mkF m 284 #[.val (.int p1), .val (.long p2), .second, .val (.int p3), .val (.int (p1 &&& (7 : Int32))), .val (.ref aUINT32), .val (.long (0 : Int64)), .second, .val (.long (4294967295 : Int64)), .second, .val (.int (p3 &&& (3 : Int32))), .val (.long ((p2 &&& (3 : Int64)) - (1 : Int64))), .second, .val (.long xv), .second, .val (.int (1 : Int32))] [(.int (1 : Int32))])) _
            exact kt)
          obtain ⟨fs, hr, hrun, hended, hW, hsame⟩ := X193.leave (v := some (.int (1 : Int32))) (fun h => by rw [Bd.returns] at h; cases h)
          refine ⟨_, _, k195 _ ?_, hrun, hended, _, _, rfl, ?_, ⟨_, rfl⟩, hW, hsame.mono (by decide) (by decide)⟩
          · exact retN X193 hx (t := .boolean) Bd.returns (by simp) (hb hby at_284) hr
          · show Q0 n0 _ T193.heap _
            rw [eh193]
            exact ⟨rfl, N193⟩
  · have k196 := fun (t : State) (kt : Steps p.tables e below (s₁.setTop (mkF m 8 #[.val (.int p1), .val (.long p2), .second, .val (.int p3), .val (.int (p1 &&& (7 : Int32))), .unset, .unset, .unset, .unset, .unset, .unset, .unset, .unset, .unset, .unset, .unset] [(.int (p1 &&& (7 : Int32)))])) t) => pre0 t (by
      refine XS.iloadN X0.here hx rfl (hb hby at_0) rfl ?_
      show Steps p.tables e below (s₁.setTop (mkF m 1 #[.val (.int p1), .val (.long p2), .second, .val (.int p3), .unset, .unset, .unset, .unset, .unset, .unset, .unset, .unset, .unset, .unset, .unset, .unset] [(.int p1)])) _
      refine XS.bipush X0.here hx rfl (hb hby at_1) ?_
      show Steps p.tables e below (s₁.setTop (mkF m 3 #[.val (.int p1), .val (.long p2), .second, .val (.int p3), .unset, .unset, .unset, .unset, .unset, .unset, .unset, .unset, .unset, .unset, .unset, .unset] [(.int (7 : Int32)), (.int p1)])) _
      refine XS.iand X0.here hx rfl (hb hby at_3) rfl ?_
      show Steps p.tables e below (s₁.setTop (mkF m 4 #[.val (.int p1), .val (.long p2), .second, .val (.int p3), .unset, .unset, .unset, .unset, .unset, .unset, .unset, .unset, .unset, .unset, .unset, .unset] [(.int (p1 &&& (7 : Int32)))])) _
      refine XS.istore X0.here hx rfl (hb hby at_4) rfl (l' := #[.val (.int p1), .val (.long p2), .second, .val (.int p3), .val (.int (p1 &&& (7 : Int32))), .unset, .unset, .unset, .unset, .unset, .unset, .unset, .unset, .unset, .unset, .unset]) rfl ?_
      show Steps p.tables e below (s₁.setTop (mkF m 6 #[.val (.int p1), .val (.long p2), .second, .val (.int p3), .val (.int (p1 &&& (7 : Int32))), .unset, .unset, .unset, .unset, .unset, .unset, .unset, .unset, .unset, .unset, .unset] [])) _
      refine XS.iload X0.here hx rfl (hb hby at_6) rfl ?_
      show Steps p.tables e below (s₁.setTop (mkF m 8 #[.val (.int p1), .val (.long p2), .second, .val (.int p3), .val (.int (p1 &&& (7 : Int32))), .unset, .unset, .unset, .unset, .unset, .unset, .unset, .unset, .unset, .unset, .unset] [(.int (p1 &&& (7 : Int32)))])) _
      exact kt)
    have k197 := fun (t : State) (kt : Steps p.tables e below (s₁.setTop (mkF m 32 #[.val (.int p1), .val (.long p2), .second, .val (.int p3), .val (.int (p1 &&& (7 : Int32))), .unset, .unset, .unset, .unset, .unset, .unset, .unset, .unset, .unset, .unset, .unset] [(.int (1 : Int32)), (.int (p1 &&& (7 : Int32)))])) t) => k196 t (by
      refine XS.ifYes X0.here hx rfl (pc0 := 8) (pc' := 29) rfl (hb hby at_8) rfl ((if0 _ _).trans (feq (by rw [hk]; decide)).2) (by decide) (by decide) ?_
      show Steps p.tables e below (s₁.setTop (mkF m 29 #[.val (.int p1), .val (.long p2), .second, .val (.int p3), .val (.int (p1 &&& (7 : Int32))), .unset, .unset, .unset, .unset, .unset, .unset, .unset, .unset, .unset, .unset, .unset] [])) _
      refine XS.iload X0.here hx rfl (hb hby at_29) rfl ?_
      show Steps p.tables e below (s₁.setTop (mkF m 31 #[.val (.int p1), .val (.long p2), .second, .val (.int p3), .val (.int (p1 &&& (7 : Int32))), .unset, .unset, .unset, .unset, .unset, .unset, .unset, .unset, .unset, .unset, .unset] [(.int (p1 &&& (7 : Int32)))])) _
      refine XS.iconst X0.here hx rfl (hb hby at_31) ?_
      show Steps p.tables e below (s₁.setTop (mkF m 32 #[.val (.int p1), .val (.long p2), .second, .val (.int p3), .val (.int (p1 &&& (7 : Int32))), .unset, .unset, .unset, .unset, .unset, .unset, .unset, .unset, .unset, .unset, .unset] [(.int (1 : Int32)), (.int (p1 &&& (7 : Int32)))])) _
      exact kt)
    have k198 := fun (t : State) (kt : Steps p.tables e below (s₁.setTop (mkF m 54 #[.val (.int p1), .val (.long p2), .second, .val (.int p3), .val (.int (p1 &&& (7 : Int32))), .unset, .unset, .unset, .unset, .unset, .unset, .unset, .unset, .unset, .unset, .unset] [(.int (2 : Int32)), (.int (p1 &&& (7 : Int32)))])) t) => k197 t (by
      refine XS.icmpYes X0.here hx rfl (pc0 := 32) (pc' := 51) rfl (hb hby at_32) rfl (feq (by rw [hk]; decide)).2 (by decide) (by decide) ?_
      show Steps p.tables e below (s₁.setTop (mkF m 51 #[.val (.int p1), .val (.long p2), .second, .val (.int p3), .val (.int (p1 &&& (7 : Int32))), .unset, .unset, .unset, .unset, .unset, .unset, .unset, .unset, .unset, .unset, .unset] [])) _
      refine XS.iload X0.here hx rfl (hb hby at_51) rfl ?_
      show Steps p.tables e below (s₁.setTop (mkF m 53 #[.val (.int p1), .val (.long p2), .second, .val (.int p3), .val (.int (p1 &&& (7 : Int32))), .unset, .unset, .unset, .unset, .unset, .unset, .unset, .unset, .unset, .unset, .unset] [(.int (p1 &&& (7 : Int32)))])) _
      refine XS.iconst X0.here hx rfl (hb hby at_53) ?_
      show Steps p.tables e below (s₁.setTop (mkF m 54 #[.val (.int p1), .val (.long p2), .second, .val (.int p3), .val (.int (p1 &&& (7 : Int32))), .unset, .unset, .unset, .unset, .unset, .unset, .unset, .unset, .unset, .unset, .unset] [(.int (2 : Int32)), (.int (p1 &&& (7 : Int32)))])) _
      exact kt)
    have k199 := fun (t : State) (kt : Steps p.tables e below (s₁.setTop (mkF m 78 #[.val (.int p1), .val (.long p2), .second, .val (.int p3), .val (.int (p1 &&& (7 : Int32))), .unset, .unset, .unset, .unset, .unset, .unset, .unset, .unset, .unset, .unset, .unset] [(.int (3 : Int32)), (.int (p1 &&& (7 : Int32)))])) t) => k198 t (by
      refine XS.icmpYes X0.here hx rfl (pc0 := 54) (pc' := 75) rfl (hb hby at_54) rfl (feq (by rw [hk]; decide)).2 (by decide) (by decide) ?_
      show Steps p.tables e below (s₁.setTop (mkF m 75 #[.val (.int p1), .val (.long p2), .second, .val (.int p3), .val (.int (p1 &&& (7 : Int32))), .unset, .unset, .unset, .unset, .unset, .unset, .unset, .unset, .unset, .unset, .unset] [])) _
      refine XS.iload X0.here hx rfl (hb hby at_75) rfl ?_
      show Steps p.tables e below (s₁.setTop (mkF m 77 #[.val (.int p1), .val (.long p2), .second, .val (.int p3), .val (.int (p1 &&& (7 : Int32))), .unset, .unset, .unset, .unset, .unset, .unset, .unset, .unset, .unset, .unset, .unset] [(.int (p1 &&& (7 : Int32)))])) _
      refine XS.iconst X0.here hx rfl (hb hby at_77) ?_
      show Steps p.tables e below (s₁.setTop (mkF m 78 #[.val (.int p1), .val (.long p2), .second, .val (.int p3), .val (.int (p1 &&& (7 : Int32))), .unset, .unset, .unset, .unset, .unset, .unset, .unset, .unset, .unset, .unset, .unset] [(.int (3 : Int32)), (.int (p1 &&& (7 : Int32)))])) _
      exact kt)
    have k200 := fun (t : State) (kt : Steps p.tables e below (s₁.setTop (mkF m 100 #[.val (.int p1), .val (.long p2), .second, .val (.int p3), .val (.int (p1 &&& (7 : Int32))), .unset, .unset, .unset, .unset, .unset, .unset, .unset, .unset, .unset, .unset, .unset] [(.int (4 : Int32)), (.int (p1 &&& (7 : Int32)))])) t) => k199 t (by
      refine XS.icmpYes X0.here hx rfl (pc0 := 78) (pc' := 97) rfl (hb hby at_78) rfl (feq (by rw [hk]; decide)).2 (by decide) (by decide) ?_
      show Steps p.tables e below (s₁.setTop (mkF m 97 #[.val (.int p1), .val (.long p2), .second, .val (.int p3), .val (.int (p1 &&& (7 : Int32))), .unset, .unset, .unset, .unset, .unset, .unset, .unset, .unset, .unset, .unset, .unset] [])) _
      refine XS.iload X0.here hx rfl (hb hby at_97) rfl ?_
      show Steps p.tables e below (s₁.setTop (mkF m 99 #[.val (.int p1), .val (.long p2), .second, .val (.int p3), .val (.int (p1 &&& (7 : Int32))), .unset, .unset, .unset, .unset, .unset, .unset, .unset, .unset, .unset, .unset, .unset] [(.int (p1 &&& (7 : Int32)))])) _
      refine XS.iconst X0.here hx rfl (hb hby at_99) ?_
      show Steps p.tables e below (s₁.setTop (mkF m 100 #[.val (.int p1), .val (.long p2), .second, .val (.int p3), .val (.int (p1 &&& (7 : Int32))), .unset, .unset, .unset, .unset, .unset, .unset, .unset, .unset, .unset, .unset, .unset] [(.int (4 : Int32)), (.int (p1 &&& (7 : Int32)))])) _
      exact kt)
    have k201 := fun (t : State) (kt : Steps p.tables e below (s₁.setTop (mkF m 124 #[.val (.int p1), .val (.long p2), .second, .val (.int p3), .val (.int (p1 &&& (7 : Int32))), .unset, .unset, .unset, .unset, .unset, .unset, .unset, .unset, .unset, .unset, .unset] [(.int (5 : Int32)), (.int (p1 &&& (7 : Int32)))])) t) => k200 t (by
      refine XS.icmpYes X0.here hx rfl (pc0 := 100) (pc' := 121) rfl (hb hby at_100) rfl (feq (by rw [hk]; decide)).2 (by decide) (by decide) ?_
      show Steps p.tables e below (s₁.setTop (mkF m 121 #[.val (.int p1), .val (.long p2), .second, .val (.int p3), .val (.int (p1 &&& (7 : Int32))), .unset, .unset, .unset, .unset, .unset, .unset, .unset, .unset, .unset, .unset, .unset] [])) _
      refine XS.iload X0.here hx rfl (hb hby at_121) rfl ?_
      show Steps p.tables e below (s₁.setTop (mkF m 123 #[.val (.int p1), .val (.long p2), .second, .val (.int p3), .val (.int (p1 &&& (7 : Int32))), .unset, .unset, .unset, .unset, .unset, .unset, .unset, .unset, .unset, .unset, .unset] [(.int (p1 &&& (7 : Int32)))])) _
      refine XS.iconst X0.here hx rfl (hb hby at_123) ?_
      show Steps p.tables e below (s₁.setTop (mkF m 124 #[.val (.int p1), .val (.long p2), .second, .val (.int p3), .val (.int (p1 &&& (7 : Int32))), .unset, .unset, .unset, .unset, .unset, .unset, .unset, .unset, .unset, .unset, .unset] [(.int (5 : Int32)), (.int (p1 &&& (7 : Int32)))])) _
      exact kt)
    have k202 := fun (t : State) (kt : Steps p.tables e below (s₁.setTop (mkF m 147 #[.val (.int p1), .val (.long p2), .second, .val (.int p3), .val (.int (p1 &&& (7 : Int32))), .unset, .unset, .unset, .unset, .unset, .unset, .unset, .unset, .unset, .unset, .unset] [(.int (6 : Int32)), (.int (p1 &&& (7 : Int32)))])) t) => k201 t (by
      refine XS.icmpYes X0.here hx rfl (pc0 := 124) (pc' := 143) rfl (hb hby at_124) rfl (feq (by rw [hk]; decide)).2 (by decide) (by decide) ?_
      show Steps p.tables e below (s₁.setTop (mkF m 143 #[.val (.int p1), .val (.long p2), .second, .val (.int p3), .val (.int (p1 &&& (7 : Int32))), .unset, .unset, .unset, .unset, .unset, .unset, .unset, .unset, .unset, .unset, .unset] [])) _
      refine XS.iload X0.here hx rfl (hb hby at_143) rfl ?_
      show Steps p.tables e below (s₁.setTop (mkF m 145 #[.val (.int p1), .val (.long p2), .second, .val (.int p3), .val (.int (p1 &&& (7 : Int32))), .unset, .unset, .unset, .unset, .unset, .unset, .unset, .unset, .unset, .unset, .unset] [(.int (p1 &&& (7 : Int32)))])) _
      refine XS.bipush X0.here hx rfl (hb hby at_145) ?_
      show Steps p.tables e below (s₁.setTop (mkF m 147 #[.val (.int p1), .val (.long p2), .second, .val (.int p3), .val (.int (p1 &&& (7 : Int32))), .unset, .unset, .unset, .unset, .unset, .unset, .unset, .unset, .unset, .unset, .unset] [(.int (6 : Int32)), (.int (p1 &&& (7 : Int32)))])) _
      exact kt)
    have k203 := fun (t : State) (kt : Steps p.tables e below (s₁.setTop (mkF m 150 #[.val (.int p1), .val (.long p2), .second, .val (.int p3), .val (.int (p1 &&& (7 : Int32))), .unset, .unset, .unset, .unset, .unset, .unset, .unset, .unset, .unset, .unset, .unset] [])) t) => k202 t (by
      refine XS.icmpNo X0.here hx rfl (hb hby at_147) rfl (teq hk).2 ?_
      show Steps p.tables e below (s₁.setTop (mkF m 150 #[.val (.int p1), .val (.long p2), .second, .val (.int p3), .val (.int (p1 &&& (7 : Int32))), .unset, .unset, .unset, .unset, .unset, .unset, .unset, .unset, .unset, .unset, .unset] [])) _
      exact kt)
    obtain ⟨T204, X204, e204, st204⟩ := getS2 X0 hx hZ hown (host := "") (Or.inl (hw _ (List.mem_of_getElem? (i := 32) rfl))) Via.refl e0 (S_INT64.ext O0.2) (g := (mkF m 150 #[.val (.int p1), .val (.long p2), .second, .val (.int p3), .val (.int (p1 &&& (7 : Int32))), .unset, .unset, .unset, .unset, .unset, .unset, .unset, .unset, .unset, .unset, .unset] [])) rfl (hb hby at_150)
    have k205 := fun (t : State) (kt : Steps p.tables e below (T204.setTop (mkF m 181 #[.val (.int p1), .val (.long p2), .second, .val (.int p3), .val (.int (p1 &&& (7 : Int32))), .val (.ref aINT64), .val (.long (-9223372036854775808 : Int64)), .second, .val (.long (9223372036854775807 : Int64)), .second, .unset, .unset, .unset, .unset, .unset, .unset] [])) t) => k203 t (by
      refine st204 _ ?_
      show Steps p.tables e below (T204.setTop (mkF m 153 #[.val (.int p1), .val (.long p2), .second, .val (.int p3), .val (.int (p1 &&& (7 : Int32))), .unset, .unset, .unset, .unset, .unset, .unset, .unset, .unset, .unset, .unset, .unset] [(.ref aINT64)])) _
      refine XS.astore X204.here hx rfl (hb hby at_153) rfl rfl (l' := #[.val (.int p1), .val (.long p2), .second, .val (.int p3), .val (.int (p1 &&& (7 : Int32))), .val (.ref aINT64), .unset, .unset, .unset, .unset, .unset, .unset, .unset, .unset, .unset, .unset]) rfl ?_
      show Steps p.tables e below (T204.setTop (mkF m 155 #[.val (.int p1), .val (.long p2), .second, .val (.int p3), .val (.int (p1 &&& (7 : Int32))), .val (.ref aINT64), .unset, .unset, .unset, .unset, .unset, .unset, .unset, .unset, .unset, .unset] [])) _
      refine X204.ldc2Long hx hown (mvT hZ (hw _ (List.mem_of_getElem? (i := 34) rfl))) (g := (mkF m 155 #[.val (.int p1), .val (.long p2), .second, .val (.int p3), .val (.int (p1 &&& (7 : Int32))), .val (.ref aINT64), .unset, .unset, .unset, .unset, .unset, .unset, .unset, .unset, .unset, .unset] [])) rfl (hb hby at_155) _ ?_
      show Steps p.tables e below (T204.setTop (mkF m 158 #[.val (.int p1), .val (.long p2), .second, .val (.int p3), .val (.int (p1 &&& (7 : Int32))), .val (.ref aINT64), .unset, .unset, .unset, .unset, .unset, .unset, .unset, .unset, .unset, .unset] [(.long (-9223372036854775808 : Int64))])) _
      refine XS.lstore X204.here hx rfl (hb hby at_158) rfl (l' := #[.val (.int p1), .val (.long p2), .second, .val (.int p3), .val (.int (p1 &&& (7 : Int32))), .val (.ref aINT64), .val (.long (-9223372036854775808 : Int64)), .second, .unset, .unset, .unset, .unset, .unset, .unset, .unset, .unset]) rfl ?_
      show Steps p.tables e below (T204.setTop (mkF m 160 #[.val (.int p1), .val (.long p2), .second, .val (.int p3), .val (.int (p1 &&& (7 : Int32))), .val (.ref aINT64), .val (.long (-9223372036854775808 : Int64)), .second, .unset, .unset, .unset, .unset, .unset, .unset, .unset, .unset] [])) _
      refine X204.ldc2Long hx hown (mvT hZ (hw _ (List.mem_of_getElem? (i := 21) rfl))) (g := (mkF m 160 #[.val (.int p1), .val (.long p2), .second, .val (.int p3), .val (.int (p1 &&& (7 : Int32))), .val (.ref aINT64), .val (.long (-9223372036854775808 : Int64)), .second, .unset, .unset, .unset, .unset, .unset, .unset, .unset, .unset] [])) rfl (hb hby at_160) _ ?_
      show Steps p.tables e below (T204.setTop (mkF m 163 #[.val (.int p1), .val (.long p2), .second, .val (.int p3), .val (.int (p1 &&& (7 : Int32))), .val (.ref aINT64), .val (.long (-9223372036854775808 : Int64)), .second, .unset, .unset, .unset, .unset, .unset, .unset, .unset, .unset] [(.long (9223372036854775807 : Int64))])) _
      refine XS.lstore X204.here hx rfl (hb hby at_163) rfl (l' := #[.val (.int p1), .val (.long p2), .second, .val (.int p3), .val (.int (p1 &&& (7 : Int32))), .val (.ref aINT64), .val (.long (-9223372036854775808 : Int64)), .second, .val (.long (9223372036854775807 : Int64)), .second, .unset, .unset, .unset, .unset, .unset, .unset]) rfl ?_
      show Steps p.tables e below (T204.setTop (mkF m 165 #[.val (.int p1), .val (.long p2), .second, .val (.int p3), .val (.int (p1 &&& (7 : Int32))), .val (.ref aINT64), .val (.long (-9223372036854775808 : Int64)), .second, .val (.long (9223372036854775807 : Int64)), .second, .unset, .unset, .unset, .unset, .unset, .unset] [])) _
      refine XS.goto X204.here hx rfl (pc0 := 165) (pc' := 181) rfl (hb hby at_165) (by decide) (by decide) ?_
      show Steps p.tables e below (T204.setTop (mkF m 181 #[.val (.int p1), .val (.long p2), .second, .val (.int p3), .val (.int (p1 &&& (7 : Int32))), .val (.ref aINT64), .val (.long (-9223372036854775808 : Int64)), .second, .val (.long (9223372036854775807 : Int64)), .second, .unset, .unset, .unset, .unset, .unset, .unset] [])) _
      exact kt)
    refine cps (A := ∃ xv : Int64, ∀ t, Steps p.tables e below (T204.setTop (mkF m 244 #[.val (.int p1), .val (.long p2), .second, .val (.int p3), .val (.int (p1 &&& (7 : Int32))), .val (.ref aINT64), .val (.long (-9223372036854775808 : Int64)), .second, .val (.long (9223372036854775807 : Int64)), .second, .val (.int (p3 &&& (3 : Int32))), .val (.long ((p2 &&& (3 : Int64)) - (1 : Int64))), .second, .val (.long xv), .second, .unset] [])) t → Steps p.tables e below (s₁.setTop (entryFrame m #[(.int p1), (.long p2), (.int p3)] maxLocals)) t) ?_ ?_
    · intro join
      have k206 := fun (t : State) (kt : Steps p.tables e below (T204.setTop (mkF m 197 #[.val (.int p1), .val (.long p2), .second, .val (.int p3), .val (.int (p1 &&& (7 : Int32))), .val (.ref aINT64), .val (.long (-9223372036854775808 : Int64)), .second, .val (.long (9223372036854775807 : Int64)), .second, .val (.int (p3 &&& (3 : Int32))), .val (.long ((p2 &&& (3 : Int64)) - (1 : Int64))), .second, .unset, .unset, .unset] [(.int (p3 &&& (3 : Int32)))])) t) => k205 t (by
        refine XS.iloadN X204.here hx rfl (hb hby at_181) rfl ?_
        show Steps p.tables e below (T204.setTop (mkF m 182 #[.val (.int p1), .val (.long p2), .second, .val (.int p3), .val (.int (p1 &&& (7 : Int32))), .val (.ref aINT64), .val (.long (-9223372036854775808 : Int64)), .second, .val (.long (9223372036854775807 : Int64)), .second, .unset, .unset, .unset, .unset, .unset, .unset] [(.int p3)])) _
        refine XS.iconst X204.here hx rfl (hb hby at_182) ?_
        show Steps p.tables e below (T204.setTop (mkF m 183 #[.val (.int p1), .val (.long p2), .second, .val (.int p3), .val (.int (p1 &&& (7 : Int32))), .val (.ref aINT64), .val (.long (-9223372036854775808 : Int64)), .second, .val (.long (9223372036854775807 : Int64)), .second, .unset, .unset, .unset, .unset, .unset, .unset] [(.int (3 : Int32)), (.int p3)])) _
        refine XS.iand X204.here hx rfl (hb hby at_183) rfl ?_
        show Steps p.tables e below (T204.setTop (mkF m 184 #[.val (.int p1), .val (.long p2), .second, .val (.int p3), .val (.int (p1 &&& (7 : Int32))), .val (.ref aINT64), .val (.long (-9223372036854775808 : Int64)), .second, .val (.long (9223372036854775807 : Int64)), .second, .unset, .unset, .unset, .unset, .unset, .unset] [(.int (p3 &&& (3 : Int32)))])) _
        refine XS.istore X204.here hx rfl (hb hby at_184) rfl (l' := #[.val (.int p1), .val (.long p2), .second, .val (.int p3), .val (.int (p1 &&& (7 : Int32))), .val (.ref aINT64), .val (.long (-9223372036854775808 : Int64)), .second, .val (.long (9223372036854775807 : Int64)), .second, .val (.int (p3 &&& (3 : Int32))), .unset, .unset, .unset, .unset, .unset]) rfl ?_
        show Steps p.tables e below (T204.setTop (mkF m 186 #[.val (.int p1), .val (.long p2), .second, .val (.int p3), .val (.int (p1 &&& (7 : Int32))), .val (.ref aINT64), .val (.long (-9223372036854775808 : Int64)), .second, .val (.long (9223372036854775807 : Int64)), .second, .val (.int (p3 &&& (3 : Int32))), .unset, .unset, .unset, .unset, .unset] [])) _
        refine XS.lloadN X204.here hx rfl (hb hby at_186) rfl ?_
        show Steps p.tables e below (T204.setTop (mkF m 187 #[.val (.int p1), .val (.long p2), .second, .val (.int p3), .val (.int (p1 &&& (7 : Int32))), .val (.ref aINT64), .val (.long (-9223372036854775808 : Int64)), .second, .val (.long (9223372036854775807 : Int64)), .second, .val (.int (p3 &&& (3 : Int32))), .unset, .unset, .unset, .unset, .unset] [(.long p2)])) _
        refine X204.ldc2Long hx hown (mvT hZ (hw _ (List.mem_of_getElem? (i := 5) rfl))) (g := (mkF m 187 #[.val (.int p1), .val (.long p2), .second, .val (.int p3), .val (.int (p1 &&& (7 : Int32))), .val (.ref aINT64), .val (.long (-9223372036854775808 : Int64)), .second, .val (.long (9223372036854775807 : Int64)), .second, .val (.int (p3 &&& (3 : Int32))), .unset, .unset, .unset, .unset, .unset] [(.long p2)])) rfl (hb hby at_187) _ ?_
        show Steps p.tables e below (T204.setTop (mkF m 190 #[.val (.int p1), .val (.long p2), .second, .val (.int p3), .val (.int (p1 &&& (7 : Int32))), .val (.ref aINT64), .val (.long (-9223372036854775808 : Int64)), .second, .val (.long (9223372036854775807 : Int64)), .second, .val (.int (p3 &&& (3 : Int32))), .unset, .unset, .unset, .unset, .unset] [(.long (3 : Int64)), (.long p2)])) _
        refine XS.land X204.here hx rfl (hb hby at_190) rfl ?_
        show Steps p.tables e below (T204.setTop (mkF m 191 #[.val (.int p1), .val (.long p2), .second, .val (.int p3), .val (.int (p1 &&& (7 : Int32))), .val (.ref aINT64), .val (.long (-9223372036854775808 : Int64)), .second, .val (.long (9223372036854775807 : Int64)), .second, .val (.int (p3 &&& (3 : Int32))), .unset, .unset, .unset, .unset, .unset] [(.long (p2 &&& (3 : Int64)))])) _
        refine XS.lconst X204.here hx rfl (hb hby at_191) ?_
        show Steps p.tables e below (T204.setTop (mkF m 192 #[.val (.int p1), .val (.long p2), .second, .val (.int p3), .val (.int (p1 &&& (7 : Int32))), .val (.ref aINT64), .val (.long (-9223372036854775808 : Int64)), .second, .val (.long (9223372036854775807 : Int64)), .second, .val (.int (p3 &&& (3 : Int32))), .unset, .unset, .unset, .unset, .unset] [(.long (1 : Int64)), (.long (p2 &&& (3 : Int64)))])) _
        refine XS.lsub X204.here hx rfl (hb hby at_192) rfl ?_
        show Steps p.tables e below (T204.setTop (mkF m 193 #[.val (.int p1), .val (.long p2), .second, .val (.int p3), .val (.int (p1 &&& (7 : Int32))), .val (.ref aINT64), .val (.long (-9223372036854775808 : Int64)), .second, .val (.long (9223372036854775807 : Int64)), .second, .val (.int (p3 &&& (3 : Int32))), .unset, .unset, .unset, .unset, .unset] [(.long ((p2 &&& (3 : Int64)) - (1 : Int64)))])) _
        refine XS.lstore X204.here hx rfl (hb hby at_193) rfl (l' := #[.val (.int p1), .val (.long p2), .second, .val (.int p3), .val (.int (p1 &&& (7 : Int32))), .val (.ref aINT64), .val (.long (-9223372036854775808 : Int64)), .second, .val (.long (9223372036854775807 : Int64)), .second, .val (.int (p3 &&& (3 : Int32))), .val (.long ((p2 &&& (3 : Int64)) - (1 : Int64))), .second, .unset, .unset, .unset]) rfl ?_
        show Steps p.tables e below (T204.setTop (mkF m 195 #[.val (.int p1), .val (.long p2), .second, .val (.int p3), .val (.int (p1 &&& (7 : Int32))), .val (.ref aINT64), .val (.long (-9223372036854775808 : Int64)), .second, .val (.long (9223372036854775807 : Int64)), .second, .val (.int (p3 &&& (3 : Int32))), .val (.long ((p2 &&& (3 : Int64)) - (1 : Int64))), .second, .unset, .unset, .unset] [])) _
        refine XS.iload X204.here hx rfl (hb hby at_195) rfl ?_
        show Steps p.tables e below (T204.setTop (mkF m 197 #[.val (.int p1), .val (.long p2), .second, .val (.int p3), .val (.int (p1 &&& (7 : Int32))), .val (.ref aINT64), .val (.long (-9223372036854775808 : Int64)), .second, .val (.long (9223372036854775807 : Int64)), .second, .val (.int (p3 &&& (3 : Int32))), .val (.long ((p2 &&& (3 : Int64)) - (1 : Int64))), .second, .unset, .unset, .unset] [(.int (p3 &&& (3 : Int32)))])) _
        exact kt)
      by_cases hc197_207 : (p3 &&& (3 : Int32)) = (0 : Int32)
      · have k208 := fun (t : State) (kt : Steps p.tables e below (T204.setTop (mkF m 244 #[.val (.int p1), .val (.long p2), .second, .val (.int p3), .val (.int (p1 &&& (7 : Int32))), .val (.ref aINT64), .val (.long (-9223372036854775808 : Int64)), .second, .val (.long (9223372036854775807 : Int64)), .second, .val (.int (p3 &&& (3 : Int32))), .val (.long ((p2 &&& (3 : Int64)) - (1 : Int64))), .second, .val (.long p2), .second, .unset] [])) t) => k206 t (by
          refine XS.ifNo X204.here hx rfl (hb hby at_197) rfl ((if0 _ _).trans (teq hc197_207).2) ?_
          show Steps p.tables e below (T204.setTop (mkF m 200 #[.val (.int p1), .val (.long p2), .second, .val (.int p3), .val (.int (p1 &&& (7 : Int32))), .val (.ref aINT64), .val (.long (-9223372036854775808 : Int64)), .second, .val (.long (9223372036854775807 : Int64)), .second, .val (.int (p3 &&& (3 : Int32))), .val (.long ((p2 &&& (3 : Int64)) - (1 : Int64))), .second, .unset, .unset, .unset] [])) _
          refine XS.lloadN X204.here hx rfl (hb hby at_200) rfl ?_
          show Steps p.tables e below (T204.setTop (mkF m 201 #[.val (.int p1), .val (.long p2), .second, .val (.int p3), .val (.int (p1 &&& (7 : Int32))), .val (.ref aINT64), .val (.long (-9223372036854775808 : Int64)), .second, .val (.long (9223372036854775807 : Int64)), .second, .val (.int (p3 &&& (3 : Int32))), .val (.long ((p2 &&& (3 : Int64)) - (1 : Int64))), .second, .unset, .unset, .unset] [(.long p2)])) _
          refine XS.lstore X204.here hx rfl (hb hby at_201) rfl (l' := #[.val (.int p1), .val (.long p2), .second, .val (.int p3), .val (.int (p1 &&& (7 : Int32))), .val (.ref aINT64), .val (.long (-9223372036854775808 : Int64)), .second, .val (.long (9223372036854775807 : Int64)), .second, .val (.int (p3 &&& (3 : Int32))), .val (.long ((p2 &&& (3 : Int64)) - (1 : Int64))), .second, .val (.long p2), .second, .unset]) rfl ?_
          show Steps p.tables e below (T204.setTop (mkF m 203 #[.val (.int p1), .val (.long p2), .second, .val (.int p3), .val (.int (p1 &&& (7 : Int32))), .val (.ref aINT64), .val (.long (-9223372036854775808 : Int64)), .second, .val (.long (9223372036854775807 : Int64)), .second, .val (.int (p3 &&& (3 : Int32))), .val (.long ((p2 &&& (3 : Int64)) - (1 : Int64))), .second, .val (.long p2), .second, .unset] [])) _
          refine XS.goto X204.here hx rfl (pc0 := 203) (pc' := 244) rfl (hb hby at_203) (by decide) (by decide) ?_
          show Steps p.tables e below (T204.setTop (mkF m 244 #[.val (.int p1), .val (.long p2), .second, .val (.int p3), .val (.int (p1 &&& (7 : Int32))), .val (.ref aINT64), .val (.long (-9223372036854775808 : Int64)), .second, .val (.long (9223372036854775807 : Int64)), .second, .val (.int (p3 &&& (3 : Int32))), .val (.long ((p2 &&& (3 : Int64)) - (1 : Int64))), .second, .val (.long p2), .second, .unset] [])) _
          exact kt)
        exact join ⟨_, k208⟩
      · have k209 := fun (t : State) (kt : Steps p.tables e below (T204.setTop (mkF m 209 #[.val (.int p1), .val (.long p2), .second, .val (.int p3), .val (.int (p1 &&& (7 : Int32))), .val (.ref aINT64), .val (.long (-9223372036854775808 : Int64)), .second, .val (.long (9223372036854775807 : Int64)), .second, .val (.int (p3 &&& (3 : Int32))), .val (.long ((p2 &&& (3 : Int64)) - (1 : Int64))), .second, .unset, .unset, .unset] [(.int (1 : Int32)), (.int (p3 &&& (3 : Int32)))])) t) => k206 t (by
          refine XS.ifYes X204.here hx rfl (pc0 := 197) (pc' := 206) rfl (hb hby at_197) rfl ((if0 _ _).trans (feq hc197_207).2) (by decide) (by decide) ?_
          show Steps p.tables e below (T204.setTop (mkF m 206 #[.val (.int p1), .val (.long p2), .second, .val (.int p3), .val (.int (p1 &&& (7 : Int32))), .val (.ref aINT64), .val (.long (-9223372036854775808 : Int64)), .second, .val (.long (9223372036854775807 : Int64)), .second, .val (.int (p3 &&& (3 : Int32))), .val (.long ((p2 &&& (3 : Int64)) - (1 : Int64))), .second, .unset, .unset, .unset] [])) _
          refine XS.iload X204.here hx rfl (hb hby at_206) rfl ?_
          show Steps p.tables e below (T204.setTop (mkF m 208 #[.val (.int p1), .val (.long p2), .second, .val (.int p3), .val (.int (p1 &&& (7 : Int32))), .val (.ref aINT64), .val (.long (-9223372036854775808 : Int64)), .second, .val (.long (9223372036854775807 : Int64)), .second, .val (.int (p3 &&& (3 : Int32))), .val (.long ((p2 &&& (3 : Int64)) - (1 : Int64))), .second, .unset, .unset, .unset] [(.int (p3 &&& (3 : Int32)))])) _
          refine XS.iconst X204.here hx rfl (hb hby at_208) ?_
          show Steps p.tables e below (T204.setTop (mkF m 209 #[.val (.int p1), .val (.long p2), .second, .val (.int p3), .val (.int (p1 &&& (7 : Int32))), .val (.ref aINT64), .val (.long (-9223372036854775808 : Int64)), .second, .val (.long (9223372036854775807 : Int64)), .second, .val (.int (p3 &&& (3 : Int32))), .val (.long ((p2 &&& (3 : Int64)) - (1 : Int64))), .second, .unset, .unset, .unset] [(.int (1 : Int32)), (.int (p3 &&& (3 : Int32)))])) _
          exact kt)
        by_cases hc209_210 : (p3 &&& (3 : Int32)) = (1 : Int32)
        · have k211 := fun (t : State) (kt : Steps p.tables e below (T204.setTop (mkF m 244 #[.val (.int p1), .val (.long p2), .second, .val (.int p3), .val (.int (p1 &&& (7 : Int32))), .val (.ref aINT64), .val (.long (-9223372036854775808 : Int64)), .second, .val (.long (9223372036854775807 : Int64)), .second, .val (.int (p3 &&& (3 : Int32))), .val (.long ((p2 &&& (3 : Int64)) - (1 : Int64))), .second, .val (.long ((9223372036854775807 : Int64) + ((p2 &&& (3 : Int64)) - (1 : Int64)))), .second, .unset] [])) t) => k209 t (by
            refine XS.icmpNo X204.here hx rfl (hb hby at_209) rfl (teq hc209_210).2 ?_
            show Steps p.tables e below (T204.setTop (mkF m 212 #[.val (.int p1), .val (.long p2), .second, .val (.int p3), .val (.int (p1 &&& (7 : Int32))), .val (.ref aINT64), .val (.long (-9223372036854775808 : Int64)), .second, .val (.long (9223372036854775807 : Int64)), .second, .val (.int (p3 &&& (3 : Int32))), .val (.long ((p2 &&& (3 : Int64)) - (1 : Int64))), .second, .unset, .unset, .unset] [])) _
            refine XS.lload X204.here hx rfl (hb hby at_212) rfl ?_
            show Steps p.tables e below (T204.setTop (mkF m 214 #[.val (.int p1), .val (.long p2), .second, .val (.int p3), .val (.int (p1 &&& (7 : Int32))), .val (.ref aINT64), .val (.long (-9223372036854775808 : Int64)), .second, .val (.long (9223372036854775807 : Int64)), .second, .val (.int (p3 &&& (3 : Int32))), .val (.long ((p2 &&& (3 : Int64)) - (1 : Int64))), .second, .unset, .unset, .unset] [(.long (9223372036854775807 : Int64))])) _
            refine XS.lload X204.here hx rfl (hb hby at_214) rfl ?_
            show Steps p.tables e below (T204.setTop (mkF m 216 #[.val (.int p1), .val (.long p2), .second, .val (.int p3), .val (.int (p1 &&& (7 : Int32))), .val (.ref aINT64), .val (.long (-9223372036854775808 : Int64)), .second, .val (.long (9223372036854775807 : Int64)), .second, .val (.int (p3 &&& (3 : Int32))), .val (.long ((p2 &&& (3 : Int64)) - (1 : Int64))), .second, .unset, .unset, .unset] [(.long ((p2 &&& (3 : Int64)) - (1 : Int64))), (.long (9223372036854775807 : Int64))])) _
            refine XS.ladd X204.here hx rfl (hb hby at_216) rfl ?_
            show Steps p.tables e below (T204.setTop (mkF m 217 #[.val (.int p1), .val (.long p2), .second, .val (.int p3), .val (.int (p1 &&& (7 : Int32))), .val (.ref aINT64), .val (.long (-9223372036854775808 : Int64)), .second, .val (.long (9223372036854775807 : Int64)), .second, .val (.int (p3 &&& (3 : Int32))), .val (.long ((p2 &&& (3 : Int64)) - (1 : Int64))), .second, .unset, .unset, .unset] [(.long ((9223372036854775807 : Int64) + ((p2 &&& (3 : Int64)) - (1 : Int64))))])) _
            refine XS.lstore X204.here hx rfl (hb hby at_217) rfl (l' := #[.val (.int p1), .val (.long p2), .second, .val (.int p3), .val (.int (p1 &&& (7 : Int32))), .val (.ref aINT64), .val (.long (-9223372036854775808 : Int64)), .second, .val (.long (9223372036854775807 : Int64)), .second, .val (.int (p3 &&& (3 : Int32))), .val (.long ((p2 &&& (3 : Int64)) - (1 : Int64))), .second, .val (.long ((9223372036854775807 : Int64) + ((p2 &&& (3 : Int64)) - (1 : Int64)))), .second, .unset]) rfl ?_
            show Steps p.tables e below (T204.setTop (mkF m 219 #[.val (.int p1), .val (.long p2), .second, .val (.int p3), .val (.int (p1 &&& (7 : Int32))), .val (.ref aINT64), .val (.long (-9223372036854775808 : Int64)), .second, .val (.long (9223372036854775807 : Int64)), .second, .val (.int (p3 &&& (3 : Int32))), .val (.long ((p2 &&& (3 : Int64)) - (1 : Int64))), .second, .val (.long ((9223372036854775807 : Int64) + ((p2 &&& (3 : Int64)) - (1 : Int64)))), .second, .unset] [])) _
            refine XS.goto X204.here hx rfl (pc0 := 219) (pc' := 244) rfl (hb hby at_219) (by decide) (by decide) ?_
            show Steps p.tables e below (T204.setTop (mkF m 244 #[.val (.int p1), .val (.long p2), .second, .val (.int p3), .val (.int (p1 &&& (7 : Int32))), .val (.ref aINT64), .val (.long (-9223372036854775808 : Int64)), .second, .val (.long (9223372036854775807 : Int64)), .second, .val (.int (p3 &&& (3 : Int32))), .val (.long ((p2 &&& (3 : Int64)) - (1 : Int64))), .second, .val (.long ((9223372036854775807 : Int64) + ((p2 &&& (3 : Int64)) - (1 : Int64)))), .second, .unset] [])) _
            exact kt)
          exact join ⟨_, k211⟩
        · have k212 := fun (t : State) (kt : Steps p.tables e below (T204.setTop (mkF m 225 #[.val (.int p1), .val (.long p2), .second, .val (.int p3), .val (.int (p1 &&& (7 : Int32))), .val (.ref aINT64), .val (.long (-9223372036854775808 : Int64)), .second, .val (.long (9223372036854775807 : Int64)), .second, .val (.int (p3 &&& (3 : Int32))), .val (.long ((p2 &&& (3 : Int64)) - (1 : Int64))), .second, .unset, .unset, .unset] [(.int (2 : Int32)), (.int (p3 &&& (3 : Int32)))])) t) => k209 t (by
            refine XS.icmpYes X204.here hx rfl (pc0 := 209) (pc' := 222) rfl (hb hby at_209) rfl (feq hc209_210).2 (by decide) (by decide) ?_
            show Steps p.tables e below (T204.setTop (mkF m 222 #[.val (.int p1), .val (.long p2), .second, .val (.int p3), .val (.int (p1 &&& (7 : Int32))), .val (.ref aINT64), .val (.long (-9223372036854775808 : Int64)), .second, .val (.long (9223372036854775807 : Int64)), .second, .val (.int (p3 &&& (3 : Int32))), .val (.long ((p2 &&& (3 : Int64)) - (1 : Int64))), .second, .unset, .unset, .unset] [])) _
            refine XS.iload X204.here hx rfl (hb hby at_222) rfl ?_
            show Steps p.tables e below (T204.setTop (mkF m 224 #[.val (.int p1), .val (.long p2), .second, .val (.int p3), .val (.int (p1 &&& (7 : Int32))), .val (.ref aINT64), .val (.long (-9223372036854775808 : Int64)), .second, .val (.long (9223372036854775807 : Int64)), .second, .val (.int (p3 &&& (3 : Int32))), .val (.long ((p2 &&& (3 : Int64)) - (1 : Int64))), .second, .unset, .unset, .unset] [(.int (p3 &&& (3 : Int32)))])) _
            refine XS.iconst X204.here hx rfl (hb hby at_224) ?_
            show Steps p.tables e below (T204.setTop (mkF m 225 #[.val (.int p1), .val (.long p2), .second, .val (.int p3), .val (.int (p1 &&& (7 : Int32))), .val (.ref aINT64), .val (.long (-9223372036854775808 : Int64)), .second, .val (.long (9223372036854775807 : Int64)), .second, .val (.int (p3 &&& (3 : Int32))), .val (.long ((p2 &&& (3 : Int64)) - (1 : Int64))), .second, .unset, .unset, .unset] [(.int (2 : Int32)), (.int (p3 &&& (3 : Int32)))])) _
            exact kt)
          by_cases hc225_213 : (p3 &&& (3 : Int32)) = (2 : Int32)
          · have k214 := fun (t : State) (kt : Steps p.tables e below (T204.setTop (mkF m 244 #[.val (.int p1), .val (.long p2), .second, .val (.int p3), .val (.int (p1 &&& (7 : Int32))), .val (.ref aINT64), .val (.long (-9223372036854775808 : Int64)), .second, .val (.long (9223372036854775807 : Int64)), .second, .val (.int (p3 &&& (3 : Int32))), .val (.long ((p2 &&& (3 : Int64)) - (1 : Int64))), .second, .val (.long ((-9223372036854775808 : Int64) - ((p2 &&& (3 : Int64)) - (1 : Int64)))), .second, .unset] [])) t) => k212 t (by
              refine XS.icmpNo X204.here hx rfl (hb hby at_225) rfl (teq hc225_213).2 ?_
              show Steps p.tables e below (T204.setTop (mkF m 228 #[.val (.int p1), .val (.long p2), .second, .val (.int p3), .val (.int (p1 &&& (7 : Int32))), .val (.ref aINT64), .val (.long (-9223372036854775808 : Int64)), .second, .val (.long (9223372036854775807 : Int64)), .second, .val (.int (p3 &&& (3 : Int32))), .val (.long ((p2 &&& (3 : Int64)) - (1 : Int64))), .second, .unset, .unset, .unset] [])) _
              refine XS.lload X204.here hx rfl (hb hby at_228) rfl ?_
              show Steps p.tables e below (T204.setTop (mkF m 230 #[.val (.int p1), .val (.long p2), .second, .val (.int p3), .val (.int (p1 &&& (7 : Int32))), .val (.ref aINT64), .val (.long (-9223372036854775808 : Int64)), .second, .val (.long (9223372036854775807 : Int64)), .second, .val (.int (p3 &&& (3 : Int32))), .val (.long ((p2 &&& (3 : Int64)) - (1 : Int64))), .second, .unset, .unset, .unset] [(.long (-9223372036854775808 : Int64))])) _
              refine XS.lload X204.here hx rfl (hb hby at_230) rfl ?_
              show Steps p.tables e below (T204.setTop (mkF m 232 #[.val (.int p1), .val (.long p2), .second, .val (.int p3), .val (.int (p1 &&& (7 : Int32))), .val (.ref aINT64), .val (.long (-9223372036854775808 : Int64)), .second, .val (.long (9223372036854775807 : Int64)), .second, .val (.int (p3 &&& (3 : Int32))), .val (.long ((p2 &&& (3 : Int64)) - (1 : Int64))), .second, .unset, .unset, .unset] [(.long ((p2 &&& (3 : Int64)) - (1 : Int64))), (.long (-9223372036854775808 : Int64))])) _
              refine XS.lsub X204.here hx rfl (hb hby at_232) rfl ?_
              show Steps p.tables e below (T204.setTop (mkF m 233 #[.val (.int p1), .val (.long p2), .second, .val (.int p3), .val (.int (p1 &&& (7 : Int32))), .val (.ref aINT64), .val (.long (-9223372036854775808 : Int64)), .second, .val (.long (9223372036854775807 : Int64)), .second, .val (.int (p3 &&& (3 : Int32))), .val (.long ((p2 &&& (3 : Int64)) - (1 : Int64))), .second, .unset, .unset, .unset] [(.long ((-9223372036854775808 : Int64) - ((p2 &&& (3 : Int64)) - (1 : Int64))))])) _
              refine XS.lstore X204.here hx rfl (hb hby at_233) rfl (l' := #[.val (.int p1), .val (.long p2), .second, .val (.int p3), .val (.int (p1 &&& (7 : Int32))), .val (.ref aINT64), .val (.long (-9223372036854775808 : Int64)), .second, .val (.long (9223372036854775807 : Int64)), .second, .val (.int (p3 &&& (3 : Int32))), .val (.long ((p2 &&& (3 : Int64)) - (1 : Int64))), .second, .val (.long ((-9223372036854775808 : Int64) - ((p2 &&& (3 : Int64)) - (1 : Int64)))), .second, .unset]) rfl ?_
              show Steps p.tables e below (T204.setTop (mkF m 235 #[.val (.int p1), .val (.long p2), .second, .val (.int p3), .val (.int (p1 &&& (7 : Int32))), .val (.ref aINT64), .val (.long (-9223372036854775808 : Int64)), .second, .val (.long (9223372036854775807 : Int64)), .second, .val (.int (p3 &&& (3 : Int32))), .val (.long ((p2 &&& (3 : Int64)) - (1 : Int64))), .second, .val (.long ((-9223372036854775808 : Int64) - ((p2 &&& (3 : Int64)) - (1 : Int64)))), .second, .unset] [])) _
              refine XS.goto X204.here hx rfl (pc0 := 235) (pc' := 244) rfl (hb hby at_235) (by decide) (by decide) ?_
              show Steps p.tables e below (T204.setTop (mkF m 244 #[.val (.int p1), .val (.long p2), .second, .val (.int p3), .val (.int (p1 &&& (7 : Int32))), .val (.ref aINT64), .val (.long (-9223372036854775808 : Int64)), .second, .val (.long (9223372036854775807 : Int64)), .second, .val (.int (p3 &&& (3 : Int32))), .val (.long ((p2 &&& (3 : Int64)) - (1 : Int64))), .second, .val (.long ((-9223372036854775808 : Int64) - ((p2 &&& (3 : Int64)) - (1 : Int64)))), .second, .unset] [])) _
              exact kt)
            exact join ⟨_, k214⟩
          · have k215 := fun (t : State) (kt : Steps p.tables e below (T204.setTop (mkF m 244 #[.val (.int p1), .val (.long p2), .second, .val (.int p3), .val (.int (p1 &&& (7 : Int32))), .val (.ref aINT64), .val (.long (-9223372036854775808 : Int64)), .second, .val (.long (9223372036854775807 : Int64)), .second, .val (.int (p3 &&& (3 : Int32))), .val (.long ((p2 &&& (3 : Int64)) - (1 : Int64))), .second, .val (.long (p2 >>> ((48 : Int32) &&& 0x3f).toInt64)), .second, .unset] [])) t) => k212 t (by
              refine XS.icmpYes X204.here hx rfl (pc0 := 225) (pc' := 238) rfl (hb hby at_225) rfl (feq hc225_213).2 (by decide) (by decide) ?_
              show Steps p.tables e below (T204.setTop (mkF m 238 #[.val (.int p1), .val (.long p2), .second, .val (.int p3), .val (.int (p1 &&& (7 : Int32))), .val (.ref aINT64), .val (.long (-9223372036854775808 : Int64)), .second, .val (.long (9223372036854775807 : Int64)), .second, .val (.int (p3 &&& (3 : Int32))), .val (.long ((p2 &&& (3 : Int64)) - (1 : Int64))), .second, .unset, .unset, .unset] [])) _
              refine XS.lloadN X204.here hx rfl (hb hby at_238) rfl ?_
              show Steps p.tables e below (T204.setTop (mkF m 239 #[.val (.int p1), .val (.long p2), .second, .val (.int p3), .val (.int (p1 &&& (7 : Int32))), .val (.ref aINT64), .val (.long (-9223372036854775808 : Int64)), .second, .val (.long (9223372036854775807 : Int64)), .second, .val (.int (p3 &&& (3 : Int32))), .val (.long ((p2 &&& (3 : Int64)) - (1 : Int64))), .second, .unset, .unset, .unset] [(.long p2)])) _
              refine XS.bipush X204.here hx rfl (hb hby at_239) ?_
              show Steps p.tables e below (T204.setTop (mkF m 241 #[.val (.int p1), .val (.long p2), .second, .val (.int p3), .val (.int (p1 &&& (7 : Int32))), .val (.ref aINT64), .val (.long (-9223372036854775808 : Int64)), .second, .val (.long (9223372036854775807 : Int64)), .second, .val (.int (p3 &&& (3 : Int32))), .val (.long ((p2 &&& (3 : Int64)) - (1 : Int64))), .second, .unset, .unset, .unset] [(.int (48 : Int32)), (.long p2)])) _
              refine XS.lshr X204.here hx rfl (hb hby at_241) rfl ?_
              show Steps p.tables e below (T204.setTop (mkF m 242 #[.val (.int p1), .val (.long p2), .second, .val (.int p3), .val (.int (p1 &&& (7 : Int32))), .val (.ref aINT64), .val (.long (-9223372036854775808 : Int64)), .second, .val (.long (9223372036854775807 : Int64)), .second, .val (.int (p3 &&& (3 : Int32))), .val (.long ((p2 &&& (3 : Int64)) - (1 : Int64))), .second, .unset, .unset, .unset] [(.long (p2 >>> ((48 : Int32) &&& 0x3f).toInt64))])) _
              refine XS.lstore X204.here hx rfl (hb hby at_242) rfl (l' := #[.val (.int p1), .val (.long p2), .second, .val (.int p3), .val (.int (p1 &&& (7 : Int32))), .val (.ref aINT64), .val (.long (-9223372036854775808 : Int64)), .second, .val (.long (9223372036854775807 : Int64)), .second, .val (.int (p3 &&& (3 : Int32))), .val (.long ((p2 &&& (3 : Int64)) - (1 : Int64))), .second, .val (.long (p2 >>> ((48 : Int32) &&& 0x3f).toInt64)), .second, .unset]) rfl ?_
              show Steps p.tables e below (T204.setTop (mkF m 244 #[.val (.int p1), .val (.long p2), .second, .val (.int p3), .val (.int (p1 &&& (7 : Int32))), .val (.ref aINT64), .val (.long (-9223372036854775808 : Int64)), .second, .val (.long (9223372036854775807 : Int64)), .second, .val (.int (p3 &&& (3 : Int32))), .val (.long ((p2 &&& (3 : Int64)) - (1 : Int64))), .second, .val (.long (p2 >>> ((48 : Int32) &&& 0x3f).toInt64)), .second, .unset] [])) _
              exact kt)
            exact join ⟨_, k215⟩
    · rintro ⟨xv, kJ⟩
      have k216 := fun (t : State) (kt : Steps p.tables e below (T204.setTop (mkF m 249 #[.val (.int p1), .val (.long p2), .second, .val (.int p3), .val (.int (p1 &&& (7 : Int32))), .val (.ref aINT64), .val (.long (-9223372036854775808 : Int64)), .second, .val (.long (9223372036854775807 : Int64)), .second, .val (.int (p3 &&& (3 : Int32))), .val (.long ((p2 &&& (3 : Int64)) - (1 : Int64))), .second, .val (.long xv), .second, .unset] [(.int (lcmpW (-9223372036854775808 : Int64) xv))])) t) => kJ t (by
        refine XS.lload X204.here hx rfl (hb hby at_244) rfl ?_
        show Steps p.tables e below (T204.setTop (mkF m 246 #[.val (.int p1), .val (.long p2), .second, .val (.int p3), .val (.int (p1 &&& (7 : Int32))), .val (.ref aINT64), .val (.long (-9223372036854775808 : Int64)), .second, .val (.long (9223372036854775807 : Int64)), .second, .val (.int (p3 &&& (3 : Int32))), .val (.long ((p2 &&& (3 : Int64)) - (1 : Int64))), .second, .val (.long xv), .second, .unset] [(.long (-9223372036854775808 : Int64))])) _
        refine XS.lload X204.here hx rfl (hb hby at_246) rfl ?_
        show Steps p.tables e below (T204.setTop (mkF m 248 #[.val (.int p1), .val (.long p2), .second, .val (.int p3), .val (.int (p1 &&& (7 : Int32))), .val (.ref aINT64), .val (.long (-9223372036854775808 : Int64)), .second, .val (.long (9223372036854775807 : Int64)), .second, .val (.int (p3 &&& (3 : Int32))), .val (.long ((p2 &&& (3 : Int64)) - (1 : Int64))), .second, .val (.long xv), .second, .unset] [(.long xv), (.long (-9223372036854775808 : Int64))])) _
        refine XS.lcmp X204.here hx rfl (hb hby at_248) rfl ?_
        show Steps p.tables e below (T204.setTop (mkF m 249 #[.val (.int p1), .val (.long p2), .second, .val (.int p3), .val (.int (p1 &&& (7 : Int32))), .val (.ref aINT64), .val (.long (-9223372036854775808 : Int64)), .second, .val (.long (9223372036854775807 : Int64)), .second, .val (.int (p3 &&& (3 : Int32))), .val (.long ((p2 &&& (3 : Int64)) - (1 : Int64))), .second, .val (.long xv), .second, .unset] [(.int (lcmpW (-9223372036854775808 : Int64) xv))])) _
        exact kt)
      have k217 := fun (t : State) (kt : Steps p.tables e below (T204.setTop (mkF m 257 #[.val (.int p1), .val (.long p2), .second, .val (.int p3), .val (.int (p1 &&& (7 : Int32))), .val (.ref aINT64), .val (.long (-9223372036854775808 : Int64)), .second, .val (.long (9223372036854775807 : Int64)), .second, .val (.int (p3 &&& (3 : Int32))), .val (.long ((p2 &&& (3 : Int64)) - (1 : Int64))), .second, .val (.long xv), .second, .unset] [(.int (lcmpW xv (9223372036854775807 : Int64)))])) t) => k216 t (by
        refine XS.ifNo X204.here hx rfl (hb hby at_249) rfl ((if0 _ _).trans (flt (fun q => (own_min xv) ((lw_gt (-9223372036854775808 : Int64) xv).mp q))).2.2.1) ?_
        show Steps p.tables e below (T204.setTop (mkF m 252 #[.val (.int p1), .val (.long p2), .second, .val (.int p3), .val (.int (p1 &&& (7 : Int32))), .val (.ref aINT64), .val (.long (-9223372036854775808 : Int64)), .second, .val (.long (9223372036854775807 : Int64)), .second, .val (.int (p3 &&& (3 : Int32))), .val (.long ((p2 &&& (3 : Int64)) - (1 : Int64))), .second, .val (.long xv), .second, .unset] [])) _
        refine XS.lload X204.here hx rfl (hb hby at_252) rfl ?_
        show Steps p.tables e below (T204.setTop (mkF m 254 #[.val (.int p1), .val (.long p2), .second, .val (.int p3), .val (.int (p1 &&& (7 : Int32))), .val (.ref aINT64), .val (.long (-9223372036854775808 : Int64)), .second, .val (.long (9223372036854775807 : Int64)), .second, .val (.int (p3 &&& (3 : Int32))), .val (.long ((p2 &&& (3 : Int64)) - (1 : Int64))), .second, .val (.long xv), .second, .unset] [(.long xv)])) _
        refine XS.lload X204.here hx rfl (hb hby at_254) rfl ?_
        show Steps p.tables e below (T204.setTop (mkF m 256 #[.val (.int p1), .val (.long p2), .second, .val (.int p3), .val (.int (p1 &&& (7 : Int32))), .val (.ref aINT64), .val (.long (-9223372036854775808 : Int64)), .second, .val (.long (9223372036854775807 : Int64)), .second, .val (.int (p3 &&& (3 : Int32))), .val (.long ((p2 &&& (3 : Int64)) - (1 : Int64))), .second, .val (.long xv), .second, .unset] [(.long (9223372036854775807 : Int64)), (.long xv)])) _
        refine XS.lcmp X204.here hx rfl (hb hby at_256) rfl ?_
        show Steps p.tables e below (T204.setTop (mkF m 257 #[.val (.int p1), .val (.long p2), .second, .val (.int p3), .val (.int (p1 &&& (7 : Int32))), .val (.ref aINT64), .val (.long (-9223372036854775808 : Int64)), .second, .val (.long (9223372036854775807 : Int64)), .second, .val (.int (p3 &&& (3 : Int32))), .val (.long ((p2 &&& (3 : Int64)) - (1 : Int64))), .second, .val (.long xv), .second, .unset] [(.int (lcmpW xv (9223372036854775807 : Int64)))])) _
        exact kt)
      have k218 := fun (t : State) (kt : Steps p.tables e below (T204.setTop (mkF m 271 #[.val (.int p1), .val (.long p2), .second, .val (.int p3), .val (.int (p1 &&& (7 : Int32))), .val (.ref aINT64), .val (.long (-9223372036854775808 : Int64)), .second, .val (.long (9223372036854775807 : Int64)), .second, .val (.int (p3 &&& (3 : Int32))), .val (.long ((p2 &&& (3 : Int64)) - (1 : Int64))), .second, .val (.long xv), .second, .val (.int (1 : Int32))] [(.long xv), (.ref aINT64)])) t) => k217 t (by
        refine XS.ifNo X204.here hx rfl (hb hby at_257) rfl ((if0 _ _).trans (flt (fun q => (own_max xv) ((lw_gt xv (9223372036854775807 : Int64)).mp q))).2.2.1) ?_
        show Steps p.tables e below (T204.setTop (mkF m 260 #[.val (.int p1), .val (.long p2), .second, .val (.int p3), .val (.int (p1 &&& (7 : Int32))), .val (.ref aINT64), .val (.long (-9223372036854775808 : Int64)), .second, .val (.long (9223372036854775807 : Int64)), .second, .val (.int (p3 &&& (3 : Int32))), .val (.long ((p2 &&& (3 : Int64)) - (1 : Int64))), .second, .val (.long xv), .second, .unset] [])) _
        refine XS.iconst X204.here hx rfl (hb hby at_260) ?_
        show Steps p.tables e below (T204.setTop (mkF m 261 #[.val (.int p1), .val (.long p2), .second, .val (.int p3), .val (.int (p1 &&& (7 : Int32))), .val (.ref aINT64), .val (.long (-9223372036854775808 : Int64)), .second, .val (.long (9223372036854775807 : Int64)), .second, .val (.int (p3 &&& (3 : Int32))), .val (.long ((p2 &&& (3 : Int64)) - (1 : Int64))), .second, .val (.long xv), .second, .unset] [(.int (1 : Int32))])) _
        refine XS.goto X204.here hx rfl (pc0 := 261) (pc' := 265) rfl (hb hby at_261) (by decide) (by decide) ?_
        show Steps p.tables e below (T204.setTop (mkF m 265 #[.val (.int p1), .val (.long p2), .second, .val (.int p3), .val (.int (p1 &&& (7 : Int32))), .val (.ref aINT64), .val (.long (-9223372036854775808 : Int64)), .second, .val (.long (9223372036854775807 : Int64)), .second, .val (.int (p3 &&& (3 : Int32))), .val (.long ((p2 &&& (3 : Int64)) - (1 : Int64))), .second, .val (.long xv), .second, .unset] [(.int (1 : Int32))])) _
        refine XS.istore X204.here hx rfl (hb hby at_265) rfl (l' := #[.val (.int p1), .val (.long p2), .second, .val (.int p3), .val (.int (p1 &&& (7 : Int32))), .val (.ref aINT64), .val (.long (-9223372036854775808 : Int64)), .second, .val (.long (9223372036854775807 : Int64)), .second, .val (.int (p3 &&& (3 : Int32))), .val (.long ((p2 &&& (3 : Int64)) - (1 : Int64))), .second, .val (.long xv), .second, .val (.int (1 : Int32))]) rfl ?_
        show Steps p.tables e below (T204.setTop (mkF m 267 #[.val (.int p1), .val (.long p2), .second, .val (.int p3), .val (.int (p1 &&& (7 : Int32))), .val (.ref aINT64), .val (.long (-9223372036854775808 : Int64)), .second, .val (.long (9223372036854775807 : Int64)), .second, .val (.int (p3 &&& (3 : Int32))), .val (.long ((p2 &&& (3 : Int64)) - (1 : Int64))), .second, .val (.long xv), .second, .val (.int (1 : Int32))] [])) _
        refine XS.aload X204.here hx rfl (hb hby at_267) rfl rfl ?_
        show Steps p.tables e below (T204.setTop (mkF m 269 #[.val (.int p1), .val (.long p2), .second, .val (.int p3), .val (.int (p1 &&& (7 : Int32))), .val (.ref aINT64), .val (.long (-9223372036854775808 : Int64)), .second, .val (.long (9223372036854775807 : Int64)), .second, .val (.int (p3 &&& (3 : Int32))), .val (.long ((p2 &&& (3 : Int64)) - (1 : Int64))), .second, .val (.long xv), .second, .val (.int (1 : Int32))] [(.ref aINT64)])) _
        refine XS.lload X204.here hx rfl (hb hby at_269) rfl ?_
        show Steps p.tables e below (T204.setTop (mkF m 271 #[.val (.int p1), .val (.long p2), .second, .val (.int p3), .val (.int (p1 &&& (7 : Int32))), .val (.ref aINT64), .val (.long (-9223372036854775808 : Int64)), .second, .val (.long (9223372036854775807 : Int64)), .second, .val (.int (p3 &&& (3 : Int32))), .val (.long ((p2 &&& (3 : Int64)) - (1 : Int64))), .second, .val (.long xv), .second, .val (.int (1 : Int32))] [(.long xv), (.ref aINT64)])) _
        exact kt)
      obtain ⟨cq219, kq219, q219a, q219b, q219c⟩ := isOf hZ e204 (E_INT64.ext O0.2)
      obtain ⟨_, _, ⟨T219, L219, k219, n219⟩, -, X219, ⟨Lc219, hQ219, l219, y219, z219⟩, st219⟩ := X204.virtualBack hx (y := (⟨"com/example/tightwire/tightwire/Kind", "holds", "(J)Z"⟩ : MethodName)) (z := (⟨"com/example/tightwire/tightwire/Kind", "holds", "(J)Z"⟩ : MethodName)) hown (mvT hZ (hw _ (List.mem_of_getElem? (i := 6) rfl))) (mvT hZ (hw _ (List.mem_of_getElem? (i := 7) rfl))) (notFace_of_selects (args := #[]) (mvT hZ (hw _ (List.mem_of_getElem? (i := 9) rfl)))) (mvT hZ (hw _ (List.mem_of_getElem? (i := 9) rfl))) (mvT hZ (hw _ (List.mem_of_getElem? (i := 8) rfl))) (by decide) (backOf (W := 0) (rm1 l Z a0 hw [] aINT64 xv (1 : Int32) (64 : Int32) h0 n0 O0 (F_INT64_signed.ext O0.2) (F_INT64_bits.ext O0.2)) hZ (hw _ (List.mem_of_getElem? (i := 10) rfl)) (hw _ (List.mem_of_getElem? (i := 1) rfl)) (by decide) (by decide)) q219a q219c (g := (mkF m 271 #[.val (.int p1), .val (.long p2), .second, .val (.int p3), .val (.int (p1 &&& (7 : Int32))), .val (.ref aINT64), .val (.long (-9223372036854775808 : Int64)), .second, .val (.long (9223372036854775807 : Int64)), .second, .val (.int (p3 &&& (3 : Int32))), .val (.long ((p2 &&& (3 : Int64)) - (1 : Int64))), .second, .val (.long xv), .second, .val (.int (1 : Int32))] [(.long xv), (.ref aINT64)])) rfl (by rw [hml]; rfl) (Steps.refl _) (argsL := [(.long xv)]) (rest := []) (lenOf pd_0 rfl) rfl (by show 2 * 0 + _ ≤ _; exact Nat.le_of_eq rfl) (hb hby at_271) (fun _ _ => ⟨rfl, e204, (by decide : 0 + 0 ≤ _), (by decide : 0 + 0 ≤ _)⟩)
      dsimp only [Pt.U, Pt.locs, Pt.cells, Pt.slots] at X219 l219 y219 z219 st219 hQ219
      subst l219 y219 z219
      obtain ⟨rfl, Nq219, eh219⟩ := hQ219
      have N219 := Fr.app N0 Nq219
      have k220 := fun (t : State) (kt : Steps p.tables e below (T219.setTop (mkF m 276 #[.val (.int p1), .val (.long p2), .second, .val (.int p3), .val (.int (p1 &&& (7 : Int32))), .val (.ref aINT64), .val (.long (-9223372036854775808 : Int64)), .second, .val (.long (9223372036854775807 : Int64)), .second, .val (.int (p3 &&& (3 : Int32))), .val (.long ((p2 &&& (3 : Int64)) - (1 : Int64))), .second, .val (.long xv), .second, .val (.int (1 : Int32))] [(.int (1 : Int32)), (.int (own_holds (1 : Int32) (64 : Int32) xv))])) t) => k218 t (by
        refine st219.trans ?_
        show Steps p.tables e below (T219.setTop (mkF m 274 #[.val (.int p1), .val (.long p2), .second, .val (.int p3), .val (.int (p1 &&& (7 : Int32))), .val (.ref aINT64), .val (.long (-9223372036854775808 : Int64)), .second, .val (.long (9223372036854775807 : Int64)), .second, .val (.int (p3 &&& (3 : Int32))), .val (.long ((p2 &&& (3 : Int64)) - (1 : Int64))), .second, .val (.long xv), .second, .val (.int (1 : Int32))] [(.int (own_holds (1 : Int32) (64 : Int32) xv))])) _
        refine XS.iload X219.here hx rfl (hb hby at_274) rfl ?_
        show Steps p.tables e below (T219.setTop (mkF m 276 #[.val (.int p1), .val (.long p2), .second, .val (.int p3), .val (.int (p1 &&& (7 : Int32))), .val (.ref aINT64), .val (.long (-9223372036854775808 : Int64)), .second, .val (.long (9223372036854775807 : Int64)), .second, .val (.int (p3 &&& (3 : Int32))), .val (.long ((p2 &&& (3 : Int64)) - (1 : Int64))), .second, .val (.long xv), .second, .val (.int (1 : Int32))] [(.int (1 : Int32)), (.int (own_holds (1 : Int32) (64 : Int32) xv))])) _
        exact kt)
      have k221 := fun (t : State) (kt : Steps p.tables e below (T219.setTop (mkF m 284 #[.val (.int p1), .val (.long p2), .second, .val (.int p3), .val (.int (p1 &&& (7 : Int32))), .val (.ref aINT64), .val (.long (-9223372036854775808 : Int64)), .second, .val (.long (9223372036854775807 : Int64)), .second, .val (.int (p3 &&& (3 : Int32))), .val (.long ((p2 &&& (3 : Int64)) - (1 : Int64))), .second, .val (.long xv), .second, .val (.int (1 : Int32))] [(.int (1 : Int32))])) t) => k220 t (by
        refine XS.icmpNo X219.here hx rfl (hb hby at_276) rfl (teq (own_in_INT64 (own_min xv) (own_max xv))).2 ?_
        show Steps p.tables e below (T219.setTop (mkF m 279 #[.val (.int p1), .val (.long p2), .second, .val (.int p3), .val (.int (p1 &&& (7 : Int32))), .val (.ref aINT64), .val (.long (-9223372036854775808 : Int64)), .second, .val (.long (9223372036854775807 : Int64)), .second, .val (.int (p3 &&& (3 : Int32))), .val (.long ((p2 &&& (3 : Int64)) - (1 : Int64))), .second, .val (.long xv), .second, .val (.int (1 : Int32))] [])) _
        refine XS.iconst X219.here hx rfl (hb hby at_279) ?_
        show Steps p.tables e below (T219.setTop (mkF m 280 #[.val (.int p1), .val (.long p2), .second, .val (.int p3), .val (.int (p1 &&& (7 : Int32))), .val (.ref aINT64), .val (.long (-9223372036854775808 : Int64)), .second, .val (.long (9223372036854775807 : Int64)), .second, .val (.int (p3 &&& (3 : Int32))), .val (.long ((p2 &&& (3 : Int64)) - (1 : Int64))), .second, .val (.long xv), .second, .val (.int (1 : Int32))] [(.int (1 : Int32))])) _
        refine XS.goto X219.here hx rfl (pc0 := 280) (pc' := 284) rfl (hb hby at_280) (by decide) (by decide) ?_
        show Steps p.tables e below (T219.setTop (mkF m 284 #[.val (.int p1), .val (.long p2), .second, .val (.int p3), .val (.int (p1 &&& (7 : Int32))), .val (.ref aINT64), .val (.long (-9223372036854775808 : Int64)), .second, .val (.long (9223372036854775807 : Int64)), .second, .val (.int (p3 &&& (3 : Int32))), .val (.long ((p2 &&& (3 : Int64)) - (1 : Int64))), .second, .val (.long xv), .second, .val (.int (1 : Int32))] [(.int (1 : Int32))])) _
        exact kt)
      obtain ⟨fs, hr, hrun, hended, hW, hsame⟩ := X219.leave (v := some (.int (1 : Int32))) (fun h => by rw [Bd.returns] at h; cases h)
      refine ⟨_, _, k221 _ ?_, hrun, hended, _, _, rfl, ?_, ⟨_, rfl⟩, hW, hsame.mono (by decide) (by decide)⟩
      · exact retN X219 hx (t := .boolean) Bd.returns (by simp) (hb hby at_284) hr
      · show Q0 n0 _ T219.heap _
        rw [eh219]
        exact ⟨rfl, N219⟩
  · have k222 := fun (t : State) (kt : Steps p.tables e below (s₁.setTop (mkF m 8 #[.val (.int p1), .val (.long p2), .second, .val (.int p3), .val (.int (p1 &&& (7 : Int32))), .unset, .unset, .unset, .unset, .unset, .unset, .unset, .unset, .unset, .unset, .unset] [(.int (p1 &&& (7 : Int32)))])) t) => pre0 t (by
      refine XS.iloadN X0.here hx rfl (hb hby at_0) rfl ?_
      show Steps p.tables e below (s₁.setTop (mkF m 1 #[.val (.int p1), .val (.long p2), .second, .val (.int p3), .unset, .unset, .unset, .unset, .unset, .unset, .unset, .unset, .unset, .unset, .unset, .unset] [(.int p1)])) _
      refine XS.bipush X0.here hx rfl (hb hby at_1) ?_
      show Steps p.tables e below (s₁.setTop (mkF m 3 #[.val (.int p1), .val (.long p2), .second, .val (.int p3), .unset, .unset, .unset, .unset, .unset, .unset, .unset, .unset, .unset, .unset, .unset, .unset] [(.int (7 : Int32)), (.int p1)])) _
      refine XS.iand X0.here hx rfl (hb hby at_3) rfl ?_
      show Steps p.tables e below (s₁.setTop (mkF m 4 #[.val (.int p1), .val (.long p2), .second, .val (.int p3), .unset, .unset, .unset, .unset, .unset, .unset, .unset, .unset, .unset, .unset, .unset, .unset] [(.int (p1 &&& (7 : Int32)))])) _
      refine XS.istore X0.here hx rfl (hb hby at_4) rfl (l' := #[.val (.int p1), .val (.long p2), .second, .val (.int p3), .val (.int (p1 &&& (7 : Int32))), .unset, .unset, .unset, .unset, .unset, .unset, .unset, .unset, .unset, .unset, .unset]) rfl ?_
      show Steps p.tables e below (s₁.setTop (mkF m 6 #[.val (.int p1), .val (.long p2), .second, .val (.int p3), .val (.int (p1 &&& (7 : Int32))), .unset, .unset, .unset, .unset, .unset, .unset, .unset, .unset, .unset, .unset, .unset] [])) _
      refine XS.iload X0.here hx rfl (hb hby at_6) rfl ?_
      show Steps p.tables e below (s₁.setTop (mkF m 8 #[.val (.int p1), .val (.long p2), .second, .val (.int p3), .val (.int (p1 &&& (7 : Int32))), .unset, .unset, .unset, .unset, .unset, .unset, .unset, .unset, .unset, .unset, .unset] [(.int (p1 &&& (7 : Int32)))])) _
      exact kt)
    have k223 := fun (t : State) (kt : Steps p.tables e below (s₁.setTop (mkF m 32 #[.val (.int p1), .val (.long p2), .second, .val (.int p3), .val (.int (p1 &&& (7 : Int32))), .unset, .unset, .unset, .unset, .unset, .unset, .unset, .unset, .unset, .unset, .unset] [(.int (1 : Int32)), (.int (p1 &&& (7 : Int32)))])) t) => k222 t (by
      refine XS.ifYes X0.here hx rfl (pc0 := 8) (pc' := 29) rfl (hb hby at_8) rfl ((if0 _ _).trans (feq (by rw [hk]; decide)).2) (by decide) (by decide) ?_
      show Steps p.tables e below (s₁.setTop (mkF m 29 #[.val (.int p1), .val (.long p2), .second, .val (.int p3), .val (.int (p1 &&& (7 : Int32))), .unset, .unset, .unset, .unset, .unset, .unset, .unset, .unset, .unset, .unset, .unset] [])) _
      refine XS.iload X0.here hx rfl (hb hby at_29) rfl ?_
      show Steps p.tables e below (s₁.setTop (mkF m 31 #[.val (.int p1), .val (.long p2), .second, .val (.int p3), .val (.int (p1 &&& (7 : Int32))), .unset, .unset, .unset, .unset, .unset, .unset, .unset, .unset, .unset, .unset, .unset] [(.int (p1 &&& (7 : Int32)))])) _
      refine XS.iconst X0.here hx rfl (hb hby at_31) ?_
      show Steps p.tables e below (s₁.setTop (mkF m 32 #[.val (.int p1), .val (.long p2), .second, .val (.int p3), .val (.int (p1 &&& (7 : Int32))), .unset, .unset, .unset, .unset, .unset, .unset, .unset, .unset, .unset, .unset, .unset] [(.int (1 : Int32)), (.int (p1 &&& (7 : Int32)))])) _
      exact kt)
    have k224 := fun (t : State) (kt : Steps p.tables e below (s₁.setTop (mkF m 54 #[.val (.int p1), .val (.long p2), .second, .val (.int p3), .val (.int (p1 &&& (7 : Int32))), .unset, .unset, .unset, .unset, .unset, .unset, .unset, .unset, .unset, .unset, .unset] [(.int (2 : Int32)), (.int (p1 &&& (7 : Int32)))])) t) => k223 t (by
      refine XS.icmpYes X0.here hx rfl (pc0 := 32) (pc' := 51) rfl (hb hby at_32) rfl (feq (by rw [hk]; decide)).2 (by decide) (by decide) ?_
      show Steps p.tables e below (s₁.setTop (mkF m 51 #[.val (.int p1), .val (.long p2), .second, .val (.int p3), .val (.int (p1 &&& (7 : Int32))), .unset, .unset, .unset, .unset, .unset, .unset, .unset, .unset, .unset, .unset, .unset] [])) _
      refine XS.iload X0.here hx rfl (hb hby at_51) rfl ?_
      show Steps p.tables e below (s₁.setTop (mkF m 53 #[.val (.int p1), .val (.long p2), .second, .val (.int p3), .val (.int (p1 &&& (7 : Int32))), .unset, .unset, .unset, .unset, .unset, .unset, .unset, .unset, .unset, .unset, .unset] [(.int (p1 &&& (7 : Int32)))])) _
      refine XS.iconst X0.here hx rfl (hb hby at_53) ?_
      show Steps p.tables e below (s₁.setTop (mkF m 54 #[.val (.int p1), .val (.long p2), .second, .val (.int p3), .val (.int (p1 &&& (7 : Int32))), .unset, .unset, .unset, .unset, .unset, .unset, .unset, .unset, .unset, .unset, .unset] [(.int (2 : Int32)), (.int (p1 &&& (7 : Int32)))])) _
      exact kt)
    have k225 := fun (t : State) (kt : Steps p.tables e below (s₁.setTop (mkF m 78 #[.val (.int p1), .val (.long p2), .second, .val (.int p3), .val (.int (p1 &&& (7 : Int32))), .unset, .unset, .unset, .unset, .unset, .unset, .unset, .unset, .unset, .unset, .unset] [(.int (3 : Int32)), (.int (p1 &&& (7 : Int32)))])) t) => k224 t (by
      refine XS.icmpYes X0.here hx rfl (pc0 := 54) (pc' := 75) rfl (hb hby at_54) rfl (feq (by rw [hk]; decide)).2 (by decide) (by decide) ?_
      show Steps p.tables e below (s₁.setTop (mkF m 75 #[.val (.int p1), .val (.long p2), .second, .val (.int p3), .val (.int (p1 &&& (7 : Int32))), .unset, .unset, .unset, .unset, .unset, .unset, .unset, .unset, .unset, .unset, .unset] [])) _
      refine XS.iload X0.here hx rfl (hb hby at_75) rfl ?_
      show Steps p.tables e below (s₁.setTop (mkF m 77 #[.val (.int p1), .val (.long p2), .second, .val (.int p3), .val (.int (p1 &&& (7 : Int32))), .unset, .unset, .unset, .unset, .unset, .unset, .unset, .unset, .unset, .unset, .unset] [(.int (p1 &&& (7 : Int32)))])) _
      refine XS.iconst X0.here hx rfl (hb hby at_77) ?_
      show Steps p.tables e below (s₁.setTop (mkF m 78 #[.val (.int p1), .val (.long p2), .second, .val (.int p3), .val (.int (p1 &&& (7 : Int32))), .unset, .unset, .unset, .unset, .unset, .unset, .unset, .unset, .unset, .unset, .unset] [(.int (3 : Int32)), (.int (p1 &&& (7 : Int32)))])) _
      exact kt)
    have k226 := fun (t : State) (kt : Steps p.tables e below (s₁.setTop (mkF m 100 #[.val (.int p1), .val (.long p2), .second, .val (.int p3), .val (.int (p1 &&& (7 : Int32))), .unset, .unset, .unset, .unset, .unset, .unset, .unset, .unset, .unset, .unset, .unset] [(.int (4 : Int32)), (.int (p1 &&& (7 : Int32)))])) t) => k225 t (by
      refine XS.icmpYes X0.here hx rfl (pc0 := 78) (pc' := 97) rfl (hb hby at_78) rfl (feq (by rw [hk]; decide)).2 (by decide) (by decide) ?_
      show Steps p.tables e below (s₁.setTop (mkF m 97 #[.val (.int p1), .val (.long p2), .second, .val (.int p3), .val (.int (p1 &&& (7 : Int32))), .unset, .unset, .unset, .unset, .unset, .unset, .unset, .unset, .unset, .unset, .unset] [])) _
      refine XS.iload X0.here hx rfl (hb hby at_97) rfl ?_
      show Steps p.tables e below (s₁.setTop (mkF m 99 #[.val (.int p1), .val (.long p2), .second, .val (.int p3), .val (.int (p1 &&& (7 : Int32))), .unset, .unset, .unset, .unset, .unset, .unset, .unset, .unset, .unset, .unset, .unset] [(.int (p1 &&& (7 : Int32)))])) _
      refine XS.iconst X0.here hx rfl (hb hby at_99) ?_
      show Steps p.tables e below (s₁.setTop (mkF m 100 #[.val (.int p1), .val (.long p2), .second, .val (.int p3), .val (.int (p1 &&& (7 : Int32))), .unset, .unset, .unset, .unset, .unset, .unset, .unset, .unset, .unset, .unset, .unset] [(.int (4 : Int32)), (.int (p1 &&& (7 : Int32)))])) _
      exact kt)
    have k227 := fun (t : State) (kt : Steps p.tables e below (s₁.setTop (mkF m 124 #[.val (.int p1), .val (.long p2), .second, .val (.int p3), .val (.int (p1 &&& (7 : Int32))), .unset, .unset, .unset, .unset, .unset, .unset, .unset, .unset, .unset, .unset, .unset] [(.int (5 : Int32)), (.int (p1 &&& (7 : Int32)))])) t) => k226 t (by
      refine XS.icmpYes X0.here hx rfl (pc0 := 100) (pc' := 121) rfl (hb hby at_100) rfl (feq (by rw [hk]; decide)).2 (by decide) (by decide) ?_
      show Steps p.tables e below (s₁.setTop (mkF m 121 #[.val (.int p1), .val (.long p2), .second, .val (.int p3), .val (.int (p1 &&& (7 : Int32))), .unset, .unset, .unset, .unset, .unset, .unset, .unset, .unset, .unset, .unset, .unset] [])) _
      refine XS.iload X0.here hx rfl (hb hby at_121) rfl ?_
      show Steps p.tables e below (s₁.setTop (mkF m 123 #[.val (.int p1), .val (.long p2), .second, .val (.int p3), .val (.int (p1 &&& (7 : Int32))), .unset, .unset, .unset, .unset, .unset, .unset, .unset, .unset, .unset, .unset, .unset] [(.int (p1 &&& (7 : Int32)))])) _
      refine XS.iconst X0.here hx rfl (hb hby at_123) ?_
      show Steps p.tables e below (s₁.setTop (mkF m 124 #[.val (.int p1), .val (.long p2), .second, .val (.int p3), .val (.int (p1 &&& (7 : Int32))), .unset, .unset, .unset, .unset, .unset, .unset, .unset, .unset, .unset, .unset, .unset] [(.int (5 : Int32)), (.int (p1 &&& (7 : Int32)))])) _
      exact kt)
    have k228 := fun (t : State) (kt : Steps p.tables e below (s₁.setTop (mkF m 147 #[.val (.int p1), .val (.long p2), .second, .val (.int p3), .val (.int (p1 &&& (7 : Int32))), .unset, .unset, .unset, .unset, .unset, .unset, .unset, .unset, .unset, .unset, .unset] [(.int (6 : Int32)), (.int (p1 &&& (7 : Int32)))])) t) => k227 t (by
      refine XS.icmpYes X0.here hx rfl (pc0 := 124) (pc' := 143) rfl (hb hby at_124) rfl (feq (by rw [hk]; decide)).2 (by decide) (by decide) ?_
      show Steps p.tables e below (s₁.setTop (mkF m 143 #[.val (.int p1), .val (.long p2), .second, .val (.int p3), .val (.int (p1 &&& (7 : Int32))), .unset, .unset, .unset, .unset, .unset, .unset, .unset, .unset, .unset, .unset, .unset] [])) _
      refine XS.iload X0.here hx rfl (hb hby at_143) rfl ?_
      show Steps p.tables e below (s₁.setTop (mkF m 145 #[.val (.int p1), .val (.long p2), .second, .val (.int p3), .val (.int (p1 &&& (7 : Int32))), .unset, .unset, .unset, .unset, .unset, .unset, .unset, .unset, .unset, .unset, .unset] [(.int (p1 &&& (7 : Int32)))])) _
      refine XS.bipush X0.here hx rfl (hb hby at_145) ?_
      show Steps p.tables e below (s₁.setTop (mkF m 147 #[.val (.int p1), .val (.long p2), .second, .val (.int p3), .val (.int (p1 &&& (7 : Int32))), .unset, .unset, .unset, .unset, .unset, .unset, .unset, .unset, .unset, .unset, .unset] [(.int (6 : Int32)), (.int (p1 &&& (7 : Int32)))])) _
      exact kt)
    have k229 := fun (t : State) (kt : Steps p.tables e below (s₁.setTop (mkF m 168 #[.val (.int p1), .val (.long p2), .second, .val (.int p3), .val (.int (p1 &&& (7 : Int32))), .unset, .unset, .unset, .unset, .unset, .unset, .unset, .unset, .unset, .unset, .unset] [])) t) => k228 t (by
      refine XS.icmpYes X0.here hx rfl (pc0 := 147) (pc' := 168) rfl (hb hby at_147) rfl (feq (by rw [hk]; decide)).2 (by decide) (by decide) ?_
      show Steps p.tables e below (s₁.setTop (mkF m 168 #[.val (.int p1), .val (.long p2), .second, .val (.int p3), .val (.int (p1 &&& (7 : Int32))), .unset, .unset, .unset, .unset, .unset, .unset, .unset, .unset, .unset, .unset, .unset] [])) _
      exact kt)
    obtain ⟨T230, X230, e230, st230⟩ := getS2 X0 hx hZ hown (host := "") (Or.inl (hw _ (List.mem_of_getElem? (i := 19) rfl))) Via.refl e0 (S_UINT64.ext O0.2) (g := (mkF m 168 #[.val (.int p1), .val (.long p2), .second, .val (.int p3), .val (.int (p1 &&& (7 : Int32))), .unset, .unset, .unset, .unset, .unset, .unset, .unset, .unset, .unset, .unset, .unset] [])) rfl (hb hby at_168)
    have k231 := fun (t : State) (kt : Steps p.tables e below (T230.setTop (mkF m 181 #[.val (.int p1), .val (.long p2), .second, .val (.int p3), .val (.int (p1 &&& (7 : Int32))), .val (.ref aUINT64), .val (.long (0 : Int64)), .second, .val (.long (9223372036854775807 : Int64)), .second, .unset, .unset, .unset, .unset, .unset, .unset] [])) t) => k229 t (by
      refine st230 _ ?_
      show Steps p.tables e below (T230.setTop (mkF m 171 #[.val (.int p1), .val (.long p2), .second, .val (.int p3), .val (.int (p1 &&& (7 : Int32))), .unset, .unset, .unset, .unset, .unset, .unset, .unset, .unset, .unset, .unset, .unset] [(.ref aUINT64)])) _
      refine XS.astore X230.here hx rfl (hb hby at_171) rfl rfl (l' := #[.val (.int p1), .val (.long p2), .second, .val (.int p3), .val (.int (p1 &&& (7 : Int32))), .val (.ref aUINT64), .unset, .unset, .unset, .unset, .unset, .unset, .unset, .unset, .unset, .unset]) rfl ?_
      show Steps p.tables e below (T230.setTop (mkF m 173 #[.val (.int p1), .val (.long p2), .second, .val (.int p3), .val (.int (p1 &&& (7 : Int32))), .val (.ref aUINT64), .unset, .unset, .unset, .unset, .unset, .unset, .unset, .unset, .unset, .unset] [])) _
      refine XS.lconst X230.here hx rfl (hb hby at_173) ?_
      show Steps p.tables e below (T230.setTop (mkF m 174 #[.val (.int p1), .val (.long p2), .second, .val (.int p3), .val (.int (p1 &&& (7 : Int32))), .val (.ref aUINT64), .unset, .unset, .unset, .unset, .unset, .unset, .unset, .unset, .unset, .unset] [(.long (0 : Int64))])) _
      refine XS.lstore X230.here hx rfl (hb hby at_174) rfl (l' := #[.val (.int p1), .val (.long p2), .second, .val (.int p3), .val (.int (p1 &&& (7 : Int32))), .val (.ref aUINT64), .val (.long (0 : Int64)), .second, .unset, .unset, .unset, .unset, .unset, .unset, .unset, .unset]) rfl ?_
      show Steps p.tables e below (T230.setTop (mkF m 176 #[.val (.int p1), .val (.long p2), .second, .val (.int p3), .val (.int (p1 &&& (7 : Int32))), .val (.ref aUINT64), .val (.long (0 : Int64)), .second, .unset, .unset, .unset, .unset, .unset, .unset, .unset, .unset] [])) _
      refine X230.ldc2Long hx hown (mvT hZ (hw _ (List.mem_of_getElem? (i := 21) rfl))) (g := (mkF m 176 #[.val (.int p1), .val (.long p2), .second, .val (.int p3), .val (.int (p1 &&& (7 : Int32))), .val (.ref aUINT64), .val (.long (0 : Int64)), .second, .unset, .unset, .unset, .unset, .unset, .unset, .unset, .unset] [])) rfl (hb hby at_176) _ ?_
      show Steps p.tables e below (T230.setTop (mkF m 179 #[.val (.int p1), .val (.long p2), .second, .val (.int p3), .val (.int (p1 &&& (7 : Int32))), .val (.ref aUINT64), .val (.long (0 : Int64)), .second, .unset, .unset, .unset, .unset, .unset, .unset, .unset, .unset] [(.long (9223372036854775807 : Int64))])) _
      refine XS.lstore X230.here hx rfl (hb hby at_179) rfl (l' := #[.val (.int p1), .val (.long p2), .second, .val (.int p3), .val (.int (p1 &&& (7 : Int32))), .val (.ref aUINT64), .val (.long (0 : Int64)), .second, .val (.long (9223372036854775807 : Int64)), .second, .unset, .unset, .unset, .unset, .unset, .unset]) rfl ?_
      show Steps p.tables e below (T230.setTop (mkF m 181 #[.val (.int p1), .val (.long p2), .second, .val (.int p3), .val (.int (p1 &&& (7 : Int32))), .val (.ref aUINT64), .val (.long (0 : Int64)), .second, .val (.long (9223372036854775807 : Int64)), .second, .unset, .unset, .unset, .unset, .unset, .unset] [])) _
      exact kt)
    refine cps (A := ∃ xv : Int64, ∀ t, Steps p.tables e below (T230.setTop (mkF m 244 #[.val (.int p1), .val (.long p2), .second, .val (.int p3), .val (.int (p1 &&& (7 : Int32))), .val (.ref aUINT64), .val (.long (0 : Int64)), .second, .val (.long (9223372036854775807 : Int64)), .second, .val (.int (p3 &&& (3 : Int32))), .val (.long ((p2 &&& (3 : Int64)) - (1 : Int64))), .second, .val (.long xv), .second, .unset] [])) t → Steps p.tables e below (s₁.setTop (entryFrame m #[(.int p1), (.long p2), (.int p3)] maxLocals)) t) ?_ ?_
    · intro join
      have k232 := fun (t : State) (kt : Steps p.tables e below (T230.setTop (mkF m 197 #[.val (.int p1), .val (.long p2), .second, .val (.int p3), .val (.int (p1 &&& (7 : Int32))), .val (.ref aUINT64), .val (.long (0 : Int64)), .second, .val (.long (9223372036854775807 : Int64)), .second, .val (.int (p3 &&& (3 : Int32))), .val (.long ((p2 &&& (3 : Int64)) - (1 : Int64))), .second, .unset, .unset, .unset] [(.int (p3 &&& (3 : Int32)))])) t) => k231 t (by
        refine XS.iloadN X230.here hx rfl (hb hby at_181) rfl ?_
        show Steps p.tables e below (T230.setTop (mkF m 182 #[.val (.int p1), .val (.long p2), .second, .val (.int p3), .val (.int (p1 &&& (7 : Int32))), .val (.ref aUINT64), .val (.long (0 : Int64)), .second, .val (.long (9223372036854775807 : Int64)), .second, .unset, .unset, .unset, .unset, .unset, .unset] [(.int p3)])) _
        refine XS.iconst X230.here hx rfl (hb hby at_182) ?_
        show Steps p.tables e below (T230.setTop (mkF m 183 #[.val (.int p1), .val (.long p2), .second, .val (.int p3), .val (.int (p1 &&& (7 : Int32))), .val (.ref aUINT64), .val (.long (0 : Int64)), .second, .val (.long (9223372036854775807 : Int64)), .second, .unset, .unset, .unset, .unset, .unset, .unset] [(.int (3 : Int32)), (.int p3)])) _
        refine XS.iand X230.here hx rfl (hb hby at_183) rfl ?_
        show Steps p.tables e below (T230.setTop (mkF m 184 #[.val (.int p1), .val (.long p2), .second, .val (.int p3), .val (.int (p1 &&& (7 : Int32))), .val (.ref aUINT64), .val (.long (0 : Int64)), .second, .val (.long (9223372036854775807 : Int64)), .second, .unset, .unset, .unset, .unset, .unset, .unset] [(.int (p3 &&& (3 : Int32)))])) _
        refine XS.istore X230.here hx rfl (hb hby at_184) rfl (l' := #[.val (.int p1), .val (.long p2), .second, .val (.int p3), .val (.int (p1 &&& (7 : Int32))), .val (.ref aUINT64), .val (.long (0 : Int64)), .second, .val (.long (9223372036854775807 : Int64)), .second, .val (.int (p3 &&& (3 : Int32))), .unset, .unset, .unset, .unset, .unset]) rfl ?_
        show Steps p.tables e below (T230.setTop (mkF m 186 #[.val (.int p1), .val (.long p2), .second, .val (.int p3), .val (.int (p1 &&& (7 : Int32))), .val (.ref aUINT64), .val (.long (0 : Int64)), .second, .val (.long (9223372036854775807 : Int64)), .second, .val (.int (p3 &&& (3 : Int32))), .unset, .unset, .unset, .unset, .unset] [])) _
        refine XS.lloadN X230.here hx rfl (hb hby at_186) rfl ?_
        show Steps p.tables e below (T230.setTop (mkF m 187 #[.val (.int p1), .val (.long p2), .second, .val (.int p3), .val (.int (p1 &&& (7 : Int32))), .val (.ref aUINT64), .val (.long (0 : Int64)), .second, .val (.long (9223372036854775807 : Int64)), .second, .val (.int (p3 &&& (3 : Int32))), .unset, .unset, .unset, .unset, .unset] [(.long p2)])) _
        refine X230.ldc2Long hx hown (mvT hZ (hw _ (List.mem_of_getElem? (i := 5) rfl))) (g := (mkF m 187 #[.val (.int p1), .val (.long p2), .second, .val (.int p3), .val (.int (p1 &&& (7 : Int32))), .val (.ref aUINT64), .val (.long (0 : Int64)), .second, .val (.long (9223372036854775807 : Int64)), .second, .val (.int (p3 &&& (3 : Int32))), .unset, .unset, .unset, .unset, .unset] [(.long p2)])) rfl (hb hby at_187) _ ?_
        show Steps p.tables e below (T230.setTop (mkF m 190 #[.val (.int p1), .val (.long p2), .second, .val (.int p3), .val (.int (p1 &&& (7 : Int32))), .val (.ref aUINT64), .val (.long (0 : Int64)), .second, .val (.long (9223372036854775807 : Int64)), .second, .val (.int (p3 &&& (3 : Int32))), .unset, .unset, .unset, .unset, .unset] [(.long (3 : Int64)), (.long p2)])) _
        refine XS.land X230.here hx rfl (hb hby at_190) rfl ?_
        show Steps p.tables e below (T230.setTop (mkF m 191 #[.val (.int p1), .val (.long p2), .second, .val (.int p3), .val (.int (p1 &&& (7 : Int32))), .val (.ref aUINT64), .val (.long (0 : Int64)), .second, .val (.long (9223372036854775807 : Int64)), .second, .val (.int (p3 &&& (3 : Int32))), .unset, .unset, .unset, .unset, .unset] [(.long (p2 &&& (3 : Int64)))])) _
        refine XS.lconst X230.here hx rfl (hb hby at_191) ?_
        show Steps p.tables e below (T230.setTop (mkF m 192 #[.val (.int p1), .val (.long p2), .second, .val (.int p3), .val (.int (p1 &&& (7 : Int32))), .val (.ref aUINT64), .val (.long (0 : Int64)), .second, .val (.long (9223372036854775807 : Int64)), .second, .val (.int (p3 &&& (3 : Int32))), .unset, .unset, .unset, .unset, .unset] [(.long (1 : Int64)), (.long (p2 &&& (3 : Int64)))])) _
        refine XS.lsub X230.here hx rfl (hb hby at_192) rfl ?_
        show Steps p.tables e below (T230.setTop (mkF m 193 #[.val (.int p1), .val (.long p2), .second, .val (.int p3), .val (.int (p1 &&& (7 : Int32))), .val (.ref aUINT64), .val (.long (0 : Int64)), .second, .val (.long (9223372036854775807 : Int64)), .second, .val (.int (p3 &&& (3 : Int32))), .unset, .unset, .unset, .unset, .unset] [(.long ((p2 &&& (3 : Int64)) - (1 : Int64)))])) _
        refine XS.lstore X230.here hx rfl (hb hby at_193) rfl (l' := #[.val (.int p1), .val (.long p2), .second, .val (.int p3), .val (.int (p1 &&& (7 : Int32))), .val (.ref aUINT64), .val (.long (0 : Int64)), .second, .val (.long (9223372036854775807 : Int64)), .second, .val (.int (p3 &&& (3 : Int32))), .val (.long ((p2 &&& (3 : Int64)) - (1 : Int64))), .second, .unset, .unset, .unset]) rfl ?_
        show Steps p.tables e below (T230.setTop (mkF m 195 #[.val (.int p1), .val (.long p2), .second, .val (.int p3), .val (.int (p1 &&& (7 : Int32))), .val (.ref aUINT64), .val (.long (0 : Int64)), .second, .val (.long (9223372036854775807 : Int64)), .second, .val (.int (p3 &&& (3 : Int32))), .val (.long ((p2 &&& (3 : Int64)) - (1 : Int64))), .second, .unset, .unset, .unset] [])) _
        refine XS.iload X230.here hx rfl (hb hby at_195) rfl ?_
        show Steps p.tables e below (T230.setTop (mkF m 197 #[.val (.int p1), .val (.long p2), .second, .val (.int p3), .val (.int (p1 &&& (7 : Int32))), .val (.ref aUINT64), .val (.long (0 : Int64)), .second, .val (.long (9223372036854775807 : Int64)), .second, .val (.int (p3 &&& (3 : Int32))), .val (.long ((p2 &&& (3 : Int64)) - (1 : Int64))), .second, .unset, .unset, .unset] [(.int (p3 &&& (3 : Int32)))])) _
        exact kt)
      by_cases hc197_233 : (p3 &&& (3 : Int32)) = (0 : Int32)
      · have k234 := fun (t : State) (kt : Steps p.tables e below (T230.setTop (mkF m 244 #[.val (.int p1), .val (.long p2), .second, .val (.int p3), .val (.int (p1 &&& (7 : Int32))), .val (.ref aUINT64), .val (.long (0 : Int64)), .second, .val (.long (9223372036854775807 : Int64)), .second, .val (.int (p3 &&& (3 : Int32))), .val (.long ((p2 &&& (3 : Int64)) - (1 : Int64))), .second, .val (.long p2), .second, .unset] [])) t) => k232 t (by
          refine XS.ifNo X230.here hx rfl (hb hby at_197) rfl ((if0 _ _).trans (teq hc197_233).2) ?_
          show Steps p.tables e below (T230.setTop (mkF m 200 #[.val (.int p1), .val (.long p2), .second, .val (.int p3), .val (.int (p1 &&& (7 : Int32))), .val (.ref aUINT64), .val (.long (0 : Int64)), .second, .val (.long (9223372036854775807 : Int64)), .second, .val (.int (p3 &&& (3 : Int32))), .val (.long ((p2 &&& (3 : Int64)) - (1 : Int64))), .second, .unset, .unset, .unset] [])) _
          refine XS.lloadN X230.here hx rfl (hb hby at_200) rfl ?_
          show Steps p.tables e below (T230.setTop (mkF m 201 #[.val (.int p1), .val (.long p2), .second, .val (.int p3), .val (.int (p1 &&& (7 : Int32))), .val (.ref aUINT64), .val (.long (0 : Int64)), .second, .val (.long (9223372036854775807 : Int64)), .second, .val (.int (p3 &&& (3 : Int32))), .val (.long ((p2 &&& (3 : Int64)) - (1 : Int64))), .second, .unset, .unset, .unset] [(.long p2)])) _
          refine XS.lstore X230.here hx rfl (hb hby at_201) rfl (l' := #[.val (.int p1), .val (.long p2), .second, .val (.int p3), .val (.int (p1 &&& (7 : Int32))), .val (.ref aUINT64), .val (.long (0 : Int64)), .second, .val (.long (9223372036854775807 : Int64)), .second, .val (.int (p3 &&& (3 : Int32))), .val (.long ((p2 &&& (3 : Int64)) - (1 : Int64))), .second, .val (.long p2), .second, .unset]) rfl ?_
          show Steps p.tables e below (T230.setTop (mkF m 203 #[.val (.int p1), .val (.long p2), .second, .val (.int p3), .val (.int (p1 &&& (7 : Int32))), .val (.ref aUINT64), .val (.long (0 : Int64)), .second, .val (.long (9223372036854775807 : Int64)), .second, .val (.int (p3 &&& (3 : Int32))), .val (.long ((p2 &&& (3 : Int64)) - (1 : Int64))), .second, .val (.long p2), .second, .unset] [])) _
          refine XS.goto X230.here hx rfl (pc0 := 203) (pc' := 244) rfl (hb hby at_203) (by decide) (by decide) ?_
          show Steps p.tables e below (T230.setTop (mkF m 244 #[.val (.int p1), .val (.long p2), .second, .val (.int p3), .val (.int (p1 &&& (7 : Int32))), .val (.ref aUINT64), .val (.long (0 : Int64)), .second, .val (.long (9223372036854775807 : Int64)), .second, .val (.int (p3 &&& (3 : Int32))), .val (.long ((p2 &&& (3 : Int64)) - (1 : Int64))), .second, .val (.long p2), .second, .unset] [])) _
          exact kt)
        exact join ⟨_, k234⟩
      · have k235 := fun (t : State) (kt : Steps p.tables e below (T230.setTop (mkF m 209 #[.val (.int p1), .val (.long p2), .second, .val (.int p3), .val (.int (p1 &&& (7 : Int32))), .val (.ref aUINT64), .val (.long (0 : Int64)), .second, .val (.long (9223372036854775807 : Int64)), .second, .val (.int (p3 &&& (3 : Int32))), .val (.long ((p2 &&& (3 : Int64)) - (1 : Int64))), .second, .unset, .unset, .unset] [(.int (1 : Int32)), (.int (p3 &&& (3 : Int32)))])) t) => k232 t (by
          refine XS.ifYes X230.here hx rfl (pc0 := 197) (pc' := 206) rfl (hb hby at_197) rfl ((if0 _ _).trans (feq hc197_233).2) (by decide) (by decide) ?_
          show Steps p.tables e below (T230.setTop (mkF m 206 #[.val (.int p1), .val (.long p2), .second, .val (.int p3), .val (.int (p1 &&& (7 : Int32))), .val (.ref aUINT64), .val (.long (0 : Int64)), .second, .val (.long (9223372036854775807 : Int64)), .second, .val (.int (p3 &&& (3 : Int32))), .val (.long ((p2 &&& (3 : Int64)) - (1 : Int64))), .second, .unset, .unset, .unset] [])) _
          refine XS.iload X230.here hx rfl (hb hby at_206) rfl ?_
          show Steps p.tables e below (T230.setTop (mkF m 208 #[.val (.int p1), .val (.long p2), .second, .val (.int p3), .val (.int (p1 &&& (7 : Int32))), .val (.ref aUINT64), .val (.long (0 : Int64)), .second, .val (.long (9223372036854775807 : Int64)), .second, .val (.int (p3 &&& (3 : Int32))), .val (.long ((p2 &&& (3 : Int64)) - (1 : Int64))), .second, .unset, .unset, .unset] [(.int (p3 &&& (3 : Int32)))])) _
          refine XS.iconst X230.here hx rfl (hb hby at_208) ?_
          show Steps p.tables e below (T230.setTop (mkF m 209 #[.val (.int p1), .val (.long p2), .second, .val (.int p3), .val (.int (p1 &&& (7 : Int32))), .val (.ref aUINT64), .val (.long (0 : Int64)), .second, .val (.long (9223372036854775807 : Int64)), .second, .val (.int (p3 &&& (3 : Int32))), .val (.long ((p2 &&& (3 : Int64)) - (1 : Int64))), .second, .unset, .unset, .unset] [(.int (1 : Int32)), (.int (p3 &&& (3 : Int32)))])) _
          exact kt)
        by_cases hc209_236 : (p3 &&& (3 : Int32)) = (1 : Int32)
        · have k237 := fun (t : State) (kt : Steps p.tables e below (T230.setTop (mkF m 244 #[.val (.int p1), .val (.long p2), .second, .val (.int p3), .val (.int (p1 &&& (7 : Int32))), .val (.ref aUINT64), .val (.long (0 : Int64)), .second, .val (.long (9223372036854775807 : Int64)), .second, .val (.int (p3 &&& (3 : Int32))), .val (.long ((p2 &&& (3 : Int64)) - (1 : Int64))), .second, .val (.long ((9223372036854775807 : Int64) + ((p2 &&& (3 : Int64)) - (1 : Int64)))), .second, .unset] [])) t) => k235 t (by
            refine XS.icmpNo X230.here hx rfl (hb hby at_209) rfl (teq hc209_236).2 ?_
            show Steps p.tables e below (T230.setTop (mkF m 212 #[.val (.int p1), .val (.long p2), .second, .val (.int p3), .val (.int (p1 &&& (7 : Int32))), .val (.ref aUINT64), .val (.long (0 : Int64)), .second, .val (.long (9223372036854775807 : Int64)), .second, .val (.int (p3 &&& (3 : Int32))), .val (.long ((p2 &&& (3 : Int64)) - (1 : Int64))), .second, .unset, .unset, .unset] [])) _
            refine XS.lload X230.here hx rfl (hb hby at_212) rfl ?_
            show Steps p.tables e below (T230.setTop (mkF m 214 #[.val (.int p1), .val (.long p2), .second, .val (.int p3), .val (.int (p1 &&& (7 : Int32))), .val (.ref aUINT64), .val (.long (0 : Int64)), .second, .val (.long (9223372036854775807 : Int64)), .second, .val (.int (p3 &&& (3 : Int32))), .val (.long ((p2 &&& (3 : Int64)) - (1 : Int64))), .second, .unset, .unset, .unset] [(.long (9223372036854775807 : Int64))])) _
            refine XS.lload X230.here hx rfl (hb hby at_214) rfl ?_
            show Steps p.tables e below (T230.setTop (mkF m 216 #[.val (.int p1), .val (.long p2), .second, .val (.int p3), .val (.int (p1 &&& (7 : Int32))), .val (.ref aUINT64), .val (.long (0 : Int64)), .second, .val (.long (9223372036854775807 : Int64)), .second, .val (.int (p3 &&& (3 : Int32))), .val (.long ((p2 &&& (3 : Int64)) - (1 : Int64))), .second, .unset, .unset, .unset] [(.long ((p2 &&& (3 : Int64)) - (1 : Int64))), (.long (9223372036854775807 : Int64))])) _
            refine XS.ladd X230.here hx rfl (hb hby at_216) rfl ?_
            show Steps p.tables e below (T230.setTop (mkF m 217 #[.val (.int p1), .val (.long p2), .second, .val (.int p3), .val (.int (p1 &&& (7 : Int32))), .val (.ref aUINT64), .val (.long (0 : Int64)), .second, .val (.long (9223372036854775807 : Int64)), .second, .val (.int (p3 &&& (3 : Int32))), .val (.long ((p2 &&& (3 : Int64)) - (1 : Int64))), .second, .unset, .unset, .unset] [(.long ((9223372036854775807 : Int64) + ((p2 &&& (3 : Int64)) - (1 : Int64))))])) _
            refine XS.lstore X230.here hx rfl (hb hby at_217) rfl (l' := #[.val (.int p1), .val (.long p2), .second, .val (.int p3), .val (.int (p1 &&& (7 : Int32))), .val (.ref aUINT64), .val (.long (0 : Int64)), .second, .val (.long (9223372036854775807 : Int64)), .second, .val (.int (p3 &&& (3 : Int32))), .val (.long ((p2 &&& (3 : Int64)) - (1 : Int64))), .second, .val (.long ((9223372036854775807 : Int64) + ((p2 &&& (3 : Int64)) - (1 : Int64)))), .second, .unset]) rfl ?_
            show Steps p.tables e below (T230.setTop (mkF m 219 #[.val (.int p1), .val (.long p2), .second, .val (.int p3), .val (.int (p1 &&& (7 : Int32))), .val (.ref aUINT64), .val (.long (0 : Int64)), .second, .val (.long (9223372036854775807 : Int64)), .second, .val (.int (p3 &&& (3 : Int32))), .val (.long ((p2 &&& (3 : Int64)) - (1 : Int64))), .second, .val (.long ((9223372036854775807 : Int64) + ((p2 &&& (3 : Int64)) - (1 : Int64)))), .second, .unset] [])) _
            refine XS.goto X230.here hx rfl (pc0 := 219) (pc' := 244) rfl (hb hby at_219) (by decide) (by decide) ?_
            show Steps p.tables e below (T230.setTop (mkF m 244 #[.val (.int p1), .val (.long p2), .second, .val (.int p3), .val (.int (p1 &&& (7 : Int32))), .val (.ref aUINT64), .val (.long (0 : Int64)), .second, .val (.long (9223372036854775807 : Int64)), .second, .val (.int (p3 &&& (3 : Int32))), .val (.long ((p2 &&& (3 : Int64)) - (1 : Int64))), .second, .val (.long ((9223372036854775807 : Int64) + ((p2 &&& (3 : Int64)) - (1 : Int64)))), .second, .unset] [])) _
            exact kt)
          exact join ⟨_, k237⟩
        · have k238 := fun (t : State) (kt : Steps p.tables e below (T230.setTop (mkF m 225 #[.val (.int p1), .val (.long p2), .second, .val (.int p3), .val (.int (p1 &&& (7 : Int32))), .val (.ref aUINT64), .val (.long (0 : Int64)), .second, .val (.long (9223372036854775807 : Int64)), .second, .val (.int (p3 &&& (3 : Int32))), .val (.long ((p2 &&& (3 : Int64)) - (1 : Int64))), .second, .unset, .unset, .unset] [(.int (2 : Int32)), (.int (p3 &&& (3 : Int32)))])) t) => k235 t (by
            refine XS.icmpYes X230.here hx rfl (pc0 := 209) (pc' := 222) rfl (hb hby at_209) rfl (feq hc209_236).2 (by decide) (by decide) ?_
            show Steps p.tables e below (T230.setTop (mkF m 222 #[.val (.int p1), .val (.long p2), .second, .val (.int p3), .val (.int (p1 &&& (7 : Int32))), .val (.ref aUINT64), .val (.long (0 : Int64)), .second, .val (.long (9223372036854775807 : Int64)), .second, .val (.int (p3 &&& (3 : Int32))), .val (.long ((p2 &&& (3 : Int64)) - (1 : Int64))), .second, .unset, .unset, .unset] [])) _
            refine XS.iload X230.here hx rfl (hb hby at_222) rfl ?_
            show Steps p.tables e below (T230.setTop (mkF m 224 #[.val (.int p1), .val (.long p2), .second, .val (.int p3), .val (.int (p1 &&& (7 : Int32))), .val (.ref aUINT64), .val (.long (0 : Int64)), .second, .val (.long (9223372036854775807 : Int64)), .second, .val (.int (p3 &&& (3 : Int32))), .val (.long ((p2 &&& (3 : Int64)) - (1 : Int64))), .second, .unset, .unset, .unset] [(.int (p3 &&& (3 : Int32)))])) _
            refine XS.iconst X230.here hx rfl (hb hby at_224) ?_
            show Steps p.tables e below (T230.setTop (mkF m 225 #[.val (.int p1), .val (.long p2), .second, .val (.int p3), .val (.int (p1 &&& (7 : Int32))), .val (.ref aUINT64), .val (.long (0 : Int64)), .second, .val (.long (9223372036854775807 : Int64)), .second, .val (.int (p3 &&& (3 : Int32))), .val (.long ((p2 &&& (3 : Int64)) - (1 : Int64))), .second, .unset, .unset, .unset] [(.int (2 : Int32)), (.int (p3 &&& (3 : Int32)))])) _
            exact kt)
          by_cases hc225_239 : (p3 &&& (3 : Int32)) = (2 : Int32)
          · have k240 := fun (t : State) (kt : Steps p.tables e below (T230.setTop (mkF m 244 #[.val (.int p1), .val (.long p2), .second, .val (.int p3), .val (.int (p1 &&& (7 : Int32))), .val (.ref aUINT64), .val (.long (0 : Int64)), .second, .val (.long (9223372036854775807 : Int64)), .second, .val (.int (p3 &&& (3 : Int32))), .val (.long ((p2 &&& (3 : Int64)) - (1 : Int64))), .second, .val (.long ((0 : Int64) - ((p2 &&& (3 : Int64)) - (1 : Int64)))), .second, .unset] [])) t) => k238 t (by
              refine XS.icmpNo X230.here hx rfl (hb hby at_225) rfl (teq hc225_239).2 ?_
              show Steps p.tables e below (T230.setTop (mkF m 228 #[.val (.int p1), .val (.long p2), .second, .val (.int p3), .val (.int (p1 &&& (7 : Int32))), .val (.ref aUINT64), .val (.long (0 : Int64)), .second, .val (.long (9223372036854775807 : Int64)), .second, .val (.int (p3 &&& (3 : Int32))), .val (.long ((p2 &&& (3 : Int64)) - (1 : Int64))), .second, .unset, .unset, .unset] [])) _
              refine XS.lload X230.here hx rfl (hb hby at_228) rfl ?_
              show Steps p.tables e below (T230.setTop (mkF m 230 #[.val (.int p1), .val (.long p2), .second, .val (.int p3), .val (.int (p1 &&& (7 : Int32))), .val (.ref aUINT64), .val (.long (0 : Int64)), .second, .val (.long (9223372036854775807 : Int64)), .second, .val (.int (p3 &&& (3 : Int32))), .val (.long ((p2 &&& (3 : Int64)) - (1 : Int64))), .second, .unset, .unset, .unset] [(.long (0 : Int64))])) _
              refine XS.lload X230.here hx rfl (hb hby at_230) rfl ?_
              show Steps p.tables e below (T230.setTop (mkF m 232 #[.val (.int p1), .val (.long p2), .second, .val (.int p3), .val (.int (p1 &&& (7 : Int32))), .val (.ref aUINT64), .val (.long (0 : Int64)), .second, .val (.long (9223372036854775807 : Int64)), .second, .val (.int (p3 &&& (3 : Int32))), .val (.long ((p2 &&& (3 : Int64)) - (1 : Int64))), .second, .unset, .unset, .unset] [(.long ((p2 &&& (3 : Int64)) - (1 : Int64))), (.long (0 : Int64))])) _
              refine XS.lsub X230.here hx rfl (hb hby at_232) rfl ?_
              show Steps p.tables e below (T230.setTop (mkF m 233 #[.val (.int p1), .val (.long p2), .second, .val (.int p3), .val (.int (p1 &&& (7 : Int32))), .val (.ref aUINT64), .val (.long (0 : Int64)), .second, .val (.long (9223372036854775807 : Int64)), .second, .val (.int (p3 &&& (3 : Int32))), .val (.long ((p2 &&& (3 : Int64)) - (1 : Int64))), .second, .unset, .unset, .unset] [(.long ((0 : Int64) - ((p2 &&& (3 : Int64)) - (1 : Int64))))])) _
              refine XS.lstore X230.here hx rfl (hb hby at_233) rfl (l' := #[.val (.int p1), .val (.long p2), .second, .val (.int p3), .val (.int (p1 &&& (7 : Int32))), .val (.ref aUINT64), .val (.long (0 : Int64)), .second, .val (.long (9223372036854775807 : Int64)), .second, .val (.int (p3 &&& (3 : Int32))), .val (.long ((p2 &&& (3 : Int64)) - (1 : Int64))), .second, .val (.long ((0 : Int64) - ((p2 &&& (3 : Int64)) - (1 : Int64)))), .second, .unset]) rfl ?_
              show Steps p.tables e below (T230.setTop (mkF m 235 #[.val (.int p1), .val (.long p2), .second, .val (.int p3), .val (.int (p1 &&& (7 : Int32))), .val (.ref aUINT64), .val (.long (0 : Int64)), .second, .val (.long (9223372036854775807 : Int64)), .second, .val (.int (p3 &&& (3 : Int32))), .val (.long ((p2 &&& (3 : Int64)) - (1 : Int64))), .second, .val (.long ((0 : Int64) - ((p2 &&& (3 : Int64)) - (1 : Int64)))), .second, .unset] [])) _
              refine XS.goto X230.here hx rfl (pc0 := 235) (pc' := 244) rfl (hb hby at_235) (by decide) (by decide) ?_
              show Steps p.tables e below (T230.setTop (mkF m 244 #[.val (.int p1), .val (.long p2), .second, .val (.int p3), .val (.int (p1 &&& (7 : Int32))), .val (.ref aUINT64), .val (.long (0 : Int64)), .second, .val (.long (9223372036854775807 : Int64)), .second, .val (.int (p3 &&& (3 : Int32))), .val (.long ((p2 &&& (3 : Int64)) - (1 : Int64))), .second, .val (.long ((0 : Int64) - ((p2 &&& (3 : Int64)) - (1 : Int64)))), .second, .unset] [])) _
              exact kt)
            exact join ⟨_, k240⟩
          · have k241 := fun (t : State) (kt : Steps p.tables e below (T230.setTop (mkF m 244 #[.val (.int p1), .val (.long p2), .second, .val (.int p3), .val (.int (p1 &&& (7 : Int32))), .val (.ref aUINT64), .val (.long (0 : Int64)), .second, .val (.long (9223372036854775807 : Int64)), .second, .val (.int (p3 &&& (3 : Int32))), .val (.long ((p2 &&& (3 : Int64)) - (1 : Int64))), .second, .val (.long (p2 >>> ((48 : Int32) &&& 0x3f).toInt64)), .second, .unset] [])) t) => k238 t (by
              refine XS.icmpYes X230.here hx rfl (pc0 := 225) (pc' := 238) rfl (hb hby at_225) rfl (feq hc225_239).2 (by decide) (by decide) ?_
              show Steps p.tables e below (T230.setTop (mkF m 238 #[.val (.int p1), .val (.long p2), .second, .val (.int p3), .val (.int (p1 &&& (7 : Int32))), .val (.ref aUINT64), .val (.long (0 : Int64)), .second, .val (.long (9223372036854775807 : Int64)), .second, .val (.int (p3 &&& (3 : Int32))), .val (.long ((p2 &&& (3 : Int64)) - (1 : Int64))), .second, .unset, .unset, .unset] [])) _
              refine XS.lloadN X230.here hx rfl (hb hby at_238) rfl ?_
              show Steps p.tables e below (T230.setTop (mkF m 239 #[.val (.int p1), .val (.long p2), .second, .val (.int p3), .val (.int (p1 &&& (7 : Int32))), .val (.ref aUINT64), .val (.long (0 : Int64)), .second, .val (.long (9223372036854775807 : Int64)), .second, .val (.int (p3 &&& (3 : Int32))), .val (.long ((p2 &&& (3 : Int64)) - (1 : Int64))), .second, .unset, .unset, .unset] [(.long p2)])) _
              refine XS.bipush X230.here hx rfl (hb hby at_239) ?_
              show Steps p.tables e below (T230.setTop (mkF m 241 #[.val (.int p1), .val (.long p2), .second, .val (.int p3), .val (.int (p1 &&& (7 : Int32))), .val (.ref aUINT64), .val (.long (0 : Int64)), .second, .val (.long (9223372036854775807 : Int64)), .second, .val (.int (p3 &&& (3 : Int32))), .val (.long ((p2 &&& (3 : Int64)) - (1 : Int64))), .second, .unset, .unset, .unset] [(.int (48 : Int32)), (.long p2)])) _
              refine XS.lshr X230.here hx rfl (hb hby at_241) rfl ?_
              show Steps p.tables e below (T230.setTop (mkF m 242 #[.val (.int p1), .val (.long p2), .second, .val (.int p3), .val (.int (p1 &&& (7 : Int32))), .val (.ref aUINT64), .val (.long (0 : Int64)), .second, .val (.long (9223372036854775807 : Int64)), .second, .val (.int (p3 &&& (3 : Int32))), .val (.long ((p2 &&& (3 : Int64)) - (1 : Int64))), .second, .unset, .unset, .unset] [(.long (p2 >>> ((48 : Int32) &&& 0x3f).toInt64))])) _
              refine XS.lstore X230.here hx rfl (hb hby at_242) rfl (l' := #[.val (.int p1), .val (.long p2), .second, .val (.int p3), .val (.int (p1 &&& (7 : Int32))), .val (.ref aUINT64), .val (.long (0 : Int64)), .second, .val (.long (9223372036854775807 : Int64)), .second, .val (.int (p3 &&& (3 : Int32))), .val (.long ((p2 &&& (3 : Int64)) - (1 : Int64))), .second, .val (.long (p2 >>> ((48 : Int32) &&& 0x3f).toInt64)), .second, .unset]) rfl ?_
              show Steps p.tables e below (T230.setTop (mkF m 244 #[.val (.int p1), .val (.long p2), .second, .val (.int p3), .val (.int (p1 &&& (7 : Int32))), .val (.ref aUINT64), .val (.long (0 : Int64)), .second, .val (.long (9223372036854775807 : Int64)), .second, .val (.int (p3 &&& (3 : Int32))), .val (.long ((p2 &&& (3 : Int64)) - (1 : Int64))), .second, .val (.long (p2 >>> ((48 : Int32) &&& 0x3f).toInt64)), .second, .unset] [])) _
              exact kt)
            exact join ⟨_, k241⟩
    · rintro ⟨xv, kJ⟩
      have k242 := fun (t : State) (kt : Steps p.tables e below (T230.setTop (mkF m 249 #[.val (.int p1), .val (.long p2), .second, .val (.int p3), .val (.int (p1 &&& (7 : Int32))), .val (.ref aUINT64), .val (.long (0 : Int64)), .second, .val (.long (9223372036854775807 : Int64)), .second, .val (.int (p3 &&& (3 : Int32))), .val (.long ((p2 &&& (3 : Int64)) - (1 : Int64))), .second, .val (.long xv), .second, .unset] [(.int (lcmpW (0 : Int64) xv))])) t) => kJ t (by
        refine XS.lload X230.here hx rfl (hb hby at_244) rfl ?_
        show Steps p.tables e below (T230.setTop (mkF m 246 #[.val (.int p1), .val (.long p2), .second, .val (.int p3), .val (.int (p1 &&& (7 : Int32))), .val (.ref aUINT64), .val (.long (0 : Int64)), .second, .val (.long (9223372036854775807 : Int64)), .second, .val (.int (p3 &&& (3 : Int32))), .val (.long ((p2 &&& (3 : Int64)) - (1 : Int64))), .second, .val (.long xv), .second, .unset] [(.long (0 : Int64))])) _
        refine XS.lload X230.here hx rfl (hb hby at_246) rfl ?_
        show Steps p.tables e below (T230.setTop (mkF m 248 #[.val (.int p1), .val (.long p2), .second, .val (.int p3), .val (.int (p1 &&& (7 : Int32))), .val (.ref aUINT64), .val (.long (0 : Int64)), .second, .val (.long (9223372036854775807 : Int64)), .second, .val (.int (p3 &&& (3 : Int32))), .val (.long ((p2 &&& (3 : Int64)) - (1 : Int64))), .second, .val (.long xv), .second, .unset] [(.long xv), (.long (0 : Int64))])) _
        refine XS.lcmp X230.here hx rfl (hb hby at_248) rfl ?_
        show Steps p.tables e below (T230.setTop (mkF m 249 #[.val (.int p1), .val (.long p2), .second, .val (.int p3), .val (.int (p1 &&& (7 : Int32))), .val (.ref aUINT64), .val (.long (0 : Int64)), .second, .val (.long (9223372036854775807 : Int64)), .second, .val (.int (p3 &&& (3 : Int32))), .val (.long ((p2 &&& (3 : Int64)) - (1 : Int64))), .second, .val (.long xv), .second, .unset] [(.int (lcmpW (0 : Int64) xv))])) _
        exact kt)
      by_cases hc249_243 : xv < (0 : Int64)
      · have k244 := fun (t : State) (kt : Steps p.tables e below (T230.setTop (mkF m 271 #[.val (.int p1), .val (.long p2), .second, .val (.int p3), .val (.int (p1 &&& (7 : Int32))), .val (.ref aUINT64), .val (.long (0 : Int64)), .second, .val (.long (9223372036854775807 : Int64)), .second, .val (.int (p3 &&& (3 : Int32))), .val (.long ((p2 &&& (3 : Int64)) - (1 : Int64))), .second, .val (.long xv), .second, .val (.int (0 : Int32))] [(.long xv), (.ref aUINT64)])) t) => k242 t (by
          refine XS.ifYes X230.here hx rfl (pc0 := 249) (pc' := 264) rfl (hb hby at_249) rfl ((if0 _ _).trans (tlt ((lw_gt (0 : Int64) xv).mpr hc249_243)).2.2.1) (by decide) (by decide) ?_
          show Steps p.tables e below (T230.setTop (mkF m 264 #[.val (.int p1), .val (.long p2), .second, .val (.int p3), .val (.int (p1 &&& (7 : Int32))), .val (.ref aUINT64), .val (.long (0 : Int64)), .second, .val (.long (9223372036854775807 : Int64)), .second, .val (.int (p3 &&& (3 : Int32))), .val (.long ((p2 &&& (3 : Int64)) - (1 : Int64))), .second, .val (.long xv), .second, .unset] [])) _
          refine XS.iconst X230.here hx rfl (hb hby at_264) ?_
          show Steps p.tables e below (T230.setTop (mkF m 265 #[.val (.int p1), .val (.long p2), .second, .val (.int p3), .val (.int (p1 &&& (7 : Int32))), .val (.ref aUINT64), .val (.long (0 : Int64)), .second, .val (.long (9223372036854775807 : Int64)), .second, .val (.int (p3 &&& (3 : Int32))), .val (.long ((p2 &&& (3 : Int64)) - (1 : Int64))), .second, .val (.long xv), .second, .unset] [(.int (0 : Int32))])) _
          refine XS.istore X230.here hx rfl (hb hby at_265) rfl (l' := #[.val (.int p1), .val (.long p2), .second, .val (.int p3), .val (.int (p1 &&& (7 : Int32))), .val (.ref aUINT64), .val (.long (0 : Int64)), .second, .val (.long (9223372036854775807 : Int64)), .second, .val (.int (p3 &&& (3 : Int32))), .val (.long ((p2 &&& (3 : Int64)) - (1 : Int64))), .second, .val (.long xv), .second, .val (.int (0 : Int32))]) rfl ?_
          show Steps p.tables e below (T230.setTop (mkF m 267 #[.val (.int p1), .val (.long p2), .second, .val (.int p3), .val (.int (p1 &&& (7 : Int32))), .val (.ref aUINT64), .val (.long (0 : Int64)), .second, .val (.long (9223372036854775807 : Int64)), .second, .val (.int (p3 &&& (3 : Int32))), .val (.long ((p2 &&& (3 : Int64)) - (1 : Int64))), .second, .val (.long xv), .second, .val (.int (0 : Int32))] [])) _
          refine XS.aload X230.here hx rfl (hb hby at_267) rfl rfl ?_
          show Steps p.tables e below (T230.setTop (mkF m 269 #[.val (.int p1), .val (.long p2), .second, .val (.int p3), .val (.int (p1 &&& (7 : Int32))), .val (.ref aUINT64), .val (.long (0 : Int64)), .second, .val (.long (9223372036854775807 : Int64)), .second, .val (.int (p3 &&& (3 : Int32))), .val (.long ((p2 &&& (3 : Int64)) - (1 : Int64))), .second, .val (.long xv), .second, .val (.int (0 : Int32))] [(.ref aUINT64)])) _
          refine XS.lload X230.here hx rfl (hb hby at_269) rfl ?_
          show Steps p.tables e below (T230.setTop (mkF m 271 #[.val (.int p1), .val (.long p2), .second, .val (.int p3), .val (.int (p1 &&& (7 : Int32))), .val (.ref aUINT64), .val (.long (0 : Int64)), .second, .val (.long (9223372036854775807 : Int64)), .second, .val (.int (p3 &&& (3 : Int32))), .val (.long ((p2 &&& (3 : Int64)) - (1 : Int64))), .second, .val (.long xv), .second, .val (.int (0 : Int32))] [(.long xv), (.ref aUINT64)])) _
          exact kt)
        obtain ⟨cq245, kq245, q245a, q245b, q245c⟩ := isOf hZ e230 (E_UINT64.ext O0.2)
        obtain ⟨_, _, ⟨T245, L245, k245, n245⟩, -, X245, ⟨Lc245, hQ245, l245, y245, z245⟩, st245⟩ := X230.virtualBack hx (y := (⟨"com/example/tightwire/tightwire/Kind", "holds", "(J)Z"⟩ : MethodName)) (z := (⟨"com/example/tightwire/tightwire/Kind", "holds", "(J)Z"⟩ : MethodName)) hown (mvT hZ (hw _ (List.mem_of_getElem? (i := 6) rfl))) (mvT hZ (hw _ (List.mem_of_getElem? (i := 7) rfl))) (notFace_of_selects (args := #[]) (mvT hZ (hw _ (List.mem_of_getElem? (i := 9) rfl)))) (mvT hZ (hw _ (List.mem_of_getElem? (i := 9) rfl))) (mvT hZ (hw _ (List.mem_of_getElem? (i := 8) rfl))) (by decide) (backOf (W := 0) (rm1 l Z a0 hw [] aUINT64 xv (0 : Int32) (64 : Int32) h0 n0 O0 (F_UINT64_signed.ext O0.2) (F_UINT64_bits.ext O0.2)) hZ (hw _ (List.mem_of_getElem? (i := 10) rfl)) (hw _ (List.mem_of_getElem? (i := 1) rfl)) (by decide) (by decide)) q245a q245c (g := (mkF m 271 #[.val (.int p1), .val (.long p2), .second, .val (.int p3), .val (.int (p1 &&& (7 : Int32))), .val (.ref aUINT64), .val (.long (0 : Int64)), .second, .val (.long (9223372036854775807 : Int64)), .second, .val (.int (p3 &&& (3 : Int32))), .val (.long ((p2 &&& (3 : Int64)) - (1 : Int64))), .second, .val (.long xv), .second, .val (.int (0 : Int32))] [(.long xv), (.ref aUINT64)])) rfl (by rw [hml]; rfl) (Steps.refl _) (argsL := [(.long xv)]) (rest := []) (lenOf pd_0 rfl) rfl (by show 2 * 0 + _ ≤ _; exact Nat.le_of_eq rfl) (hb hby at_271) (fun _ _ => ⟨rfl, e230, (by decide : 0 + 0 ≤ _), (by decide : 0 + 0 ≤ _)⟩)
        dsimp only [Pt.U, Pt.locs, Pt.cells, Pt.slots] at X245 l245 y245 z245 st245 hQ245
        subst l245 y245 z245
        obtain ⟨rfl, Nq245, eh245⟩ := hQ245
        have N245 := Fr.app N0 Nq245
        have k246 := fun (t : State) (kt : Steps p.tables e below (T245.setTop (mkF m 276 #[.val (.int p1), .val (.long p2), .second, .val (.int p3), .val (.int (p1 &&& (7 : Int32))), .val (.ref aUINT64), .val (.long (0 : Int64)), .second, .val (.long (9223372036854775807 : Int64)), .second, .val (.int (p3 &&& (3 : Int32))), .val (.long ((p2 &&& (3 : Int64)) - (1 : Int64))), .second, .val (.long xv), .second, .val (.int (0 : Int32))] [(.int (0 : Int32)), (.int (own_holds (0 : Int32) (64 : Int32) xv))])) t) => k244 t (by
          refine st245.trans ?_
          show Steps p.tables e below (T245.setTop (mkF m 274 #[.val (.int p1), .val (.long p2), .second, .val (.int p3), .val (.int (p1 &&& (7 : Int32))), .val (.ref aUINT64), .val (.long (0 : Int64)), .second, .val (.long (9223372036854775807 : Int64)), .second, .val (.int (p3 &&& (3 : Int32))), .val (.long ((p2 &&& (3 : Int64)) - (1 : Int64))), .second, .val (.long xv), .second, .val (.int (0 : Int32))] [(.int (own_holds (0 : Int32) (64 : Int32) xv))])) _
          refine XS.iload X245.here hx rfl (hb hby at_274) rfl ?_
          show Steps p.tables e below (T245.setTop (mkF m 276 #[.val (.int p1), .val (.long p2), .second, .val (.int p3), .val (.int (p1 &&& (7 : Int32))), .val (.ref aUINT64), .val (.long (0 : Int64)), .second, .val (.long (9223372036854775807 : Int64)), .second, .val (.int (p3 &&& (3 : Int32))), .val (.long ((p2 &&& (3 : Int64)) - (1 : Int64))), .second, .val (.long xv), .second, .val (.int (0 : Int32))] [(.int (0 : Int32)), (.int (own_holds (0 : Int32) (64 : Int32) xv))])) _
          exact kt)
        have k247 := fun (t : State) (kt : Steps p.tables e below (T245.setTop (mkF m 284 #[.val (.int p1), .val (.long p2), .second, .val (.int p3), .val (.int (p1 &&& (7 : Int32))), .val (.ref aUINT64), .val (.long (0 : Int64)), .second, .val (.long (9223372036854775807 : Int64)), .second, .val (.int (p3 &&& (3 : Int32))), .val (.long ((p2 &&& (3 : Int64)) - (1 : Int64))), .second, .val (.long xv), .second, .val (.int (0 : Int32))] [(.int (1 : Int32))])) t) => k246 t (by
          refine XS.icmpNo X245.here hx rfl (hb hby at_276) rfl (teq (own_lo_UINT64 hc249_243)).2 ?_
          show Steps p.tables e below (T245.setTop (mkF m 279 #[.val (.int p1), .val (.long p2), .second, .val (.int p3), .val (.int (p1 &&& (7 : Int32))), .val (.ref aUINT64), .val (.long (0 : Int64)), .second, .val (.long (9223372036854775807 : Int64)), .second, .val (.int (p3 &&& (3 : Int32))), .val (.long ((p2 &&& (3 : Int64)) - (1 : Int64))), .second, .val (.long xv), .second, .val (.int (0 : Int32))] [])) _
          refine XS.iconst X245.here hx rfl (hb hby at_279) ?_
          show Steps p.tables e below (T245.setTop (mkF m 280 #[.val (.int p1), .val (.long p2), .second, .val (.int p3), .val (.int (p1 &&& (7 : Int32))), .val (.ref aUINT64), .val (.long (0 : Int64)), .second, .val (.long (9223372036854775807 : Int64)), .second, .val (.int (p3 &&& (3 : Int32))), .val (.long ((p2 &&& (3 : Int64)) - (1 : Int64))), .second, .val (.long xv), .second, .val (.int (0 : Int32))] [(.int (1 : Int32))])) _
          refine XS.goto X245.here hx rfl (pc0 := 280) (pc' := 284) rfl (hb hby at_280) (by decide) (by decide) ?_
          show Steps p.tables e below (T245.setTop (mkF m 284 #[.val (.int p1), .val (.long p2), .second, .val (.int p3), .val (.int (p1 &&& (7 : Int32))), .val (.ref aUINT64), .val (.long (0 : Int64)), .second, .val (.long (9223372036854775807 : Int64)), .second, .val (.int (p3 &&& (3 : Int32))), .val (.long ((p2 &&& (3 : Int64)) - (1 : Int64))), .second, .val (.long xv), .second, .val (.int (0 : Int32))] [(.int (1 : Int32))])) _
          exact kt)
        obtain ⟨fs, hr, hrun, hended, hW, hsame⟩ := X245.leave (v := some (.int (1 : Int32))) (fun h => by rw [Bd.returns] at h; cases h)
        refine ⟨_, _, k247 _ ?_, hrun, hended, _, _, rfl, ?_, ⟨_, rfl⟩, hW, hsame.mono (by decide) (by decide)⟩
        · exact retN X245 hx (t := .boolean) Bd.returns (by simp) (hb hby at_284) hr
        · show Q0 n0 _ T245.heap _
          rw [eh245]
          exact ⟨rfl, N245⟩
      · have k248 := fun (t : State) (kt : Steps p.tables e below (T230.setTop (mkF m 257 #[.val (.int p1), .val (.long p2), .second, .val (.int p3), .val (.int (p1 &&& (7 : Int32))), .val (.ref aUINT64), .val (.long (0 : Int64)), .second, .val (.long (9223372036854775807 : Int64)), .second, .val (.int (p3 &&& (3 : Int32))), .val (.long ((p2 &&& (3 : Int64)) - (1 : Int64))), .second, .val (.long xv), .second, .unset] [(.int (lcmpW xv (9223372036854775807 : Int64)))])) t) => k242 t (by
          refine XS.ifNo X230.here hx rfl (hb hby at_249) rfl ((if0 _ _).trans (flt (fun q => hc249_243 ((lw_gt (0 : Int64) xv).mp q))).2.2.1) ?_
          show Steps p.tables e below (T230.setTop (mkF m 252 #[.val (.int p1), .val (.long p2), .second, .val (.int p3), .val (.int (p1 &&& (7 : Int32))), .val (.ref aUINT64), .val (.long (0 : Int64)), .second, .val (.long (9223372036854775807 : Int64)), .second, .val (.int (p3 &&& (3 : Int32))), .val (.long ((p2 &&& (3 : Int64)) - (1 : Int64))), .second, .val (.long xv), .second, .unset] [])) _
          refine XS.lload X230.here hx rfl (hb hby at_252) rfl ?_
          show Steps p.tables e below (T230.setTop (mkF m 254 #[.val (.int p1), .val (.long p2), .second, .val (.int p3), .val (.int (p1 &&& (7 : Int32))), .val (.ref aUINT64), .val (.long (0 : Int64)), .second, .val (.long (9223372036854775807 : Int64)), .second, .val (.int (p3 &&& (3 : Int32))), .val (.long ((p2 &&& (3 : Int64)) - (1 : Int64))), .second, .val (.long xv), .second, .unset] [(.long xv)])) _
          refine XS.lload X230.here hx rfl (hb hby at_254) rfl ?_
          show Steps p.tables e below (T230.setTop (mkF m 256 #[.val (.int p1), .val (.long p2), .second, .val (.int p3), .val (.int (p1 &&& (7 : Int32))), .val (.ref aUINT64), .val (.long (0 : Int64)), .second, .val (.long (9223372036854775807 : Int64)), .second, .val (.int (p3 &&& (3 : Int32))), .val (.long ((p2 &&& (3 : Int64)) - (1 : Int64))), .second, .val (.long xv), .second, .unset] [(.long (9223372036854775807 : Int64)), (.long xv)])) _
          refine XS.lcmp X230.here hx rfl (hb hby at_256) rfl ?_
          show Steps p.tables e below (T230.setTop (mkF m 257 #[.val (.int p1), .val (.long p2), .second, .val (.int p3), .val (.int (p1 &&& (7 : Int32))), .val (.ref aUINT64), .val (.long (0 : Int64)), .second, .val (.long (9223372036854775807 : Int64)), .second, .val (.int (p3 &&& (3 : Int32))), .val (.long ((p2 &&& (3 : Int64)) - (1 : Int64))), .second, .val (.long xv), .second, .unset] [(.int (lcmpW xv (9223372036854775807 : Int64)))])) _
          exact kt)
        have k249 := fun (t : State) (kt : Steps p.tables e below (T230.setTop (mkF m 271 #[.val (.int p1), .val (.long p2), .second, .val (.int p3), .val (.int (p1 &&& (7 : Int32))), .val (.ref aUINT64), .val (.long (0 : Int64)), .second, .val (.long (9223372036854775807 : Int64)), .second, .val (.int (p3 &&& (3 : Int32))), .val (.long ((p2 &&& (3 : Int64)) - (1 : Int64))), .second, .val (.long xv), .second, .val (.int (1 : Int32))] [(.long xv), (.ref aUINT64)])) t) => k248 t (by
          refine XS.ifNo X230.here hx rfl (hb hby at_257) rfl ((if0 _ _).trans (flt (fun q => (own_max xv) ((lw_gt xv (9223372036854775807 : Int64)).mp q))).2.2.1) ?_
          show Steps p.tables e below (T230.setTop (mkF m 260 #[.val (.int p1), .val (.long p2), .second, .val (.int p3), .val (.int (p1 &&& (7 : Int32))), .val (.ref aUINT64), .val (.long (0 : Int64)), .second, .val (.long (9223372036854775807 : Int64)), .second, .val (.int (p3 &&& (3 : Int32))), .val (.long ((p2 &&& (3 : Int64)) - (1 : Int64))), .second, .val (.long xv), .second, .unset] [])) _
          refine XS.iconst X230.here hx rfl (hb hby at_260) ?_
          show Steps p.tables e below (T230.setTop (mkF m 261 #[.val (.int p1), .val (.long p2), .second, .val (.int p3), .val (.int (p1 &&& (7 : Int32))), .val (.ref aUINT64), .val (.long (0 : Int64)), .second, .val (.long (9223372036854775807 : Int64)), .second, .val (.int (p3 &&& (3 : Int32))), .val (.long ((p2 &&& (3 : Int64)) - (1 : Int64))), .second, .val (.long xv), .second, .unset] [(.int (1 : Int32))])) _
          refine XS.goto X230.here hx rfl (pc0 := 261) (pc' := 265) rfl (hb hby at_261) (by decide) (by decide) ?_
          show Steps p.tables e below (T230.setTop (mkF m 265 #[.val (.int p1), .val (.long p2), .second, .val (.int p3), .val (.int (p1 &&& (7 : Int32))), .val (.ref aUINT64), .val (.long (0 : Int64)), .second, .val (.long (9223372036854775807 : Int64)), .second, .val (.int (p3 &&& (3 : Int32))), .val (.long ((p2 &&& (3 : Int64)) - (1 : Int64))), .second, .val (.long xv), .second, .unset] [(.int (1 : Int32))])) _
          refine XS.istore X230.here hx rfl (hb hby at_265) rfl (l' := #[.val (.int p1), .val (.long p2), .second, .val (.int p3), .val (.int (p1 &&& (7 : Int32))), .val (.ref aUINT64), .val (.long (0 : Int64)), .second, .val (.long (9223372036854775807 : Int64)), .second, .val (.int (p3 &&& (3 : Int32))), .val (.long ((p2 &&& (3 : Int64)) - (1 : Int64))), .second, .val (.long xv), .second, .val (.int (1 : Int32))]) rfl ?_
          show Steps p.tables e below (T230.setTop (mkF m 267 #[.val (.int p1), .val (.long p2), .second, .val (.int p3), .val (.int (p1 &&& (7 : Int32))), .val (.ref aUINT64), .val (.long (0 : Int64)), .second, .val (.long (9223372036854775807 : Int64)), .second, .val (.int (p3 &&& (3 : Int32))), .val (.long ((p2 &&& (3 : Int64)) - (1 : Int64))), .second, .val (.long xv), .second, .val (.int (1 : Int32))] [])) _
          refine XS.aload X230.here hx rfl (hb hby at_267) rfl rfl ?_
          show Steps p.tables e below (T230.setTop (mkF m 269 #[.val (.int p1), .val (.long p2), .second, .val (.int p3), .val (.int (p1 &&& (7 : Int32))), .val (.ref aUINT64), .val (.long (0 : Int64)), .second, .val (.long (9223372036854775807 : Int64)), .second, .val (.int (p3 &&& (3 : Int32))), .val (.long ((p2 &&& (3 : Int64)) - (1 : Int64))), .second, .val (.long xv), .second, .val (.int (1 : Int32))] [(.ref aUINT64)])) _
          refine XS.lload X230.here hx rfl (hb hby at_269) rfl ?_
          show Steps p.tables e below (T230.setTop (mkF m 271 #[.val (.int p1), .val (.long p2), .second, .val (.int p3), .val (.int (p1 &&& (7 : Int32))), .val (.ref aUINT64), .val (.long (0 : Int64)), .second, .val (.long (9223372036854775807 : Int64)), .second, .val (.int (p3 &&& (3 : Int32))), .val (.long ((p2 &&& (3 : Int64)) - (1 : Int64))), .second, .val (.long xv), .second, .val (.int (1 : Int32))] [(.long xv), (.ref aUINT64)])) _
          exact kt)
        obtain ⟨cq250, kq250, q250a, q250b, q250c⟩ := isOf hZ e230 (E_UINT64.ext O0.2)
        obtain ⟨_, _, ⟨T250, L250, k250, n250⟩, -, X250, ⟨Lc250, hQ250, l250, y250, z250⟩, st250⟩ := X230.virtualBack hx (y := (⟨"com/example/tightwire/tightwire/Kind", "holds", "(J)Z"⟩ : MethodName)) (z := (⟨"com/example/tightwire/tightwire/Kind", "holds", "(J)Z"⟩ : MethodName)) hown (mvT hZ (hw _ (List.mem_of_getElem? (i := 6) rfl))) (mvT hZ (hw _ (List.mem_of_getElem? (i := 7) rfl))) (notFace_of_selects (args := #[]) (mvT hZ (hw _ (List.mem_of_getElem? (i := 9) rfl)))) (mvT hZ (hw _ (List.mem_of_getElem? (i := 9) rfl))) (mvT hZ (hw _ (List.mem_of_getElem? (i := 8) rfl))) (by decide) (backOf (W := 0) (rm1 l Z a0 hw [] aUINT64 xv (0 : Int32) (64 : Int32) h0 n0 O0 (F_UINT64_signed.ext O0.2) (F_UINT64_bits.ext O0.2)) hZ (hw _ (List.mem_of_getElem? (i := 10) rfl)) (hw _ (List.mem_of_getElem? (i := 1) rfl)) (by decide) (by decide)) q250a q250c (g := (mkF m 271 #[.val (.int p1), .val (.long p2), .second, .val (.int p3), .val (.int (p1 &&& (7 : Int32))), .val (.ref aUINT64), .val (.long (0 : Int64)), .second, .val (.long (9223372036854775807 : Int64)), .second, .val (.int (p3 &&& (3 : Int32))), .val (.long ((p2 &&& (3 : Int64)) - (1 : Int64))), .second, .val (.long xv), .second, .val (.int (1 : Int32))] [(.long xv), (.ref aUINT64)])) rfl (by rw [hml]; rfl) (Steps.refl _) (argsL := [(.long xv)]) (rest := []) (lenOf pd_0 rfl) rfl (by show 2 * 0 + _ ≤ _; exact Nat.le_of_eq rfl) (hb hby at_271) (fun _ _ => ⟨rfl, e230, (by decide : 0 + 0 ≤ _), (by decide : 0 + 0 ≤ _)⟩)
        dsimp only [Pt.U, Pt.locs, Pt.cells, Pt.slots] at X250 l250 y250 z250 st250 hQ250
        subst l250 y250 z250
        obtain ⟨rfl, Nq250, eh250⟩ := hQ250
        have N250 := Fr.app N0 Nq250
        have k251 := fun (t : State) (kt : Steps p.tables e below (T250.setTop (mkF m 276 #[.val (.int p1), .val (.long p2), .second, .val (.int p3), .val (.int (p1 &&& (7 : Int32))), .val (.ref aUINT64), .val (.long (0 : Int64)), .second, .val (.long (9223372036854775807 : Int64)), .second, .val (.int (p3 &&& (3 : Int32))), .val (.long ((p2 &&& (3 : Int64)) - (1 : Int64))), .second, .val (.long xv), .second, .val (.int (1 : Int32))] [(.int (1 : Int32)), (.int (own_holds (0 : Int32) (64 : Int32) xv))])) t) => k249 t (by
          refine st250.trans ?_
          show Steps p.tables e below (T250.setTop (mkF m 274 #[.val (.int p1), .val (.long p2), .second, .val (.int p3), .val (.int (p1 &&& (7 : Int32))), .val (.ref aUINT64), .val (.long (0 : Int64)), .second, .val (.long (9223372036854775807 : Int64)), .second, .val (.int (p3 &&& (3 : Int32))), .val (.long ((p2 &&& (3 : Int64)) - (1 : Int64))), .second, .val (.long xv), .second, .val (.int (1 : Int32))] [(.int (own_holds (0 : Int32) (64 : Int32) xv))])) _
          refine XS.iload X250.here hx rfl (hb hby at_274) rfl ?_
          show Steps p.tables e below (T250.setTop (mkF m 276 #[.val (.int p1), .val (.long p2), .second, .val (.int p3), .val (.int (p1 &&& (7 : Int32))), .val (.ref aUINT64), .val (.long (0 : Int64)), .second, .val (.long (9223372036854775807 : Int64)), .second, .val (.int (p3 &&& (3 : Int32))), .val (.long ((p2 &&& (3 : Int64)) - (1 : Int64))), .second, .val (.long xv), .second, .val (.int (1 : Int32))] [(.int (1 : Int32)), (.int (own_holds (0 : Int32) (64 : Int32) xv))])) _
          exact kt)
        have k252 := fun (t : State) (kt : Steps p.tables e below (T250.setTop (mkF m 284 #[.val (.int p1), .val (.long p2), .second, .val (.int p3), .val (.int (p1 &&& (7 : Int32))), .val (.ref aUINT64), .val (.long (0 : Int64)), .second, .val (.long (9223372036854775807 : Int64)), .second, .val (.int (p3 &&& (3 : Int32))), .val (.long ((p2 &&& (3 : Int64)) - (1 : Int64))), .second, .val (.long xv), .second, .val (.int (1 : Int32))] [(.int (1 : Int32))])) t) => k251 t (by
          refine XS.icmpNo X250.here hx rfl (hb hby at_276) rfl (teq (own_in_UINT64 hc249_243 (own_max xv))).2 ?_
          show Steps p.tables e below (T250.setTop (mkF m 279 #[.val (.int p1), .val (.long p2), .second, .val (.int p3), .val (.int (p1 &&& (7 : Int32))), .val (.ref aUINT64), .val (.long (0 : Int64)), .second, .val (.long (9223372036854775807 : Int64)), .second, .val (.int (p3 &&& (3 : Int32))), .val (.long ((p2 &&& (3 : Int64)) - (1 : Int64))), .second, .val (.long xv), .second, .val (.int (1 : Int32))] [])) _
          refine XS.iconst X250.here hx rfl (hb hby at_279) ?_
          show Steps p.tables e below (T250.setTop (mkF m 280 #[.val (.int p1), .val (.long p2), .second, .val (.int p3), .val (.int (p1 &&& (7 : Int32))), .val (.ref aUINT64), .val (.long (0 : Int64)), .second, .val (.long (9223372036854775807 : Int64)), .second, .val (.int (p3 &&& (3 : Int32))), .val (.long ((p2 &&& (3 : Int64)) - (1 : Int64))), .second, .val (.long xv), .second, .val (.int (1 : Int32))] [(.int (1 : Int32))])) _
          refine XS.goto X250.here hx rfl (pc0 := 280) (pc' := 284) rfl (hb hby at_280) (by decide) (by decide) ?_
          show Steps p.tables e below (T250.setTop (mkF m 284 #[.val (.int p1), .val (.long p2), .second, .val (.int p3), .val (.int (p1 &&& (7 : Int32))), .val (.ref aUINT64), .val (.long (0 : Int64)), .second, .val (.long (9223372036854775807 : Int64)), .second, .val (.int (p3 &&& (3 : Int32))), .val (.long ((p2 &&& (3 : Int64)) - (1 : Int64))), .second, .val (.long xv), .second, .val (.int (1 : Int32))] [(.int (1 : Int32))])) _
          exact kt)
        obtain ⟨fs, hr, hrun, hended, hW, hsame⟩ := X250.leave (v := some (.int (1 : Int32))) (fun h => by rw [Bd.returns] at h; cases h)
        refine ⟨_, _, k252 _ ?_, hrun, hended, _, _, rfl, ?_, ⟨_, rfl⟩, hW, hsame.mono (by decide) (by decide)⟩
        · exact retN X250 hx (t := .boolean) Bd.returns (by simp) (hb hby at_284) hr
        · show Q0 n0 _ T250.heap _
          rw [eh250]
          exact ⟨rfl, N250⟩

set_option maxRecDepth 65536 in
set_option maxHeartbeats 40000000 in
theorem comes_1 {Post : Tables → Env → Array Value → State → Outcome → State → Prop} (hpost : ∀ tb e args s v u, (limb_1_1.after args s (.returned v) u = true ∧ limb_1_2.after args s (.returned v) u = true ∧ True) → FrameEnd s (.returned v) u (Jvm.fieldLocs frame_1_writes args s ++ Jvm.arrayLocs frame_1_arrays args s ++ Jvm.staticLocs frame_1_statics s) 0 0 → Post tb e args s (.returned v) u) :
    ArmFor flags0 classFile x code maxLocals ret World_1 tables_1 room_1 Calls_1 rest_1 Pre_1 Post := by
  intro l hfl _ _ p e ha hc hk s m args below hf hA hF happ hP
  obtain ⟨hcalls, hrest, hpre⟩ := hP
  obtain ⟨-, -, -, hnamed, -, -, -, hat⟩ := (Spec.applies_iff hf).mp happ
  obtain ⟨hg, hn⟩ := and_e (Cond.before_iff.mp (show (Jvm.Cond.and given_1 narrow_1).before args s = true from hpre))
  obtain ⟨q1, q2⟩ := and_e hg
  obtain ⟨q3, q4⟩ := and_e q2
  obtain ⟨q5, q6⟩ := and_e q4
  obtain ⟨q7, q8⟩ := and_e hn
  obtain ⟨q9, q10⟩ := and_e q8
  obtain ⟨q11, q12⟩ := and_e q10
  obtain ⟨q13, q14⟩ := and_e q12
  obtain ⟨q15, q16⟩ := and_e q14
  obtain ⟨q17, q18⟩ := and_e q16
  obtain ⟨q19, q20⟩ := and_e q18
  obtain ⟨q21, q22⟩ := and_e q20
  obtain ⟨q23, q24⟩ := and_e q22
  obtain ⟨q25, q26⟩ := and_e q24
  obtain ⟨q27, q28⟩ := and_e q26
  obtain ⟨q29, q30⟩ := and_e q28
  obtain ⟨q31, q32⟩ := and_e q30
  obtain ⟨q33, q34⟩ := and_e q32
  obtain ⟨q35, q36⟩ := and_e q34
  obtain ⟨q37, q38⟩ := and_e q36
  obtain ⟨q39, q40⟩ := and_e q38
  obtain ⟨q41, q42⟩ := and_e q40
  obtain ⟨q43, q44⟩ := and_e q42
  obtain ⟨q45, q46⟩ := and_e q44
  obtain ⟨q47, q48⟩ := and_e q46
  obtain ⟨q49, q50⟩ := and_e q48
  obtain ⟨q51, q52⟩ := and_e q50
  obtain ⟨w0, w1, w2, rfl⟩ : ∃ w0 w1 w2 : Value, args = #[w0, w1, w2] := by
    have hs : args.size = 3 := by simpa [Cond.value, given_1] using q1
    obtain ⟨L⟩ := args
    match L, hs with
    | [w0, w1, w2], _ => exact ⟨w0, w1, w2, rfl⟩
  have hw := fun d (hd : d ∈ tables_1) => atoms_spec (ws := Jvm.Cond.code x code maxLocals ret :: tables_1) hat d (List.mem_cons_of_mem _ hd)
  have hfit : Fit s := fun {y c} hc i hi => by
    obtain ⟨ha, rfl⟩ := Array.getElem?_eq_some_iff.mp hc
    have q := List.all_eq_true.mp ((Array.all_eq_true_iff_forall_mem.mp hF) _ (Array.getElem_mem ha)) i (List.mem_range.mpr hi)
    simpa [Array.getElem?_eq_getElem hi] using q
  obtain ⟨i0, ei0⟩ := is_v q3
  obtain rfl : w0 = (.int i0) := Option.some.inj ei0
  obtain ⟨i1, ei1⟩ := isL_v q5
  obtain rfl : w1 = (.long i1) := Option.some.inj ei1
  obtain ⟨i2, ei2⟩ := is_v q6
  obtain rfl : w2 = (.int i2) := Option.some.inj ei2
  obtain ⟨aINT8, ev_INT8⟩ := exa_v q7
  have S_INT8 := Sta.start ev_INT8 (Or.inr ⟨(hw _ (List.mem_of_getElem? (i := 1) rfl)), (hw _ (List.mem_of_getElem? (i := 2) rfl))⟩)
  have E_INT8 := Exa.start ev_INT8 q7
  have F_INT8_signed := Fld.start (own_eqfld q9 ev_INT8)
  have F_INT8_bits := Fld.start (own_eqfld q11 ev_INT8)
  obtain ⟨aINT32, ev_INT32⟩ := exa_v q13
  have S_INT32 := Sta.start ev_INT32 (Or.inr ⟨(hw _ (List.mem_of_getElem? (i := 1) rfl)), (hw _ (List.mem_of_getElem? (i := 16) rfl))⟩)
  have E_INT32 := Exa.start ev_INT32 q13
  have F_INT32_signed := Fld.start (own_eqfld q15 ev_INT32)
  have F_INT32_bits := Fld.start (own_eqfld q17 ev_INT32)
  obtain ⟨aUINT64, ev_UINT64⟩ := exa_v q19
  have S_UINT64 := Sta.start ev_UINT64 (Or.inr ⟨(hw _ (List.mem_of_getElem? (i := 1) rfl)), (hw _ (List.mem_of_getElem? (i := 20) rfl))⟩)
  have E_UINT64 := Exa.start ev_UINT64 q19
  have F_UINT64_signed := Fld.start (own_eqfld q21 ev_UINT64)
  have F_UINT64_bits := Fld.start (own_eqfld q23 ev_UINT64)
  obtain ⟨aINT16, ev_INT16⟩ := exa_v q25
  have S_INT16 := Sta.start ev_INT16 (Or.inr ⟨(hw _ (List.mem_of_getElem? (i := 1) rfl)), (hw _ (List.mem_of_getElem? (i := 23) rfl))⟩)
  have E_INT16 := Exa.start ev_INT16 q25
  have F_INT16_signed := Fld.start (own_eqfld q27 ev_INT16)
  have F_INT16_bits := Fld.start (own_eqfld q29 ev_INT16)
  obtain ⟨aUINT8, ev_UINT8⟩ := exa_v q31
  have S_UINT8 := Sta.start ev_UINT8 (Or.inr ⟨(hw _ (List.mem_of_getElem? (i := 1) rfl)), (hw _ (List.mem_of_getElem? (i := 27) rfl))⟩)
  have E_UINT8 := Exa.start ev_UINT8 q31
  have F_UINT8_signed := Fld.start (own_eqfld q33 ev_UINT8)
  have F_UINT8_bits := Fld.start (own_eqfld q35 ev_UINT8)
  obtain ⟨aUINT16, ev_UINT16⟩ := exa_v q37
  have S_UINT16 := Sta.start ev_UINT16 (Or.inr ⟨(hw _ (List.mem_of_getElem? (i := 1) rfl)), (hw _ (List.mem_of_getElem? (i := 30) rfl))⟩)
  have E_UINT16 := Exa.start ev_UINT16 q37
  have F_UINT16_signed := Fld.start (own_eqfld q39 ev_UINT16)
  have F_UINT16_bits := Fld.start (own_eqfld q41 ev_UINT16)
  obtain ⟨aINT64, ev_INT64⟩ := exa_v q43
  have S_INT64 := Sta.start ev_INT64 (Or.inr ⟨(hw _ (List.mem_of_getElem? (i := 1) rfl)), (hw _ (List.mem_of_getElem? (i := 33) rfl))⟩)
  have E_INT64 := Exa.start ev_INT64 q43
  have F_INT64_signed := Fld.start (own_eqfld q45 ev_INT64)
  have F_INT64_bits := Fld.start (own_eqfld q47 ev_INT64)
  obtain ⟨aUINT32, ev_UINT32⟩ := exa_v q49
  have S_UINT32 := Sta.start ev_UINT32 (Or.inr ⟨(hw _ (List.mem_of_getElem? (i := 1) rfl)), (hw _ (List.mem_of_getElem? (i := 36) rfl))⟩)
  have E_UINT32 := Exa.start ev_UINT32 q49
  have F_UINT32_signed := Fld.start (own_eqfld q51 ev_UINT32)
  have F_UINT32_bits := Fld.start (own_eqfld q52 ev_UINT32)
  obtain ⟨n, o, h1, h2, h3, _, L, rfl, ⟨rfl, N⟩, hq⟩ := rm0 l s _ hw tables_1 i0 i1 i2 aINT8 aINT32 aUINT64 aINT16 aUINT8 aUINT16 aINT64 aUINT32  s.heap s.heap.size (Old.start s) S_INT8 E_INT8 F_INT8_signed F_INT8_bits S_INT32 E_INT32 F_INT32_signed F_INT32_bits S_UINT64 E_UINT64 F_UINT64_signed F_UINT64_bits S_INT16 E_INT16 F_INT16_signed F_INT16_bits S_UINT8 E_UINT8 F_UINT8_signed F_UINT8_bits S_UINT16 E_UINT16 F_UINT16_signed F_UINT16_bits S_INT64 E_INT64 F_INT64_signed F_INT64_bits S_UINT32 E_UINT32 F_UINT32_signed F_UINT32_bits  p e ha hc hk s m _ below hf ((Spec.applies_iff_loose hf).mp happ).1 ⟨rfl, State.Warmed39.refl s, rfl⟩ trivial
  refine ⟨n, _, h1, h2, h3, hpost _ _ _ _ _ _ ⟨Cond.after_iff.mpr rfl, Cond.after_iff.mpr (eq_i res_at (Term.int_eval (1)) rfl), trivial⟩ ⟨hq.1, hq.2.1, (hq.2.2.sift fun y hy => Or.inr (N y hy)).mono (by decide) (by decide)⟩⟩
theorem main_1_1 : Claimed_1_1 := comes_1 fun _ _ _ _ _ _ h hF => ⟨h.1, hF⟩
theorem main_1_2 : Claimed_1_2 := comes_1 fun _ _ _ _ _ _ h hF => ⟨h.2.1, hF⟩

end Jvm.Pilot.@@N@@
namespace Jvm.Pilot.@@N@@
open Jvm Jvm.ClassFile Sem Op Lib Jvm.Free Jvm.Stand Jvm.Pilot.@@N@@.Jvm.D
/-! MADE BY PROGRAM (witnessworld.py) out of the Statement's table words and the real class files: 12 classes; the members and pool entries that the words name. The judged class is class 1, her method 1. -/
namespace start1
open Jvm.ClassFile
def u (s : String) : CpInfo := .utf8 (stringToUtf16 s)
/-- a pool by its gaps: so many unusable entries, then the entry; so many at the end -/
def gap : Nat → List CpInfo → List CpInfo
  | 0, r => r
  | n + 1, r => .unusable :: gap n r
def poolList (es : List (Nat × CpInfo)) (last : Nat) : List CpInfo := es.foldr (fun e r => gap e.1 (e.2 :: r)) (gap last [])
def pool (es : List (Nat × CpInfo)) (last : Nat) : Array CpInfo := ⟨poolList es last⟩
def fileOf (pool : Array CpInfo) (this : Nat) (attrs : Array Attribute := #[]) (ms : Array MethodInfo := #[]) (fl : Nat := 33) (sup : Nat := 0) (ifs : Array Nat := #[]) (fds : Array FieldInfo := #[]) : ClassFile where
  minorVersion := 0
  majorVersion := 65
  constantPool := pool
  accessFlags := fl
  thisClass := this
  superClass := sup
  interfaces := ifs
  fields := fds
  methods := ms
  attributes := attrs
def plain (name : String) (sup : Option ClassId) : Class where
  name := name
  kind := .ordinary
  loader := none
  accessFlags := 33
  super := sup
  interfaces := #[]
  cf := none
  fields := #[]
  methods := #[]
  instanceTypes := #[]
  staticTypes := #[]
  resolved := #[]
  callSites := []
  init := .initialized
  statics := none
  mirror := none

def pool0 : Array CpInfo := pool [(5, u "<init>"), (0, u "()V"), (1, .class_ 10), (1, u "java/lang/Object")] 113

def k0m0 : Method := { name := "<init>", desc := "()V", sig := { parameters := [], returnType := none }, accessFlags := 1, code := none }
/-- java/lang/Object -/
def k0 : Class := { plain "java/lang/Object" none with
  accessFlags := 33
  interfaces := #[]
  cf := some (fileOf pool0 8 #[] #[{ accessFlags := 1, nameIndex := 5, descriptorIndex := 6, attributes := #[] }] 33 0 #[] #[])
  fields := #[]
  methods := #[k0m0]
  instanceTypes := #[]
  staticTypes := #[]
  resolved := Array.replicate 124 none
  statics := none }

def pool1 : Array CpInfo := pool [(2, .class_ 4), (1, u "java/lang/Object"), (0, u "<init>"), (0, u "()V"), (0, .fieldref 8 9), (0, .class_ 10), (0, .nameAndType 11 12), (0, u "com/example/tightwire/tightwire/Kind"), (0, u "INT8"), (0, u "Lcom/example/tightwire/tightwire/Kind;"), (0, .long 18446744073709551488), (1, .long 127), (1, .fieldref 8 18), (0, .nameAndType 19 12), (0, u "UINT8"), (0, .long 255), (1, .fieldref 8 23), (0, .nameAndType 24 12), (0, u "INT16"), (0, .long 18446744073709518848), (1, .long 32767), (1, .fieldref 8 30), (0, .nameAndType 31 12), (0, u "UINT16"), (0, .long 65535), (1, .fieldref 8 35), (0, .nameAndType 36 12), (0, u "INT32"), (0, .long 18446744071562067968), (1, .long 2147483647), (1, .fieldref 8 42), (0, .nameAndType 43 12), (0, u "UINT32"), (0, .long 4294967295), (1, .fieldref 8 47), (0, .nameAndType 48 12), (0, u "INT64"), (2, .long 9223372036854775808), (1, .long 9223372036854775807), (1, .fieldref 8 56), (0, .nameAndType 57 12), (0, u "UINT64"), (0, .long 3), (1, .methodref 8 61), (0, .nameAndType 62 63), (0, u "holds"), (0, u "(J)Z"), (0, .class_ 65), (0, u "com/example/tightwire/tightwire/KindHoldsPinLaw"), (2, u "law"), (0, u "(IJI)Z")] 3

def k1m0 : Method := { name := "<init>", desc := "()V", sig := { parameters := [], returnType := none }, accessFlags := 1, code := none }
def k1c1 : Code := { maxStack := 4, maxLocals := 16, code := code, exceptionTable := #[], attributes := #[] }
def k1m1 : Method := { name := "law", desc := "(IJI)Z", sig := { parameters := [.int, .long, .int], returnType := some .boolean }, accessFlags := 9, code := some k1c1 }
/-- com/example/tightwire/tightwire/KindHoldsPinLaw -/
def k1 : Class := { plain "com/example/tightwire/tightwire/KindHoldsPinLaw" (some 0) with
  accessFlags := 49
  interfaces := #[]
  cf := some (fileOf pool1 64 #[] #[{ accessFlags := 1, nameIndex := 5, descriptorIndex := 6, attributes := #[] }, { accessFlags := 9, nameIndex := 68, descriptorIndex := 69, attributes := #[] }] 49 2 #[] #[])
  fields := #[]
  methods := #[k1m0, k1m1]
  instanceTypes := #[]
  staticTypes := #[]
  resolved := Array.replicate 73 none
  statics := none }

def pool2 : Array CpInfo := pool [(1, .class_ 2), (0, u "java/lang/constant/Constable"), (0, .class_ 4), (0, u "java/lang/Object")] 6

/-- java/lang/constant/Constable -/
def k2 : Class := { plain "java/lang/constant/Constable" (some 0) with
  accessFlags := 1537
  interfaces := #[]
  cf := some (fileOf pool2 1 #[] #[] 1537 3 #[] #[])
  fields := #[]
  methods := #[]
  instanceTypes := #[]
  staticTypes := #[]
  resolved := Array.replicate 11 none
  statics := none }

def pool3 : Array CpInfo := pool [(1, .class_ 2), (0, u "java/lang/Comparable"), (0, .class_ 4), (0, u "java/lang/Object")] 7

/-- java/lang/Comparable -/
def k3 : Class := { plain "java/lang/Comparable" (some 0) with
  accessFlags := 1537
  interfaces := #[]
  cf := some (fileOf pool3 1 #[] #[] 1537 3 #[] #[])
  fields := #[]
  methods := #[]
  instanceTypes := #[]
  staticTypes := #[]
  resolved := Array.replicate 12 none
  statics := none }

def pool4 : Array CpInfo := pool [(1, .class_ 2), (0, u "java/io/Serializable"), (0, .class_ 4), (0, u "java/lang/Object")] 2

/-- java/io/Serializable -/
def k4 : Class := { plain "java/io/Serializable" (some 0) with
  accessFlags := 1537
  interfaces := #[]
  cf := some (fileOf pool4 1 #[] #[] 1537 3 #[] #[])
  fields := #[]
  methods := #[]
  instanceTypes := #[]
  staticTypes := #[]
  resolved := Array.replicate 7 none
  statics := none }

def pool5 : Array CpInfo := pool [(2, .class_ 4), (1, u "java/lang/Enum"), (0, u "name"), (0, u "Ljava/lang/String;"), (2, u "ordinal"), (0, u "I"), (1, .class_ 14), (1, u "java/lang/Object"), (4, u "hash"), (86, .class_ 108), (1, u "java/lang/Enum$EnumDesc"), (2, .class_ 112), (0, u "java/lang/constant/Constable"), (0, .class_ 114), (0, u "java/lang/Comparable"), (0, .class_ 116), (0, u "java/io/Serializable")] 87

/-- java/lang/Enum -/
def k5 : Class := { plain "java/lang/Enum" (some 0) with
  accessFlags := 1057
  interfaces := #[2, 3, 4]
  cf := some (fileOf pool5 2 #[.nestMembers #[106]] #[] 1057 12 #[111, 113, 115] #[{ accessFlags := 18, nameIndex := 5, descriptorIndex := 6, attributes := #[] }, { accessFlags := 18, nameIndex := 9, descriptorIndex := 10, attributes := #[] }, { accessFlags := 2, nameIndex := 19, descriptorIndex := 10, attributes := #[] }])
  fields := #[{ name := "name", type := (.object "java/lang/String"), accessFlags := 18, slot := 0, constantValue := 0 }, { name := "ordinal", type := .int, accessFlags := 18, slot := 1, constantValue := 0 }, { name := "hash", type := .int, accessFlags := 2, slot := 2, constantValue := 0 }]
  methods := #[]
  instanceTypes := #[(.object "java/lang/String"), .int, .int]
  staticTypes := #[]
  resolved := Array.replicate 204 none
  statics := none }

def pool6 : Array CpInfo := pool [(1, .class_ 2), (0, u "com/example/tightwire/tightwire/Kind"), (2, u "BOOL"), (0, u "Lcom/example/tightwire/tightwire/Kind;"), (2, u "INT8"), (2, u "UINT8"), (2, u "INT16"), (2, u "UINT16"), (2, u "INT32"), (2, u "UINT32"), (2, u "INT64"), (2, u "UINT64"), (2, u "FLOAT32"), (2, u "FLOAT64"), (2, u "STRING"), (2, u "BINARY"), (2, u "TIMESTAMP"), (2, u "OBJECTID"), (2, u "LIST"), (2, u "SET"), (2, u "MAP"), (2, u "STRUCT"), (2, u "$VALUES"), (0, u "[Lcom/example/tightwire/tightwire/Kind;"), (6, .class_ 73), (1, u "java/lang/Enum"), (8, u "keyword"), (0, u "Ljava/lang/String;"), (2, u "parameters"), (0, u "I"), (0, .fieldref 1 89), (0, .nameAndType 90 87), (0, u "bits"), (0, .fieldref 1 92), (0, .nameAndType 93 94), (0, u "signed"), (0, u "Z"), (2, u "BY_KEYWORD"), (0, u "Ljava/util/Map;"), (131, u "holds"), (0, u "(J)Z")] 35

def k6c0 : Code := { maxStack := 5, maxLocals := 3, code := prog_41_method_10_code, exceptionTable := #[], attributes := #[] }
def k6m0 : Method := { name := "holds", desc := "(J)Z", sig := { parameters := [.long], returnType := some .boolean }, accessFlags := 0, code := some k6c0 }
/-- com/example/tightwire/tightwire/Kind -/
def k6 : Class := { plain "com/example/tightwire/tightwire/Kind" (some 5) with
  accessFlags := 16433
  interfaces := #[]
  cf := some (fileOf pool6 1 #[] #[{ accessFlags := 0, nameIndex := 230, descriptorIndex := 231, attributes := #[] }] 16433 71 #[] #[{ accessFlags := 16409, nameIndex := 5, descriptorIndex := 6, attributes := #[] }, { accessFlags := 16409, nameIndex := 9, descriptorIndex := 6, attributes := #[] }, { accessFlags := 16409, nameIndex := 12, descriptorIndex := 6, attributes := #[] }, { accessFlags := 16409, nameIndex := 15, descriptorIndex := 6, attributes := #[] }, { accessFlags := 16409, nameIndex := 18, descriptorIndex := 6, attributes := #[] }, { accessFlags := 16409, nameIndex := 21, descriptorIndex := 6, attributes := #[] }, { accessFlags := 16409, nameIndex := 24, descriptorIndex := 6, attributes := #[] }, { accessFlags := 16409, nameIndex := 27, descriptorIndex := 6, attributes := #[] }, { accessFlags := 16409, nameIndex := 30, descriptorIndex := 6, attributes := #[] }, { accessFlags := 16409, nameIndex := 33, descriptorIndex := 6, attributes := #[] }, { accessFlags := 16409, nameIndex := 36, descriptorIndex := 6, attributes := #[] }, { accessFlags := 16409, nameIndex := 39, descriptorIndex := 6, attributes := #[] }, { accessFlags := 16409, nameIndex := 42, descriptorIndex := 6, attributes := #[] }, { accessFlags := 16409, nameIndex := 45, descriptorIndex := 6, attributes := #[] }, { accessFlags := 16409, nameIndex := 48, descriptorIndex := 6, attributes := #[] }, { accessFlags := 16409, nameIndex := 51, descriptorIndex := 6, attributes := #[] }, { accessFlags := 16409, nameIndex := 54, descriptorIndex := 6, attributes := #[] }, { accessFlags := 16409, nameIndex := 57, descriptorIndex := 6, attributes := #[] }, { accessFlags := 16409, nameIndex := 60, descriptorIndex := 6, attributes := #[] }, { accessFlags := 26, nameIndex := 97, descriptorIndex := 98, attributes := #[] }, { accessFlags := 18, nameIndex := 82, descriptorIndex := 83, attributes := #[] }, { accessFlags := 18, nameIndex := 86, descriptorIndex := 87, attributes := #[] }, { accessFlags := 18, nameIndex := 90, descriptorIndex := 87, attributes := #[] }, { accessFlags := 18, nameIndex := 93, descriptorIndex := 94, attributes := #[] }, { accessFlags := 4122, nameIndex := 63, descriptorIndex := 64, attributes := #[] }])
  fields := #[{ name := "BOOL", type := (.object "com/example/tightwire/tightwire/Kind"), accessFlags := 16409, slot := 0, constantValue := 0 }, { name := "INT8", type := (.object "com/example/tightwire/tightwire/Kind"), accessFlags := 16409, slot := 1, constantValue := 0 }, { name := "UINT8", type := (.object "com/example/tightwire/tightwire/Kind"), accessFlags := 16409, slot := 2, constantValue := 0 }, { name := "INT16", type := (.object "com/example/tightwire/tightwire/Kind"), accessFlags := 16409, slot := 3, constantValue := 0 }, { name := "UINT16", type := (.object "com/example/tightwire/tightwire/Kind"), accessFlags := 16409, slot := 4, constantValue := 0 }, { name := "INT32", type := (.object "com/example/tightwire/tightwire/Kind"), accessFlags := 16409, slot := 5, constantValue := 0 }, { name := "UINT32", type := (.object "com/example/tightwire/tightwire/Kind"), accessFlags := 16409, slot := 6, constantValue := 0 }, { name := "INT64", type := (.object "com/example/tightwire/tightwire/Kind"), accessFlags := 16409, slot := 7, constantValue := 0 }, { name := "UINT64", type := (.object "com/example/tightwire/tightwire/Kind"), accessFlags := 16409, slot := 8, constantValue := 0 }, { name := "FLOAT32", type := (.object "com/example/tightwire/tightwire/Kind"), accessFlags := 16409, slot := 9, constantValue := 0 }, { name := "FLOAT64", type := (.object "com/example/tightwire/tightwire/Kind"), accessFlags := 16409, slot := 10, constantValue := 0 }, { name := "STRING", type := (.object "com/example/tightwire/tightwire/Kind"), accessFlags := 16409, slot := 11, constantValue := 0 }, { name := "BINARY", type := (.object "com/example/tightwire/tightwire/Kind"), accessFlags := 16409, slot := 12, constantValue := 0 }, { name := "TIMESTAMP", type := (.object "com/example/tightwire/tightwire/Kind"), accessFlags := 16409, slot := 13, constantValue := 0 }, { name := "OBJECTID", type := (.object "com/example/tightwire/tightwire/Kind"), accessFlags := 16409, slot := 14, constantValue := 0 }, { name := "LIST", type := (.object "com/example/tightwire/tightwire/Kind"), accessFlags := 16409, slot := 15, constantValue := 0 }, { name := "SET", type := (.object "com/example/tightwire/tightwire/Kind"), accessFlags := 16409, slot := 16, constantValue := 0 }, { name := "MAP", type := (.object "com/example/tightwire/tightwire/Kind"), accessFlags := 16409, slot := 17, constantValue := 0 }, { name := "STRUCT", type := (.object "com/example/tightwire/tightwire/Kind"), accessFlags := 16409, slot := 18, constantValue := 0 }, { name := "BY_KEYWORD", type := (.object "java/util/Map"), accessFlags := 26, slot := 19, constantValue := 0 }, { name := "keyword", type := (.object "java/lang/String"), accessFlags := 18, slot := 3, constantValue := 0 }, { name := "parameters", type := .int, accessFlags := 18, slot := 4, constantValue := 0 }, { name := "bits", type := .int, accessFlags := 18, slot := 5, constantValue := 0 }, { name := "signed", type := .boolean, accessFlags := 18, slot := 6, constantValue := 0 }, { name := "$VALUES", type := (.array (.object "com/example/tightwire/tightwire/Kind")), accessFlags := 4122, slot := 20, constantValue := 0 }]
  methods := #[k6m0]
  instanceTypes := #[(.object "java/lang/String"), .int, .int, (.object "java/lang/String"), .int, .int, .boolean]
  staticTypes := #[(.object "com/example/tightwire/tightwire/Kind"), (.object "com/example/tightwire/tightwire/Kind"), (.object "com/example/tightwire/tightwire/Kind"), (.object "com/example/tightwire/tightwire/Kind"), (.object "com/example/tightwire/tightwire/Kind"), (.object "com/example/tightwire/tightwire/Kind"), (.object "com/example/tightwire/tightwire/Kind"), (.object "com/example/tightwire/tightwire/Kind"), (.object "com/example/tightwire/tightwire/Kind"), (.object "com/example/tightwire/tightwire/Kind"), (.object "com/example/tightwire/tightwire/Kind"), (.object "com/example/tightwire/tightwire/Kind"), (.object "com/example/tightwire/tightwire/Kind"), (.object "com/example/tightwire/tightwire/Kind"), (.object "com/example/tightwire/tightwire/Kind"), (.object "com/example/tightwire/tightwire/Kind"), (.object "com/example/tightwire/tightwire/Kind"), (.object "com/example/tightwire/tightwire/Kind"), (.object "com/example/tightwire/tightwire/Kind"), (.object "java/util/Map"), (.array (.object "com/example/tightwire/tightwire/Kind"))]
  resolved := Array.replicate 267 none
  statics := some 0 }

def pool7 : Array CpInfo := pool [(1, u "java/lang/Cloneable"), (0, .class_ 1), (0, u "java/lang/Object"), (0, .class_ 3)] 3

/-- java/lang/Cloneable -/
def k7 : Class := { plain "java/lang/Cloneable" (some 0) with
  accessFlags := 1537
  interfaces := #[]
  cf := some (fileOf pool7 2 #[] #[] 1537 4 #[] #[])
  fields := #[]
  methods := #[]
  instanceTypes := #[]
  staticTypes := #[]
  resolved := Array.replicate 8 none
  statics := none }

/-- the primitive byte -/
def k8 : Class := { plain "byte" none with kind := .primitive 'B', accessFlags := 0x411 }
/-- [B -/
def k9 : Class := { plain "[B" (some 0) with kind := .array 8 .byte, interfaces := #[7, 4], accessFlags := 1041 }

/-- the primitive int -/
def k10 : Class := { plain "int" none with kind := .primitive 'I', accessFlags := 0x411 }
/-- [I -/
def k11 : Class := { plain "[I" (some 0) with kind := .array 10 .int, interfaces := #[7, 4], accessFlags := 1041 }

def heap : Heap := #[{ cls := 6, slots := #[.null, .ref 1, .ref 5, .ref 4, .ref 6, .ref 2, .ref 8, .ref 7, .ref 3, .null, .null, .null, .null, .null, .null, .null, .null, .null, .null, .null, .null], vm := .statics 6 },
  { cls := 6, slots := #[.null, .int 0, .int 0, .null, .int 0, .int 8, .int 1], vm := .none },
  { cls := 6, slots := #[.null, .int 0, .int 0, .null, .int 0, .int 32, .int 1], vm := .none },
  { cls := 6, slots := #[.null, .int 0, .int 0, .null, .int 0, .int 64, .int 0], vm := .none },
  { cls := 6, slots := #[.null, .int 0, .int 0, .null, .int 0, .int 16, .int 1], vm := .none },
  { cls := 6, slots := #[.null, .int 0, .int 0, .null, .int 0, .int 8, .int 0], vm := .none },
  { cls := 6, slots := #[.null, .int 0, .int 0, .null, .int 0, .int 16, .int 0], vm := .none },
  { cls := 6, slots := #[.null, .int 0, .int 0, .null, .int 0, .int 64, .int 1], vm := .none },
  { cls := 6, slots := #[.null, .int 0, .int 0, .null, .int 0, .int 32, .int 0], vm := .none }]
def classes : Array Class := #[k0, k1, k2, k3, k4, k5, k6, k7, k8, k9, k10, k11]
def interned : List (Array UInt16 × Addr) := []
def slotsUsed : Nat := 77
def theMethod : MethodId := ⟨1, 1⟩
def args0 : Array Value := #[.int 1, .long 2, .int 3]
def aboutOver (below : List Frame) : State where
  vm := { classes := classes, interned := interned.toArray }
  heap := heap
  slotsUsed := slotsUsed
  threads := #[{ frames := .invoking theMethod args0 :: below }]
def below0 : List Frame := [.native { method := ⟨0, 0⟩, args := #[] }]
def about1 : State := aboutOver below0
def p0 : Program := .bare "" "" ""
def e0 : Env := launch0.env 0 0 0
theorem w_frames : about1.frames = Frame.invoking theMethod args0 :: below0 := rfl
set_option maxRecDepth 65536 in
theorem w_args : argsFit about1.vm theMethod args0 = true := by decide +kernel
set_option maxRecDepth 65536 in
theorem w_heap : heapFits about1 = true := by decide +kernel
set_option maxRecDepth 65536 in
theorem w_runnable : about1.curStatus? = some .runnable := by decide +kernel
set_option maxRecDepth 65536 in
theorem w_alone : about1.alone = true := by decide +kernel
set_option maxRecDepth 65536 in
theorem w_named : about1.methodNamed? x = some theMethod := by decide +kernel
set_option maxRecDepth 65536 in
theorem w_hears : about1.hears theMethod below0 = true := by decide +kernel
set_option maxRecDepth 65536 in
theorem w_ripe : about1.ripe theMethod args0 below0 = true := by decide +kernel
theorem w_running : about1.status = .running := rfl
set_option maxRecDepth 65536 in
theorem w_room : about1.hasRoom e0.platform room_1 = true :=
  launch0.hasRoom_least _ room_1 (by decide +kernel) (by decide +kernel) (by decide +kernel) (by decide +kernel) (by decide +kernel) (by decide +kernel)
theorem allAtoms_all (ts : List Jvm.Cond) (a : Array Jvm.Value) (st : Jvm.State) : (allAtoms ts).before a st = ts.all (fun c => c.before a st) := by
  induction ts with
  | nil => rfl
  | cons c t ih =>
    show (Jvm.Cond.and c (allAtoms t)).before a st = _
    rw [Jvm.Cond.before_and, ih, List.all_cons]
def words1 : List Jvm.Cond := Jvm.Cond.code x code maxLocals ret :: tables_1
/-- a 'code' word, met by the world's own term for the bytes: nothing is compared byte by byte -/
theorem code_word {y : MethodName} {bytes : ByteArray} {mx : Nat} {rt : Option FieldType} {a : Array Value} {s : State} {m : MethodId} {meth : Method} {c : Code} (h1 : s.methodNamed? y = some m) (h2 : s.vm.method? m = some meth) (h3 : meth.code = some c) (h4 : c.code = bytes)
    (h5 : (c.maxLocals == mx && c.exceptionTable.isEmpty && decide (c.maxStack ≤ mostOperands) && decide (meth.sig.returnType = rt) && !meth.locks && decide (parseMethodDescriptor y.desc = some meth.sig)) = true) : (Jvm.Cond.code y bytes mx rt).before a s = true := by
  simp only [Bool.and_eq_true, beq_iff_eq, Bool.not_eq_true', decide_eq_true_eq] at h5
  obtain ⟨⟨⟨⟨⟨g1, g2⟩, g3⟩, g4⟩, g5⟩, g6⟩ := h5
  simp [Cond.before, Cond.holds, Cond.value, h1, h2, h3, h4, g1, g2, g3, g4, g5, g6]
def isCode : Jvm.Cond → Bool
  | .code _ _ _ _ => true
  | _ => false
theorem all_split {L : List Jvm.Cond} {P : Jvm.Cond → Bool} (h1 : L.all (fun c => isCode c || P c) = true) (h2 : ∀ c ∈ L.filter isCode, P c = true) : L.all P = true := by
  refine List.all_eq_true.mpr fun c hc => ?_
  have h := List.all_eq_true.mp h1 c hc
  rcases Bool.eq_false_or_eq_true (isCode c) with hi | hi
  · exact h2 c (List.mem_filter.mpr ⟨hc, hi⟩)
  · simpa [hi] using h
set_option maxRecDepth 65536 in
theorem w_c0 : (Jvm.Cond.code x code maxLocals ret).before args0 about1 = true := code_word (m := ⟨1, 1⟩) (meth := k1m1) (c := k1c1) (by decide +kernel) rfl rfl rfl (by decide +kernel)
set_option maxRecDepth 65536 in
theorem w_c1 : (Jvm.Cond.code ({ cls := "com/example/tightwire/tightwire/Kind", name := "holds", desc := "(J)Z" } : Jvm.MethodName) prog_41_method_10_code (3 : Nat) (Option.some Jvm.ClassFile.FieldType.boolean)).before args0 about1 = true := code_word (m := ⟨6, 0⟩) (meth := k6m0) (c := k6c0) (by decide +kernel) rfl rfl rfl (by decide +kernel)
def codes1 : List Jvm.Cond := [Jvm.Cond.code x code maxLocals ret, Jvm.Cond.code ({ cls := "com/example/tightwire/tightwire/Kind", name := "holds", desc := "(J)Z" } : Jvm.MethodName) prog_41_method_10_code (3 : Nat) (Option.some Jvm.ClassFile.FieldType.boolean)]
set_option maxRecDepth 65536 in
theorem codes_eq : words1.filter isCode = codes1 := rfl
theorem w_codes : ∀ c ∈ words1.filter isCode, c.before args0 about1 = true := by
  rw [codes_eq]
  intro c hc
  simp only [codes1, List.mem_cons, List.not_mem_nil, or_false] at hc
  rcases hc with rfl | rfl
  · exact w_c0
  · exact w_c1
set_option maxRecDepth 65536 in
theorem w_t1 : (words1.take 24).all (fun c => isCode c || c.before args0 about1) = true := by decide +kernel
set_option maxRecDepth 65536 in
theorem w_t2 : (words1.drop 24).all (fun c => isCode c || c.before args0 about1) = true := by decide +kernel
theorem w_tables : (allAtoms (Jvm.Cond.code x code maxLocals ret :: tables_1)).before args0 about1 = true := by
  rw [allAtoms_all]
  show words1.all (fun c => c.before args0 about1) = true
  refine all_split ?_ w_codes
  rw [← List.take_append_drop 24 words1, List.all_append, w_t1, w_t2]
  rfl
set_option maxRecDepth 65536 in
theorem w_case : (Jvm.Cond.and given_1 narrow_1).before args0 about1 = true := by decide +kernel
theorem w_applies : (headSpec (Jvm.Cond.code x code maxLocals ret :: tables_1) room_1).applies x e0.platform about1 = true :=
  (Spec.applies_iff w_frames).mpr ⟨w_running, w_runnable, w_alone, w_named, w_hears, w_ripe, w_room, w_tables⟩
theorem atStart : AtStart classFile x code maxLocals ret World_1 tables_1 room_1 Calls_1 rest_1 Pre_1 launch0 p0 e0 about1 theMethod args0 below0 :=
  ⟨lists_1, trivial, launch0.admits_env _ _ _, launch0.least_env, fairChoices_fair.cas, fairChoices_fair.clock, w_frames, w_args, w_heap, w_applies, trivial, trivial, w_case⟩
end start1
theorem witness_1 : WitnessClaimed_1 := ⟨start1.p0, start1.e0, start1.about1, start1.theMethod, start1.args0, start1.below0, start1.atStart⟩
end Jvm.Pilot.@@N@@
