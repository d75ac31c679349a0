import JvmDerived
import JvmDerived.Pilot.@@N@@Statement
import JvmDerived.Pilot.@@N@@Code
set_option linter.unusedVariables false
set_option linter.unusedSimpArgs false

namespace Jvm.RoadKit
open Sem ClassFile Op Lib Jvm.Stand Jvm.Free Jvm.LawKit
section New
variable {p : Program} {l : Launch} {e : Env} {R : Room} {s : State} {m : MethodId} {args : Array Value} {below : List Frame} {meth : Method} {c : Code} {T : State} {locs : List Loc} {cells slots : Nat}
theorem retI (X : Stand p l e R s m args below meth c T locs cells slots) (hx : p.tables.exec = Jvm.exec) {pc : Nat} {Ls : Array Slot} {z : Int32} {rest : List Value} (hret : meth.sig.returnType = some .int) (hd : decode c.code pc = .ok (.ireturn, 1)) {fs : List Frame}
    (hl : ∀ (f : JFrame) (acts : List Action), f.method = m → f.locked = none → f.entered = [] → (doReturn e (T.setTop f) acts (some (.int z))).1 = T.setFrames fs) : Steps p.tables e below (T.setTop (mkF m pc Ls (.int z :: rest))) (T.setFrames fs) := by
  have hm' : T.vm.method? m = some meth := X.method'
  have hn : narrow .int (.int z) = .int z := rfl
  show Steps p.tables e below (T.setTop { method := m, pc := pc, locals := Ls, stack := _ :: rest, locked := none }) _
  jvm_step X.here [X.here.top, hx, hd, hm', hret, hn]
  first | (intro acts; rw [hl _ acts rfl rfl rfl]) | rw [hl _ _ rfl rfl rfl]
  exact Steps.refl _
end New
end Jvm.RoadKit

namespace Jvm.RoadKit
open Sem ClassFile Op Lib Jvm.Stand Jvm.Free Jvm.LawKit
section Own2
variable {p : Program} {l : Launch} {e : Env} {R : Room} {s : State} {m : MethodId} {args : Array Value} {below : List Frame} {meth : Method} {c : Code} {T : State} {locs : List Loc} {cells slots : Nat}
theorem own_dup2 (X : Stand p l e R s m args below meth c T locs cells slots) (hx : p.tables.exec = Jvm.exec) {pc : Nat} {Ls : Array Slot} {v1 v2 : Value} {rest : List Value} (hd : decode c.code pc = .ok (.dup2, 1)) (c1 : v1.category = 1) (c2 : v2.category = 1) {t : State}
    (k : Steps p.tables e below (T.setTop (mkF m (pc + 1) Ls (v1 :: v2 :: v1 :: v2 :: rest))) t) : Steps p.tables e below (T.setTop (mkF m pc Ls (v1 :: v2 :: rest))) t := by
  show Steps p.tables e below (T.setTop { method := m, pc := pc, locals := Ls, stack := v1 :: v2 :: rest, locked := none }) _
  jvm_step X.here [X.here.top, hx, hd, c1, c2]
  exact k
end Own2
end Jvm.RoadKit

namespace Jvm.Pilot.@@N@@
open Jvm Jvm.ClassFile Sem Op Lib Jvm.Free Jvm.Stand Jvm.LawKit Jvm.RoadKit Bundle Jvm.Pilot.@@N@@.Jvm.D

theorem own_up {p : Program} {l : Launch} {e : Env} {R : Room} {s : State} {m : MethodId} {args : Array Value} {below : List Frame} {meth : Method} {c : Code} {T : State} {locs : List Loc} {cells slots cells' slots' : Nat} (X : Stand p l e R s m args below meth c T locs cells slots) (h1 : cells ≤ cells') (h2 : slots ≤ slots') : Stand p l e R s m args below meth c T locs cells' slots' := { X with same := X.same.mono h1 h2 }
theorem own_ikeep {Z : State} {h h' : Heap} {a : Addr} {C : String} {b : Bool} {ws : List Addr} (F : Ins Z h a C b) (K : Keep h h' ws) : Ins Z h' a C b := by
  obtain ⟨cell, cT, h1, h2, h3⟩ := F
  obtain ⟨c', q1, q2, q3, -⟩ := K.2.2 _ _ h1
  exact ⟨c', cT, q1, h2, by rw [q2, q3]; exact h3⟩

theorem own_selp {Z s : State} {a0 args : Array Value} {y : MethodName} {n : Nat} (hZ : Z.Warmed39 s.vm) (hins : (Cond.instantiable y.cls n).before a0 Z = true) (hp : (Cond.privateMethod y).before a0 Z = true) (hi : (Cond.instanceMethod y).before a0 Z = true) (hy : y.cls ≠ "java/lang/invoke/MethodHandle" ∧ y.cls ≠ "java/lang/invoke/VarHandle") : (Cond.selects y.cls y y).before args s = true := by
  have h1 : (Cond.selects y.cls y y).before a0 Z = true := by
    obtain ⟨c, k, hc, hk, -, hniab, -, -⟩ := Cond.instantiable_spec hins
    exact Stand.selects_self_of_private hc hk (Bool.or_eq_false_iff.mp hniab).1 (Cond.privateMethod_at hp) hi hy
  exact mvT hZ h1

/-- an array in function form: n places, f i at the place i -/
def AF (Z : State) (h : Heap) (a : Addr) (k : ClassId) (ty : FieldType) (n : Nat) (f : Nat → Value) : Prop := ∃ c : Cell, Arr Z h a c ty ∧ c.cls = k ∧ c.slots.size = n ∧ ∀ j, j < n → c.slots[j]? = some (f j)
def own_upd (f : Nat → Value) (i : Nat) (v : Value) : Nat → Value := fun j => if j = i then v else f j
theorem own_upd_eq (f : Nat → Value) (i : Nat) (v : Value) : own_upd f i v i = v := if_pos rfl
theorem own_upd_ne (f : Nat → Value) {i j : Nat} (v : Value) (h : j ≠ i) : own_upd f i v j = f j := if_neg h
theorem AF.lt {Z : State} {h : Heap} {a : Addr} {k : ClassId} {ty : FieldType} {n : Nat} {f : Nat → Value} (F : AF Z h a k ty n f) : a < h.size := by obtain ⟨c, A, -⟩ := F; exact A.lt
theorem AF.ext {Z : State} {h h' : Heap} {a : Addr} {k : ClassId} {ty : FieldType} {n : Nat} {f : Nat → Value} (F : AF Z h a k ty n f) (E : Ext h h') : AF Z h' a k ty n f := by obtain ⟨c, A, r⟩ := F; exact ⟨c, A.ext E, r⟩
theorem AF.other {Z : State} {h h' : Heap} {a b : Addr} {sl : Nat} {v : Value} {k : ClassId} {ty : FieldType} {n : Nat} {f : Nat → Value} (F : AF Z h a k ty n f) (W : Wr h h' b sl v) (q : a ≠ b) : AF Z h' a k ty n f := by obtain ⟨c, A, r⟩ := F; exact ⟨c, A.other W q, r⟩
theorem AF.keep {Z : State} {h h' : Heap} {a : Addr} {ws : List Addr} {k : ClassId} {ty : FieldType} {n : Nat} {f : Nat → Value} (F : AF Z h a k ty n f) (K : Keep h h' ws) (q : a ∉ ws) : AF Z h' a k ty n f := by obtain ⟨c, A, r⟩ := F; exact ⟨c, ⟨K.2.1 a c A.1 q, A.2⟩, r⟩
theorem AF.new {Z : State} {h : Heap} {a : Addr} {k : ClassId} {ty : FieldType} {z : Int32} {n : Nat} (A : Arr Z h a (newA k ty z) ty) (hz : z.toNatClampNeg = n) : AF Z h a k ty n (fun _ => defaultValue ty) := by
  refine ⟨_, A, rfl, (sz_new _ _ _).trans hz, fun j hj => ?_⟩
  have hj' : j < z.toNatClampNeg := by rw [hz]; exact hj
  rw [show (newA k ty z).slots = Array.replicate z.toNatClampNeg (defaultValue ty) from rfl, Array.getElem?_replicate, if_pos hj']
theorem AF.of_arv {Z : State} {h : Heap} {a : Addr} {k : ClassId} {ty : FieldType} {z : Int32} {vs : List Value} {d : Value} {n : Nat} (F : Arv Z h a k ty z vs d) (hz : z.toNatClampNeg = n) : AF Z h a k ty n (fun j => vs.getD j d) := by
  obtain ⟨c, A, q, S, -, H, -⟩ := F
  exact ⟨c, A, q, S.trans hz, fun j hj => H j (by rw [S, hz]; exact hj)⟩
theorem AF.congr {Z : State} {h : Heap} {a : Addr} {k : ClassId} {ty : FieldType} {n : Nat} {f g : Nat → Value} (F : AF Z h a k ty n f) (q : ∀ j, j < n → f j = g j) : AF Z h a k ty n g := by obtain ⟨c, A, r, s, H⟩ := F; exact ⟨c, A, r, s, fun j hj => by rw [← q j hj]; exact H j hj⟩
theorem own_ix {i : Nat} (h : i < 2147483648) : ¬ (Nat.toInt32 i) < 0 ∧ (Nat.toInt32 i).toNatClampNeg = i := by
  have e : (Nat.toInt32 i).toInt = i := len_toInt h
  refine ⟨fun q => ?_, ?_⟩
  · rw [Int32.lt_iff_toInt_lt, e] at q
    have z : (0 : Int32).toInt = 0 := by decide
    omega
  · simp only [Int32.toNatClampNeg, e]
    rfl
theorem AF.inb {c : Cell} {n i : Nat} {j : Int32} (S : c.slots.size = n) (hj : ¬ j < 0 ∧ j.toNatClampNeg = i) (hi : i < n) : ¬ (j < 0 ∨ c.slots.size ≤ j.toNatClampNeg) := fun q => by
  rcases q with q | q
  · exact hj.1 q
  · rw [S, hj.2] at q; omega
theorem AF.at {c : Cell} {n i : Nat} {f : Nat → Value} {j : Int32} {v : Value} (H : ∀ j, j < n → c.slots[j]? = some (f j)) (hj : ¬ j < 0 ∧ j.toNatClampNeg = i) (hi : i < n) (hv : f i = v) : c.slots[j.toNatClampNeg]? = some v := by rw [hj.2, H i hi, hv]
theorem AF.set {Z : State} {h h' : Heap} {a : Addr} {c : Cell} {k : ClassId} {ty : FieldType} {n i : Nat} {f : Nat → Value} {j : Int32} {v : Value} (A : Arr Z h a c ty) (q : c.cls = k) (S : c.slots.size = n) (H : ∀ j, j < n → c.slots[j]? = some (f j)) (W : Wr h h' a j.toNatClampNeg v) (hj : ¬ j < 0 ∧ j.toNatClampNeg = i) (hi : i < n) : AF Z h' a k ty n (own_upd f i v) := by
  refine ⟨_, A.same W, q, by rw [sz_set]; exact S, fun y hy => ?_⟩
  rw [hj.2]
  simp only [Cell.setSlot, Array.getElem?_setIfInBounds]
  by_cases e : y = i
  · subst e
    have : y < c.slots.size := by rw [S]; exact hy
    simp [own_upd, this]
  · rw [if_neg (fun z => e z.symm), H y hy, own_upd_ne f v e]
theorem own_bb (x : Int32) : x.toInt8.toInt32.toInt8.toInt32 = x.toInt8.toInt32 := by simp
theorem own_nb (x : Int32) : nar .byte x.toInt8.toInt32 = x.toInt8.toInt32 := own_bb x
theorem own_loop {G : Prop} {A : Nat → Prop} (hs : ∀ k, (A k → G) → A (k + 1) → G) (he : A 0 → G) : ∀ k, A k → G
  | 0, h => he h
  | k + 1, h => hs k (own_loop hs he k) h
theorem own_ti {i : Nat} (h : i < 2147483648) : (Nat.toInt32 i).toInt = i := len_toInt h
theorem own_inc {i : Nat} (h : i + 1 < 2147483648) : (Nat.toInt32 i) + (1 : Int32) = (Nat.toInt32 (i + 1)) := by
  rw [← Int32.toInt_inj, own_ti h]
  have e := own_ti (i := i) (by omega)
  have q := c_iadd (Nat.toInt32 i) 1
  have r := rng32 (Nat.toInt32 i + 1)
  have o : (1 : Int32).toInt = 1 := by decide
  omega
theorem own_dbl {i : Nat} (h : 2 * i < 2147483648) : ((Nat.toInt32 i) <<< ((1 : Int32) &&& 31)) = (Nat.toInt32 (2 * i)) := by
  rw [← Int32.toInt_inj, own_ti h]
  have e := own_ti (i := i) (by omega)
  have q := c_ishl (Nat.toInt32 i) 1 1 (by decide)
  have r := rng32 ((Nat.toInt32 i) <<< ((1 : Int32) &&& 31))
  omega
theorem own_hlf {i : Nat} (h : 2 * i < 2147483648) : ((Nat.toInt32 (2 * i)) >>> ((1 : Int32) &&& 31)) = (Nat.toInt32 i) := by
  rw [← Int32.toInt_inj, own_ti (by omega), c_ishr _ 1 1 (by decide), own_ti h]
  omega
theorem own_lt {i j : Nat} (hi : i < 2147483648) (hj : j < 2147483648) : (Nat.toInt32 i) < (Nat.toInt32 j) ↔ i < j := by
  rw [Int32.lt_iff_toInt_lt, own_ti hi, own_ti hj]
  omega
theorem own_eqn {i j : Nat} (hi : i < 2147483648) (hj : j < 2147483648) : (Nat.toInt32 i) = (Nat.toInt32 j) ↔ i = j := by
  rw [← Int32.toInt_inj, own_ti hi, own_ti hj]
  omega

def TR (Z : State) (h : Heap) (a AA1 AA2 AA3 AA4 : Addr) (kA1 kA2 kA3 kA4 : ClassId) (f1 f2 f3 f4 : Nat → Value) (rc tc : Nat) : Prop := Exa Z h a "com/example/probver/probver/model/TransitionRows" ∧ Fld Z h a "com/example/probver/probver/model/TransitionRows" "firstTransitions" "[I" (.ref AA1) ∧ Fld Z h a "com/example/probver/probver/model/TransitionRows" "rowCount" "I" (.int (Nat.toInt32 rc)) ∧ Fld Z h a "com/example/probver/probver/model/TransitionRows" "successors" "[I" (.ref AA2) ∧ Fld Z h a "com/example/probver/probver/model/TransitionRows" "probabilities" "[D" (.ref AA3) ∧ Fld Z h a "com/example/probver/probver/model/TransitionRows" "exactProbabilities" "[Lcom/example/probver/probver/util/Rational;" .null ∧ Fld Z h a "com/example/probver/probver/model/TransitionRows" "transitionCount" "I" (.int (Nat.toInt32 tc)) ∧ Fld Z h a "com/example/probver/probver/model/TransitionRows" "sortKeys" "[J" (.ref AA4) ∧ AF Z h AA1 kA1 .int 16 f1 ∧ AF Z h AA2 kA2 .int 16 f2 ∧ AF Z h AA3 kA3 .double 16 f3 ∧ AF Z h AA4 kA4 .long 16 f4
def TN (n0 : Nat) (a AA1 AA2 AA3 AA4 : Addr) : Prop := (n0 ≤ a ∧ n0 ≤ AA1 ∧ n0 ≤ AA2 ∧ n0 ≤ AA3 ∧ n0 ≤ AA4) ∧ a ≠ AA1 ∧ a ≠ AA2 ∧ a ≠ AA3 ∧ a ≠ AA4 ∧ AA1 ≠ AA2 ∧ AA1 ≠ AA3 ∧ AA1 ≠ AA4 ∧ AA2 ≠ AA3 ∧ AA2 ≠ AA4 ∧ AA3 ≠ AA4
def T2 (f : Nat → Value) : Prop := ∀ j, j < 16 → ∃ x : Int32, f j = .int x
def TP3 (M : Nat) (f : Nat → Value) : Prop := ∀ j, j < 16 → ∃ v : Int64, f j = .double (FP.l2d v) ∧ 0 ≤ v.toInt ∧ v.toInt ≤ M
def KP (c : Nat) (key : Int64) : Prop := ∃ j, j < c ∧ key.toInt32 = Nat.toInt32 j
def TP4 (c n : Nat) (f : Nat → Value) : Prop := ∀ j, j < n → ∃ key : Int64, f j = .long key ∧ KP c key
theorem T2.upd {f : Nat → Value} (H : T2 f) (i : Nat) (x : Int32) : T2 (own_upd f i (.int x)) := fun j hj => by
  by_cases e : j = i
  · subst e; exact ⟨x, own_upd_eq _ _ _⟩
  · obtain ⟨y, hy⟩ := H j hj; exact ⟨y, by rw [own_upd_ne _ _ e]; exact hy⟩
theorem TP3.mono {M N : Nat} {f : Nat → Value} (H : TP3 M f) (h : M ≤ N) : TP3 N f := fun j hj => by
  obtain ⟨v, h1, h2, h3⟩ := H j hj; exact ⟨v, h1, h2, by omega⟩
theorem TP3.upd {M : Nat} {f : Nat → Value} (H : TP3 M f) (i : Nat) {v : Int64} (h0 : 0 ≤ v.toInt) (h1 : v.toInt ≤ M) : TP3 M (own_upd f i (.double (FP.l2d v))) := fun j hj => by
  by_cases e : j = i
  · subst e; exact ⟨v, own_upd_eq _ _ _, h0, h1⟩
  · obtain ⟨y, hy⟩ := H j hj; exact ⟨y, by rw [own_upd_ne _ _ e]; exact hy⟩
theorem TP4.step {c i : Nat} {f : Nat → Value} (H : TP4 c i f) {key : Int64} (hk : KP c key) : TP4 c (i + 1) (own_upd f i (.long key)) := fun j hj => by
  by_cases e : j = i
  · subst e; exact ⟨key, own_upd_eq _ _ _, hk⟩
  · obtain ⟨y, hy⟩ := H j (by omega); exact ⟨y, by rw [own_upd_ne _ _ e]; exact hy⟩
theorem TP4.upd {c n : Nat} {f : Nat → Value} (H : TP4 c n f) (i : Nat) {key : Int64} (hk : KP c key) : TP4 c n (own_upd f i (.long key)) := fun j hj => by
  by_cases e : j = i
  · subst e; exact ⟨key, own_upd_eq _ _ _, hk⟩
  · obtain ⟨y, hy⟩ := H j hj; exact ⟨y, by rw [own_upd_ne _ _ e]; exact hy⟩
theorem own_add {i j : Nat} (h : i + j < 2147483648) : (Nat.toInt32 i) + (Nat.toInt32 j) = (Nat.toInt32 (i + j)) := by
  rw [← Int32.toInt_inj, own_ti h]
  have e1 := own_ti (i := i) (by omega)
  have e2 := own_ti (i := j) (by omega)
  have q := c_iadd (Nat.toInt32 i) (Nat.toInt32 j)
  have r := rng32 (Nat.toInt32 i + Nat.toInt32 j)
  omega
theorem own_sub {i j : Nat} (h : i + j < 2147483648) : (Nat.toInt32 (i + j)) - (Nat.toInt32 i) = (Nat.toInt32 j) := by
  rw [← Int32.toInt_inj, own_ti (i := j) (by omega)]
  have e1 := own_ti (i := i) (by omega)
  have e2 := own_ti h
  have q := c_isub (Nat.toInt32 (i + j)) (Nat.toInt32 i)
  have r := rng32 (Nat.toInt32 (i + j) - Nat.toInt32 i)
  omega
theorem own_pre {i : Nat} (h0 : 0 < i) (h : i < 2147483648) : (Nat.toInt32 i) - (1 : Int32) = (Nat.toInt32 (i - 1)) := by
  rw [← Int32.toInt_inj, own_ti (i := i - 1) (by omega)]
  have e1 := own_ti h
  have q := c_isub (Nat.toInt32 i) 1
  have r := rng32 (Nat.toInt32 i - 1)
  have o : (1 : Int32).toInt = 1 := by decide
  omega
theorem own_dec {i : Nat} (h : i + 1 < 2147483648) : (Nat.toInt32 (i + 1)) + (-1 : Int32) = (Nat.toInt32 i) := by
  rw [← Int32.toInt_inj, own_ti (i := i) (by omega)]
  have e1 := own_ti h
  have q := c_iadd (Nat.toInt32 (i + 1)) (-1)
  have r := rng32 (Nat.toInt32 (i + 1) + (-1 : Int32))
  have o : (-1 : Int32).toInt = -1 := by decide
  omega
theorem own_sub0 (x : Int32) : x - (0 : Int32) = x := by
  rw [← Int32.toInt_inj]
  have q := c_isub x 0
  have r := rng32 (x - 0)
  have r2 := rng32 x
  have o : (0 : Int32).toInt = 0 := by decide
  omega
theorem own_key {c i : Nat} (hi : i < c) (hc : c ≤ 4) (x : Int32) : KP c ((x.toInt64 <<< ((32 : Int32) &&& 0x3f).toInt64) ||| (Nat.toInt32 i).toInt64) := by
  refine ⟨i, hi, ?_⟩
  have e := own_ti (i := i) (by omega)
  have e2 : (Nat.toInt32 i).toInt64.toInt = i := by rw [c_i2l, e]
  have s := c_lshl x.toInt64 32 32 (by decide)
  have o := c_orL (x.toInt64 <<< ((32 : Int32) &&& 0x3f).toInt64) (Nat.toInt32 i).toInt64 32 (by decide) 4294967296 (by decide) (by omega) (by omega) (by omega)
  have r := rng64 ((x.toInt64 <<< ((32 : Int32) &&& 0x3f).toInt64) ||| (Nat.toInt32 i).toInt64)
  have l := c_l2i ((x.toInt64 <<< ((32 : Int32) &&& 0x3f).toInt64) ||| (Nat.toInt32 i).toInt64)
  have r2 := rng32 ((x.toInt64 <<< ((32 : Int32) &&& 0x3f).toInt64) ||| (Nat.toInt32 i).toInt64).toInt32
  rw [← Int32.toInt_inj, e]
  omega
def own_min (a b : Int32) : Int32 := if b < a then b else a
theorem own_minc {i j : Nat} (h : j ≤ i) (hi : i < 2147483648) : own_min (Nat.toInt32 i) (Nat.toInt32 j) = Nat.toInt32 j := by
  unfold own_min
  split
  · rfl
  · rename_i q
    have : ¬ j < i := fun z => q ((own_lt (by omega) hi).mpr z)
    rw [show i = j by omega]
theorem own_B {M : Nat} {v : Int64} (h0 : 0 ≤ v.toInt) (h1 : v.toInt ≤ M) (hM : M < 9007199254740992) : B53 v := ⟨by omega, by omega⟩
theorem own_sum {M N : Nat} {u v : Int64} (u0 : 0 ≤ u.toInt) (u1 : u.toInt ≤ M) (v0 : 0 ≤ v.toInt) (v1 : v.toInt ≤ N) (hM : M + N < 9007199254740992) : FP.dadd (FP.l2d u) (FP.l2d v) = FP.l2d (u + v) ∧ 0 ≤ (u + v).toInt ∧ (u + v).toInt ≤ M + N := by
  have b1 : B53 u := own_B u0 u1 (by omega)
  have b2 : B53 v := own_B v0 v1 (by omega)
  have e := RoadKit.add64 b1 b2
  exact ⟨dadd_w b1 b2, by omega, by omega⟩
def QN (h0 : Heap) (n0 : Nat) (v : Option Value) (h : Heap) (L : List Loc) : Prop := v = none ∧ Fr n0 L ∧ h = h0
def QI (x : Int32) (h0 : Heap) (n0 : Nat) (v : Option Value) (h : Heap) (L : List Loc) : Prop := v = some (.int x) ∧ Fr n0 L ∧ h = h0

def own_ro (tc ft : Int32) : Int32 := if tc = ft then 0 else 1
theorem d3_0 : decode prog_142_method_9_code 0 = .ok (.aload_n 0, 1) := by decide +kernel
theorem d3_1 : decode prog_142_method_9_code 1 = .ok (.getfield 61, 3) := by decide +kernel
theorem d3_4 : decode prog_142_method_9_code 4 = .ok (.aload_n 0, 1) := by decide +kernel
theorem d3_5 : decode prog_142_method_9_code 5 = .ok (.getfield 7, 3) := by decide +kernel
theorem d3_8 : decode prog_142_method_9_code 8 = .ok (.aload_n 0, 1) := by decide +kernel
theorem d3_9 : decode prog_142_method_9_code 9 = .ok (.getfield 99, 3) := by decide +kernel
theorem d3_12 : decode prog_142_method_9_code 12 = .ok (.iaload, 1) := by decide +kernel
theorem d3_13 : decode prog_142_method_9_code 13 = .ok (.if_icmp .eq 7, 3) := by decide +kernel
theorem d3_16 : decode prog_142_method_9_code 16 = .ok (.iconst 1, 1) := by decide +kernel
theorem d3_17 : decode prog_142_method_9_code 17 = .ok (.goto 4, 3) := by decide +kernel
theorem d3_20 : decode prog_142_method_9_code 20 = .ok (.iconst 0, 1) := by decide +kernel
theorem d3_21 : decode prog_142_method_9_code 21 = .ok (.ireturn, 1) := by decide +kernel
theorem pn_com_example_probver_probver_model_TransitionRows : plainName "com/example/probver/probver/model/TransitionRows" = true := by first | (simp [plainName, overriddenIn]; done) | decide +kernel
theorem ef_3 (m : MethodId) (x0 : Addr) : entryFrame m #[(.ref x0)] 1 = mkF m 0 #[.val (.ref x0)] [] := by first | (simp [entryFrame, mkF, argsToLocals, Value.category]; done) | rfl
set_option maxRecDepth 65536 in
set_option maxHeartbeats 40000000 in
theorem rm3 (l : Launch) (Z : State) (a0 : Array Value) (hw : ∀ d ∈ tables_1, d.before a0 Z = true) (ws : List Jvm.Cond) (a AA1 AA2 AA3 AA4 : Addr) (kA1 kA2 kA3 kA4 : ClassId) (f1 f2 f3 f4 : Nat → Value) (rc tc : Nat) (ft : Nat) (h0 : Heap) (n0 : Nat) (O0 : Old Z n0 h0) (B : TR Z h0 a AA1 AA2 AA3 AA4 kA1 kA2 kA3 kA4 f1 f2 f3 f4 rc tc) (hrc : rc < 16) (hft : f1 rc = .int (Nat.toInt32 ft)) :
    MetFree l (⟨"com/example/probver/probver/model/TransitionRows", "rowOpen", "()Z"⟩ : MethodName) (head1 (Jvm.Cond.code (⟨"com/example/probver/probver/model/TransitionRows", "rowOpen", "()Z"⟩ : MethodName) prog_142_method_9_code 1 (some .boolean) :: ws) ({ frames := 0, cells := 0, slots := 0, locals := 0 } : Room)) (fun aQ U => aQ = #[(.ref a)] ∧ Z.Warmed39 U.vm ∧ U.heap = h0) (fun _ _ _ _ _ => True) (fun _ U o U' => ∃ v L, o = .returned v ∧ QI (own_ro (Nat.toInt32 tc) (Nat.toInt32 ft)) h0 n0 v U'.heap L ∧ FrameEnd U o U' L ({ frames := 0, cells := 0, slots := 0, locals := 0 } : Room).cells ({ frames := 0, cells := 0, slots := 0, locals := 0 } : Room).slots) := by
  refine MetFree.of_bodySF (plainFor_of_name pn_com_example_probver_probver_model_TransitionRows) hisR ?_
  intro p e s m args below meth kode s₁ Bd hml0 hP hK
  obtain ⟨rfl, hZ, hh⟩ := hP
  have hx := Bd.exec
  have hby := Bd.bytes
  have hml : kode.maxLocals = 1 := hml0
  have hown : s.vm.findClass "com/example/probver/probver/model/TransitionRows" = some m.cls := findClass_of_methodNamed Bd.named
  have hnm := (name_of_methodNamed Bd.named Bd.method).1
  have X0 : Stand p l e ({ frames := 0, cells := 0, slots := 0, locals := 0 } : Room) s m #[(.ref a)] below meth kode s₁ [] 0 0 := Stand.of_body Bd
  have e0 : s₁.heap = h0 := by rw [← hh, Bd.state]; rfl
  have N0 := Fr.nil n0
  have pre0 : ∀ t, Steps p.tables e below (s₁.setTop (mkF m 0 #[.val (.ref a)] [])) t → Steps p.tables e below (s₁.setTop (entryFrame m #[(.ref a)] 1)) t := fun t k => castTop (ef_3 m a) k
  obtain ⟨E_a, FfirstTransitions, FrowCount, Fsuccessors, Fprobabilities, FexactProbabilities, FtransitionCount, FsortKeys, AF1, AF2, AF3, AF4⟩ := B
  have cn1 := fun (t : State) (kt : Steps p.tables e below (s₁.setTop (mkF m 1 #[.val (.ref a)] [(.ref a)])) t) => pre0 t (by
    refine XS.aloadN X0.here hx rfl (hb hby d3_0) rfl rfl ?_
    show Steps p.tables e below (s₁.setTop (mkF m 1 #[.val (.ref a)] [(.ref a)])) _
    exact kt)
  obtain ⟨T2, X2, e2, st2⟩ := getF X0 hx hZ hown (host := "") (Or.inl (hw _ (List.mem_of_getElem? (i := 25) rfl))) Via.refl e0 FtransitionCount (g := (mkF m 1 #[.val (.ref a)] [(.ref a)])) rfl rfl (hb hby d3_1)
  have cn3 := fun (t : State) (kt : Steps p.tables e below (T2.setTop (mkF m 5 #[.val (.ref a)] [(.ref a), (.int (Nat.toInt32 tc))])) t) => cn1 t (by
    refine st2 _ ?_
    show Steps p.tables e below (T2.setTop (mkF m 4 #[.val (.ref a)] [(.int (Nat.toInt32 tc))])) _
    refine XS.aloadN X2.here hx rfl (hb hby d3_4) rfl rfl ?_
    show Steps p.tables e below (T2.setTop (mkF m 5 #[.val (.ref a)] [(.ref a), (.int (Nat.toInt32 tc))])) _
    exact kt)
  obtain ⟨T4, X4, e4, st4⟩ := getF X2 hx hZ hown (host := "") (Or.inl (hw _ (List.mem_of_getElem? (i := 10) rfl))) Via.refl e2 FfirstTransitions (g := (mkF m 5 #[.val (.ref a)] [(.ref a), (.int (Nat.toInt32 tc))])) rfl rfl (hb hby d3_5)
  have cn5 := fun (t : State) (kt : Steps p.tables e below (T4.setTop (mkF m 9 #[.val (.ref a)] [(.ref a), (.ref AA1), (.int (Nat.toInt32 tc))])) t) => cn3 t (by
    refine st4 _ ?_
    show Steps p.tables e below (T4.setTop (mkF m 8 #[.val (.ref a)] [(.ref AA1), (.int (Nat.toInt32 tc))])) _
    refine XS.aloadN X4.here hx rfl (hb hby d3_8) rfl rfl ?_
    show Steps p.tables e below (T4.setTop (mkF m 9 #[.val (.ref a)] [(.ref a), (.ref AA1), (.int (Nat.toInt32 tc))])) _
    exact kt)
  obtain ⟨T6, X6, e6, st6⟩ := getF X4 hx hZ hown (host := "") (Or.inl (hw _ (List.mem_of_getElem? (i := 27) rfl))) Via.refl e4 FrowCount (g := (mkF m 9 #[.val (.ref a)] [(.ref a), (.ref AA1), (.int (Nat.toInt32 tc))])) rfl rfl (hb hby d3_9)
  have cn7 := fun (t : State) (kt : Steps p.tables e below (T6.setTop (mkF m 12 #[.val (.ref a)] [(.int (Nat.toInt32 rc)), (.ref AA1), (.int (Nat.toInt32 tc))])) t) => cn5 t (by
    refine st6 _ ?_
    show Steps p.tables e below (T6.setTop (mkF m 12 #[.val (.ref a)] [(.int (Nat.toInt32 rc)), (.ref AA1), (.int (Nat.toInt32 tc))])) _
    exact kt)
  have AFx8 := AF1
  obtain ⟨cl8, Ar8, q8, S8, H8⟩ := AFx8
  have hin8 : ¬ ((Nat.toInt32 rc) < 0 ∨ cl8.slots.size ≤ ((Nat.toInt32 rc)).toNatClampNeg) := AF.inb S8 (own_ix (by omega)) hrc
  have hat8 : cl8.slots[((Nat.toInt32 rc)).toNatClampNeg]? = some (.int (Nat.toInt32 ft)) := AF.at H8 (own_ix (by omega)) hrc hft
  have cn9 := fun (t : State) (kt : Steps p.tables e below (T6.setTop (mkF m 13 #[.val (.ref a)] [(.int (Nat.toInt32 ft)), (.int (Nat.toInt32 tc))])) t) => cn7 t (by
    refine X6.iaload hx (j := (Nat.toInt32 rc)) (v := (.int (Nat.toInt32 ft))) (by rw [e6]; exact Ar8.1) (State.isArrayOf_alike hZ.alike Ar8.2.1) Ar8.2.2 hin8 hat8 (g := (mkF m 12 #[.val (.ref a)] [(.int (Nat.toInt32 rc)), (.ref AA1), (.int (Nat.toInt32 tc))])) rfl rfl (hb hby d3_12) _ ?_
    show Steps p.tables e below (T6.setTop (mkF m 13 #[.val (.ref a)] [(.int (Nat.toInt32 ft)), (.int (Nat.toInt32 tc))])) _
    exact kt)
  by_cases hc13_10 : (Nat.toInt32 tc) = (Nat.toInt32 ft)
  · have cn11 := fun (t : State) (kt : Steps p.tables e below (T6.setTop (mkF m 21 #[.val (.ref a)] [(.int (0 : Int32))])) t) => cn9 t (by
      refine XS.icmpYes X6.here hx rfl (pc0 := 13) (pc' := 20) rfl (hb hby d3_13) rfl (teq hc13_10).1 (by decide) (by decide) ?_
      show Steps p.tables e below (T6.setTop (mkF m 20 #[.val (.ref a)] [])) _
      refine XS.iconst X6.here hx rfl (hb hby d3_20) ?_
      show Steps p.tables e below (T6.setTop (mkF m 21 #[.val (.ref a)] [(.int (0 : Int32))])) _
      exact kt)
    obtain ⟨frs, hr, hrun, hended, hW, hsame⟩ := X6.leave (v := some (.int (0 : Int32))) (fun h => by rw [Bd.returns] at h; cases h)
    refine ⟨_, _, cn11 _ ?_, hrun, hended, _, _, rfl, ?_, ⟨_, rfl⟩, hW, hsame.mono (by decide) (by decide)⟩
    · exact retN X6 hx (t := .boolean) Bd.returns (by simp) (hb hby d3_21) hr
    · show QI (own_ro (Nat.toInt32 tc) (Nat.toInt32 ft)) h0 n0 _ T6.heap _
      rw [e6]
      exact ⟨by simp [own_ro, hc13_10], N0, rfl⟩
  · have cn12 := fun (t : State) (kt : Steps p.tables e below (T6.setTop (mkF m 21 #[.val (.ref a)] [(.int (1 : Int32))])) t) => cn9 t (by
      refine XS.icmpNo X6.here hx rfl (hb hby d3_13) rfl (feq hc13_10).1 ?_
      show Steps p.tables e below (T6.setTop (mkF m 16 #[.val (.ref a)] [])) _
      refine XS.iconst X6.here hx rfl (hb hby d3_16) ?_
      show Steps p.tables e below (T6.setTop (mkF m 17 #[.val (.ref a)] [(.int (1 : Int32))])) _
      refine XS.goto X6.here hx rfl (pc0 := 17) (pc' := 21) rfl (hb hby d3_17) (by decide) (by decide) ?_
      show Steps p.tables e below (T6.setTop (mkF m 21 #[.val (.ref a)] [(.int (1 : Int32))])) _
      exact kt)
    obtain ⟨frs, hr, hrun, hended, hW, hsame⟩ := X6.leave (v := some (.int (1 : Int32))) (fun h => by rw [Bd.returns] at h; cases h)
    refine ⟨_, _, cn12 _ ?_, hrun, hended, _, _, rfl, ?_, ⟨_, rfl⟩, hW, hsame.mono (by decide) (by decide)⟩
    · exact retN X6 hx (t := .boolean) Bd.returns (by simp) (hb hby d3_21) hr
    · show QI (own_ro (Nat.toInt32 tc) (Nat.toInt32 ft)) h0 n0 _ T6.heap _
      rw [e6]
      exact ⟨by simp [own_ro, hc13_10], N0, rfl⟩

theorem d17_0 : decode prog_142_method_4_code 0 = .ok (.iload_n 0, 1) := by decide +kernel
theorem d17_1 : decode prog_142_method_4_code 1 = .ok (.ifCond .ge 17, 3) := by decide +kernel
theorem d17_18 : decode prog_142_method_4_code 18 = .ok (.return_, 1) := by decide +kernel
theorem ef_17 (m : MethodId) (x0 : Int32) : entryFrame m #[(.int x0)] 1 = mkF m 0 #[.val (.int x0)] [] := by first | (simp [entryFrame, mkF, argsToLocals, Value.category]; done) | rfl
set_option maxRecDepth 65536 in
set_option maxHeartbeats 40000000 in
theorem rm17 (l : Launch) (Z : State) (a0 : Array Value) (hw : ∀ d ∈ tables_1, d.before a0 Z = true) (ws : List Jvm.Cond) (p2 : Int32) (h0 : Heap) (n0 : Nat) (O0 : Old Z n0 h0) (hs : ¬ p2 < (0 : Int32)) :
    MetFree l (⟨"com/example/probver/probver/model/TransitionRows", "checkSuccessor", "(I)V"⟩ : MethodName) (head1 (Jvm.Cond.code (⟨"com/example/probver/probver/model/TransitionRows", "checkSuccessor", "(I)V"⟩ : MethodName) prog_142_method_4_code 1 none :: ws) ({ frames := 0, cells := 0, slots := 0, locals := 0 } : Room)) (fun aQ U => aQ = #[(.int p2)] ∧ Z.Warmed39 U.vm ∧ U.heap = h0) (fun _ _ _ _ _ => True) (fun _ U o U' => ∃ v L, o = .returned v ∧ QN h0 n0 v U'.heap L ∧ FrameEnd U o U' L ({ frames := 0, cells := 0, slots := 0, locals := 0 } : Room).cells ({ frames := 0, cells := 0, slots := 0, locals := 0 } : Room).slots) := by
  refine MetFree.of_bodySF (plainFor_of_name pn_com_example_probver_probver_model_TransitionRows) hisR ?_
  intro p e s m args below meth kode s₁ Bd hml0 hP hK
  obtain ⟨rfl, hZ, hh⟩ := hP
  have hx := Bd.exec
  have hby := Bd.bytes
  have hml : kode.maxLocals = 1 := hml0
  have hown : s.vm.findClass "com/example/probver/probver/model/TransitionRows" = some m.cls := findClass_of_methodNamed Bd.named
  have hnm := (name_of_methodNamed Bd.named Bd.method).1
  have X0 : Stand p l e ({ frames := 0, cells := 0, slots := 0, locals := 0 } : Room) s m #[(.int p2)] below meth kode s₁ [] 0 0 := Stand.of_body Bd
  have e0 : s₁.heap = h0 := by rw [← hh, Bd.state]; rfl
  have N0 := Fr.nil n0
  have pre0 : ∀ t, Steps p.tables e below (s₁.setTop (mkF m 0 #[.val (.int p2)] [])) t → Steps p.tables e below (s₁.setTop (entryFrame m #[(.int p2)] 1)) t := fun t k => castTop (ef_17 m p2) k
  have cn1 := fun (t : State) (kt : Steps p.tables e below (s₁.setTop (mkF m 1 #[.val (.int p2)] [(.int p2)])) t) => pre0 t (by
    refine XS.iloadN X0.here hx rfl (hb hby d17_0) rfl ?_
    show Steps p.tables e below (s₁.setTop (mkF m 1 #[.val (.int p2)] [(.int p2)])) _
    exact kt)
  have cn2 := fun (t : State) (kt : Steps p.tables e below (s₁.setTop (mkF m 18 #[.val (.int p2)] [])) t) => cn1 t (by
    refine XS.ifYes X0.here hx rfl (pc0 := 1) (pc' := 18) rfl (hb hby d17_1) rfl ((if0 _ _).trans (flt hs).2.1) (by decide) (by decide) ?_
    show Steps p.tables e below (s₁.setTop (mkF m 18 #[.val (.int p2)] [])) _
    exact kt)
  obtain ⟨frs, hr, hrun, hended, hW, hsame⟩ := X0.leave (v := none) (fun _ => rfl)
  refine ⟨_, _, cn2 _ ?_, hrun, hended, _, _, rfl, ?_, ⟨_, rfl⟩, hW, hsame.mono (by decide) (by decide)⟩
  · exact X0.returnOut hx Bd.returns (hb hby d17_18) hr
  · show QN h0 n0 _ s₁.heap _
    rw [e0]
    exact ⟨rfl, N0, rfl⟩

def QP (Z : State) (a AA1 AA2 AA3 AA4 : Addr) (kA1 kA2 kA3 kA4 : ClassId) (f1 f2 f3 f4 : Nat → Value) (rc tc : Nat) (p2 : Int32) (dv : UInt64) (h0 : Heap) (n0 : Nat) (v : Option Value) (h : Heap) (L : List Loc) : Prop := v = none ∧ Fr n0 L ∧ Keep h0 h [a, AA2, AA3] ∧ TR Z h a AA1 AA2 AA3 AA4 kA1 kA2 kA3 kA4 f1 (own_upd f2 tc (.int p2)) (own_upd f3 tc (.double dv)) f4 rc (tc + 1)
theorem d18_0 : decode prog_142_method_6_code 0 = .ok (.aload_n 0, 1) := by decide +kernel
theorem d18_1 : decode prog_142_method_6_code 1 = .ok (.getfield 61, 3) := by decide +kernel
theorem d18_4 : decode prog_142_method_6_code 4 = .ok (.aload_n 0, 1) := by decide +kernel
theorem d18_5 : decode prog_142_method_6_code 5 = .ok (.getfield 13, 3) := by decide +kernel
theorem d18_8 : decode prog_142_method_6_code 8 = .ok (.arraylength, 1) := by decide +kernel
theorem d18_9 : decode prog_142_method_6_code 9 = .ok (.if_icmp .ne 37, 3) := by decide +kernel
theorem d18_46 : decode prog_142_method_6_code 46 = .ok (.aload_n 0, 1) := by decide +kernel
theorem d18_47 : decode prog_142_method_6_code 47 = .ok (.getfield 13, 3) := by decide +kernel
theorem d18_50 : decode prog_142_method_6_code 50 = .ok (.aload_n 0, 1) := by decide +kernel
theorem d18_51 : decode prog_142_method_6_code 51 = .ok (.getfield 61, 3) := by decide +kernel
theorem d18_54 : decode prog_142_method_6_code 54 = .ok (.iload_n 1, 1) := by decide +kernel
theorem d18_55 : decode prog_142_method_6_code 55 = .ok (.iastore, 1) := by decide +kernel
theorem d18_56 : decode prog_142_method_6_code 56 = .ok (.aload_n 0, 1) := by decide +kernel
theorem d18_57 : decode prog_142_method_6_code 57 = .ok (.getfield 16, 3) := by decide +kernel
theorem d18_60 : decode prog_142_method_6_code 60 = .ok (.aload_n 0, 1) := by decide +kernel
theorem d18_61 : decode prog_142_method_6_code 61 = .ok (.getfield 61, 3) := by decide +kernel
theorem d18_64 : decode prog_142_method_6_code 64 = .ok (.dload_n 2, 1) := by decide +kernel
theorem d18_65 : decode prog_142_method_6_code 65 = .ok (.dastore, 1) := by decide +kernel
theorem d18_66 : decode prog_142_method_6_code 66 = .ok (.aload_n 0, 1) := by decide +kernel
theorem d18_67 : decode prog_142_method_6_code 67 = .ok (.dup, 1) := by decide +kernel
theorem d18_68 : decode prog_142_method_6_code 68 = .ok (.getfield 61, 3) := by decide +kernel
theorem d18_71 : decode prog_142_method_6_code 71 = .ok (.iconst 1, 1) := by decide +kernel
theorem d18_72 : decode prog_142_method_6_code 72 = .ok (.iadd, 1) := by decide +kernel
theorem d18_73 : decode prog_142_method_6_code 73 = .ok (.putfield 61, 3) := by decide +kernel
theorem d18_76 : decode prog_142_method_6_code 76 = .ok (.return_, 1) := by decide +kernel
theorem ef_18 (m : MethodId) (x0 : Addr) (x1 : Int32) (x2 : UInt64) : entryFrame m #[(.ref x0), (.int x1), (.double x2)] 4 = mkF m 0 #[.val (.ref x0), .val (.int x1), .val (.double x2), .second] [] := by first | (simp [entryFrame, mkF, argsToLocals, Value.category]; done) | rfl
set_option maxRecDepth 65536 in
set_option maxHeartbeats 40000000 in
theorem rm18 (l : Launch) (Z : State) (a0 : Array Value) (hw : ∀ d ∈ tables_1, d.before a0 Z = true) (ws : List Jvm.Cond) (a AA1 AA2 AA3 AA4 : Addr) (kA1 kA2 kA3 kA4 : ClassId) (f1 f2 f3 f4 : Nat → Value) (rc tc : Nat) (p2 : Int32) (dv : UInt64) (h0 : Heap) (n0 : Nat) (O0 : Old Z n0 h0) (TNh : TN n0 a AA1 AA2 AA3 AA4) (B : TR Z h0 a AA1 AA2 AA3 AA4 kA1 kA2 kA3 kA4 f1 f2 f3 f4 rc tc) (htc : tc < 16) :
    MetFree l (⟨"com/example/probver/probver/model/TransitionRows", "append", "(ID)V"⟩ : MethodName) (head1 (Jvm.Cond.code (⟨"com/example/probver/probver/model/TransitionRows", "append", "(ID)V"⟩ : MethodName) prog_142_method_6_code 4 none :: ws) ({ frames := 0, cells := 0, slots := 0, locals := 0 } : Room)) (fun aQ U => aQ = #[(.ref a), (.int p2), (.double dv)] ∧ Z.Warmed39 U.vm ∧ U.heap = h0) (fun _ _ _ _ _ => True) (fun _ U o U' => ∃ v L, o = .returned v ∧ QP Z a AA1 AA2 AA3 AA4 kA1 kA2 kA3 kA4 f1 f2 f3 f4 rc tc p2 dv h0 n0 v U'.heap L ∧ FrameEnd U o U' L ({ frames := 0, cells := 0, slots := 0, locals := 0 } : Room).cells ({ frames := 0, cells := 0, slots := 0, locals := 0 } : Room).slots) := by
  refine MetFree.of_bodySF (plainFor_of_name pn_com_example_probver_probver_model_TransitionRows) hisR ?_
  intro p e s m args below meth kode s₁ Bd hml0 hP hK
  obtain ⟨rfl, hZ, hh⟩ := hP
  have hx := Bd.exec
  have hby := Bd.bytes
  have hml : kode.maxLocals = 4 := hml0
  have hown : s.vm.findClass "com/example/probver/probver/model/TransitionRows" = some m.cls := findClass_of_methodNamed Bd.named
  have hnm := (name_of_methodNamed Bd.named Bd.method).1
  have X0 : Stand p l e ({ frames := 0, cells := 0, slots := 0, locals := 0 } : Room) s m #[(.ref a), (.int p2), (.double dv)] below meth kode s₁ [] 0 0 := Stand.of_body Bd
  have e0 : s₁.heap = h0 := by rw [← hh, Bd.state]; rfl
  have N0 := Fr.nil n0
  have pre0 : ∀ t, Steps p.tables e below (s₁.setTop (mkF m 0 #[.val (.ref a), .val (.int p2), .val (.double dv), .second] [])) t → Steps p.tables e below (s₁.setTop (entryFrame m #[(.ref a), (.int p2), (.double dv)] 4)) t := fun t k => castTop (ef_18 m a p2 dv) k
  obtain ⟨⟨g_a, g_AA1, g_AA2, g_AA3, g_AA4⟩, ne_a_AA1, ne_a_AA2, ne_a_AA3, ne_a_AA4, ne_AA1_AA2, ne_AA1_AA3, ne_AA1_AA4, ne_AA2_AA3, ne_AA2_AA4, ne_AA3_AA4⟩ := TNh
  obtain ⟨E_a, FfirstTransitions, FrowCount, Fsuccessors, Fprobabilities, FexactProbabilities, FtransitionCount, FsortKeys, AF1, AF2, AF3, AF4⟩ := B
  have cn1 := fun (t : State) (kt : Steps p.tables e below (s₁.setTop (mkF m 1 #[.val (.ref a), .val (.int p2), .val (.double dv), .second] [(.ref a)])) t) => pre0 t (by
    refine XS.aloadN X0.here hx rfl (hb hby d18_0) rfl rfl ?_
    show Steps p.tables e below (s₁.setTop (mkF m 1 #[.val (.ref a), .val (.int p2), .val (.double dv), .second] [(.ref a)])) _
    exact kt)
  obtain ⟨T2, X2, e2, st2⟩ := getF X0 hx hZ hown (host := "") (Or.inl (hw _ (List.mem_of_getElem? (i := 25) rfl))) Via.refl e0 FtransitionCount (g := (mkF m 1 #[.val (.ref a), .val (.int p2), .val (.double dv), .second] [(.ref a)])) rfl rfl (hb hby d18_1)
  have cn3 := fun (t : State) (kt : Steps p.tables e below (T2.setTop (mkF m 5 #[.val (.ref a), .val (.int p2), .val (.double dv), .second] [(.ref a), (.int (Nat.toInt32 tc))])) t) => cn1 t (by
    refine st2 _ ?_
    show Steps p.tables e below (T2.setTop (mkF m 4 #[.val (.ref a), .val (.int p2), .val (.double dv), .second] [(.int (Nat.toInt32 tc))])) _
    refine XS.aloadN X2.here hx rfl (hb hby d18_4) rfl rfl ?_
    show Steps p.tables e below (T2.setTop (mkF m 5 #[.val (.ref a), .val (.int p2), .val (.double dv), .second] [(.ref a), (.int (Nat.toInt32 tc))])) _
    exact kt)
  obtain ⟨T4, X4, e4, st4⟩ := getF X2 hx hZ hown (host := "") (Or.inl (hw _ (List.mem_of_getElem? (i := 12) rfl))) Via.refl e2 Fsuccessors (g := (mkF m 5 #[.val (.ref a), .val (.int p2), .val (.double dv), .second] [(.ref a), (.int (Nat.toInt32 tc))])) rfl rfl (hb hby d18_5)
  have cn5 := fun (t : State) (kt : Steps p.tables e below (T4.setTop (mkF m 8 #[.val (.ref a), .val (.int p2), .val (.double dv), .second] [(.ref AA2), (.int (Nat.toInt32 tc))])) t) => cn3 t (by
    refine st4 _ ?_
    show Steps p.tables e below (T4.setTop (mkF m 8 #[.val (.ref a), .val (.int p2), .val (.double dv), .second] [(.ref AA2), (.int (Nat.toInt32 tc))])) _
    exact kt)
  have AFx6 := AF2
  obtain ⟨cl6, Ar6, q6, S6, H6⟩ := AFx6
  have cn7 := fun (t : State) (kt : Steps p.tables e below (T4.setTop (mkF m 9 #[.val (.ref a), .val (.int p2), .val (.double dv), .second] [(.int (Nat.toInt32 16)), (.int (Nat.toInt32 tc))])) t) => cn5 t (by
    refine X4.arraylength hx (by rw [e4]; exact Ar6.1) (State.isArrayOf_alike hZ.alike Ar6.2.1) (g := (mkF m 8 #[.val (.ref a), .val (.int p2), .val (.double dv), .second] [(.ref AA2), (.int (Nat.toInt32 tc))])) rfl rfl (hb hby d18_8) _ ?_
    rw [S6]
    show Steps p.tables e below (T4.setTop (mkF m 9 #[.val (.ref a), .val (.int p2), .val (.double dv), .second] [(.int (Nat.toInt32 16)), (.int (Nat.toInt32 tc))])) _
    exact kt)
  have cn8 := fun (t : State) (kt : Steps p.tables e below (T4.setTop (mkF m 47 #[.val (.ref a), .val (.int p2), .val (.double dv), .second] [(.ref a)])) t) => cn7 t (by
    refine XS.icmpYes X4.here hx rfl (pc0 := 9) (pc' := 46) rfl (hb hby d18_9) rfl (feq (fun q => absurd ((own_eqn (by omega) (by omega)).mp q) (by omega))).2 (by decide) (by decide) ?_
    show Steps p.tables e below (T4.setTop (mkF m 46 #[.val (.ref a), .val (.int p2), .val (.double dv), .second] [])) _
    refine XS.aloadN X4.here hx rfl (hb hby d18_46) rfl rfl ?_
    show Steps p.tables e below (T4.setTop (mkF m 47 #[.val (.ref a), .val (.int p2), .val (.double dv), .second] [(.ref a)])) _
    exact kt)
  obtain ⟨T9, X9, e9, st9⟩ := getF X4 hx hZ hown (host := "") (Or.inl (hw _ (List.mem_of_getElem? (i := 12) rfl))) Via.refl e4 Fsuccessors (g := (mkF m 47 #[.val (.ref a), .val (.int p2), .val (.double dv), .second] [(.ref a)])) rfl rfl (hb hby d18_47)
  have cn10 := fun (t : State) (kt : Steps p.tables e below (T9.setTop (mkF m 51 #[.val (.ref a), .val (.int p2), .val (.double dv), .second] [(.ref a), (.ref AA2)])) t) => cn8 t (by
    refine st9 _ ?_
    show Steps p.tables e below (T9.setTop (mkF m 50 #[.val (.ref a), .val (.int p2), .val (.double dv), .second] [(.ref AA2)])) _
    refine XS.aloadN X9.here hx rfl (hb hby d18_50) rfl rfl ?_
    show Steps p.tables e below (T9.setTop (mkF m 51 #[.val (.ref a), .val (.int p2), .val (.double dv), .second] [(.ref a), (.ref AA2)])) _
    exact kt)
  obtain ⟨T11, X11, e11, st11⟩ := getF X9 hx hZ hown (host := "") (Or.inl (hw _ (List.mem_of_getElem? (i := 25) rfl))) Via.refl e9 FtransitionCount (g := (mkF m 51 #[.val (.ref a), .val (.int p2), .val (.double dv), .second] [(.ref a), (.ref AA2)])) rfl rfl (hb hby d18_51)
  have cn12 := fun (t : State) (kt : Steps p.tables e below (T11.setTop (mkF m 55 #[.val (.ref a), .val (.int p2), .val (.double dv), .second] [(.int p2), (.int (Nat.toInt32 tc)), (.ref AA2)])) t) => cn10 t (by
    refine st11 _ ?_
    show Steps p.tables e below (T11.setTop (mkF m 54 #[.val (.ref a), .val (.int p2), .val (.double dv), .second] [(.int (Nat.toInt32 tc)), (.ref AA2)])) _
    refine XS.iloadN X11.here hx rfl (hb hby d18_54) rfl ?_
    show Steps p.tables e below (T11.setTop (mkF m 55 #[.val (.ref a), .val (.int p2), .val (.double dv), .second] [(.int p2), (.int (Nat.toInt32 tc)), (.ref AA2)])) _
    exact kt)
  have AFx13 := AF2
  obtain ⟨cl13, Ar13, q13, S13, H13⟩ := AFx13
  have hin13 : ¬ ((Nat.toInt32 tc) < 0 ∨ cl13.slots.size ≤ ((Nat.toInt32 tc)).toNatClampNeg) := AF.inb S13 (own_ix (by omega)) htc
  obtain ⟨T14, h14, X14, e14, W14, st14⟩ := stI X11 hx hZ e11 Ar13 (j := (Nat.toInt32 tc)) hin13 (g := (mkF m 55 #[.val (.ref a), .val (.int p2), .val (.double dv), .second] [(.int p2), (.int (Nat.toInt32 tc)), (.ref AA2)])) rfl rfl (hb hby d18_55)
  have E_a_e14 := E_a.wr W14
  have FfirstTransitions_e14 := FfirstTransitions.other W14 (Or.inl ne_a_AA2)
  have FrowCount_e14 := FrowCount.other W14 (Or.inl ne_a_AA2)
  have Fsuccessors_e14 := Fsuccessors.other W14 (Or.inl ne_a_AA2)
  have Fprobabilities_e14 := Fprobabilities.other W14 (Or.inl ne_a_AA2)
  have FexactProbabilities_e14 := FexactProbabilities.other W14 (Or.inl ne_a_AA2)
  have FtransitionCount_e14 := FtransitionCount.other W14 (Or.inl ne_a_AA2)
  have FsortKeys_e14 := FsortKeys.other W14 (Or.inl ne_a_AA2)
  have AF1_e14 := AF1.other W14 ne_AA1_AA2
  have AF3_e14 := AF3.other W14 (Ne.symm ne_AA2_AA3)
  have AF4_e14 := AF4.other W14 (Ne.symm ne_AA2_AA4)
  have AF14 : AF Z h14 AA2 kA2 .int 16 (own_upd f2 tc (.int p2)) := AF.set Ar13 q13 S13 H13 W14 (own_ix (by omega)) htc
  have N14 := Fr.snoc X14 N0 g_AA2
  have O14 := O0.wr W14 g_AA2
  have K14 : Keep h0 h14 [a, AA2, AA3] := (Keep.refl h0 [a, AA2, AA3]).wr W14 (Or.inl (List.mem_of_getElem? (i := 1) rfl))
  have cn15 := fun (t : State) (kt : Steps p.tables e below (T14.setTop (mkF m 57 #[.val (.ref a), .val (.int p2), .val (.double dv), .second] [(.ref a)])) t) => cn12 t (by
    refine st14 _ ?_
    show Steps p.tables e below (T14.setTop (mkF m 56 #[.val (.ref a), .val (.int p2), .val (.double dv), .second] [])) _
    refine XS.aloadN X14.here hx rfl (hb hby d18_56) rfl rfl ?_
    show Steps p.tables e below (T14.setTop (mkF m 57 #[.val (.ref a), .val (.int p2), .val (.double dv), .second] [(.ref a)])) _
    exact kt)
  obtain ⟨T16, X16, e16, st16⟩ := getF X14 hx hZ hown (host := "") (Or.inl (hw _ (List.mem_of_getElem? (i := 15) rfl))) Via.refl e14 Fprobabilities_e14 (g := (mkF m 57 #[.val (.ref a), .val (.int p2), .val (.double dv), .second] [(.ref a)])) rfl rfl (hb hby d18_57)
  have cn17 := fun (t : State) (kt : Steps p.tables e below (T16.setTop (mkF m 61 #[.val (.ref a), .val (.int p2), .val (.double dv), .second] [(.ref a), (.ref AA3)])) t) => cn15 t (by
    refine st16 _ ?_
    show Steps p.tables e below (T16.setTop (mkF m 60 #[.val (.ref a), .val (.int p2), .val (.double dv), .second] [(.ref AA3)])) _
    refine XS.aloadN X16.here hx rfl (hb hby d18_60) rfl rfl ?_
    show Steps p.tables e below (T16.setTop (mkF m 61 #[.val (.ref a), .val (.int p2), .val (.double dv), .second] [(.ref a), (.ref AA3)])) _
    exact kt)
  obtain ⟨T18, X18, e18, st18⟩ := getF X16 hx hZ hown (host := "") (Or.inl (hw _ (List.mem_of_getElem? (i := 25) rfl))) Via.refl e16 FtransitionCount_e14 (g := (mkF m 61 #[.val (.ref a), .val (.int p2), .val (.double dv), .second] [(.ref a), (.ref AA3)])) rfl rfl (hb hby d18_61)
  have cn19 := fun (t : State) (kt : Steps p.tables e below (T18.setTop (mkF m 65 #[.val (.ref a), .val (.int p2), .val (.double dv), .second] [(.double dv), (.int (Nat.toInt32 tc)), (.ref AA3)])) t) => cn17 t (by
    refine st18 _ ?_
    show Steps p.tables e below (T18.setTop (mkF m 64 #[.val (.ref a), .val (.int p2), .val (.double dv), .second] [(.int (Nat.toInt32 tc)), (.ref AA3)])) _
    refine XS.dloadN X18.here hx rfl (hb hby d18_64) rfl ?_
    show Steps p.tables e below (T18.setTop (mkF m 65 #[.val (.ref a), .val (.int p2), .val (.double dv), .second] [(.double dv), (.int (Nat.toInt32 tc)), (.ref AA3)])) _
    exact kt)
  have AFx20 := AF3_e14
  obtain ⟨cl20, Ar20, q20, S20, H20⟩ := AFx20
  have hin20 : ¬ ((Nat.toInt32 tc) < 0 ∨ cl20.slots.size ≤ ((Nat.toInt32 tc)).toNatClampNeg) := AF.inb S20 (own_ix (by omega)) htc
  obtain ⟨T21, h21, X21, e21, W21, st21⟩ := stD X18 hx hZ e18 Ar20 (j := (Nat.toInt32 tc)) hin20 (g := (mkF m 65 #[.val (.ref a), .val (.int p2), .val (.double dv), .second] [(.double dv), (.int (Nat.toInt32 tc)), (.ref AA3)])) rfl rfl (hb hby d18_65)
  have E_a_e21 := E_a_e14.wr W21
  have FfirstTransitions_e21 := FfirstTransitions_e14.other W21 (Or.inl ne_a_AA3)
  have FrowCount_e21 := FrowCount_e14.other W21 (Or.inl ne_a_AA3)
  have Fsuccessors_e21 := Fsuccessors_e14.other W21 (Or.inl ne_a_AA3)
  have Fprobabilities_e21 := Fprobabilities_e14.other W21 (Or.inl ne_a_AA3)
  have FexactProbabilities_e21 := FexactProbabilities_e14.other W21 (Or.inl ne_a_AA3)
  have FtransitionCount_e21 := FtransitionCount_e14.other W21 (Or.inl ne_a_AA3)
  have FsortKeys_e21 := FsortKeys_e14.other W21 (Or.inl ne_a_AA3)
  have AF1_e21 := AF1_e14.other W21 ne_AA1_AA3
  have AF14_e21 := AF14.other W21 ne_AA2_AA3
  have AF4_e21 := AF4_e14.other W21 (Ne.symm ne_AA3_AA4)
  have AF21 : AF Z h21 AA3 kA3 .double 16 (own_upd f3 tc (.double dv)) := AF.set Ar20 q20 S20 H20 W21 (own_ix (by omega)) htc
  have N21 := Fr.snoc X21 N14 g_AA3
  have O21 := O14.wr W21 g_AA3
  have K21 : Keep h0 h21 [a, AA2, AA3] := K14.wr W21 (Or.inl (List.mem_of_getElem? (i := 2) rfl))
  have cn22 := fun (t : State) (kt : Steps p.tables e below (T21.setTop (mkF m 68 #[.val (.ref a), .val (.int p2), .val (.double dv), .second] [(.ref a), (.ref a)])) t) => cn19 t (by
    refine st21 _ ?_
    show Steps p.tables e below (T21.setTop (mkF m 66 #[.val (.ref a), .val (.int p2), .val (.double dv), .second] [])) _
    refine XS.aloadN X21.here hx rfl (hb hby d18_66) rfl rfl ?_
    show Steps p.tables e below (T21.setTop (mkF m 67 #[.val (.ref a), .val (.int p2), .val (.double dv), .second] [(.ref a)])) _
    refine XS.dup X21.here hx rfl (hb hby d18_67) rfl rfl ?_
    show Steps p.tables e below (T21.setTop (mkF m 68 #[.val (.ref a), .val (.int p2), .val (.double dv), .second] [(.ref a), (.ref a)])) _
    exact kt)
  obtain ⟨T23, X23, e23, st23⟩ := getF X21 hx hZ hown (host := "") (Or.inl (hw _ (List.mem_of_getElem? (i := 25) rfl))) Via.refl e21 FtransitionCount_e21 (g := (mkF m 68 #[.val (.ref a), .val (.int p2), .val (.double dv), .second] [(.ref a), (.ref a)])) rfl rfl (hb hby d18_68)
  have cn24 := fun (t : State) (kt : Steps p.tables e below (T23.setTop (mkF m 73 #[.val (.ref a), .val (.int p2), .val (.double dv), .second] [(.int ((Nat.toInt32 tc) + (1 : Int32))), (.ref a)])) t) => cn22 t (by
    refine st23 _ ?_
    show Steps p.tables e below (T23.setTop (mkF m 71 #[.val (.ref a), .val (.int p2), .val (.double dv), .second] [(.int (Nat.toInt32 tc)), (.ref a)])) _
    refine XS.iconst X23.here hx rfl (hb hby d18_71) ?_
    show Steps p.tables e below (T23.setTop (mkF m 72 #[.val (.ref a), .val (.int p2), .val (.double dv), .second] [(.int (1 : Int32)), (.int (Nat.toInt32 tc)), (.ref a)])) _
    refine XS.iadd X23.here hx rfl (hb hby d18_72) rfl ?_
    show Steps p.tables e below (T23.setTop (mkF m 73 #[.val (.ref a), .val (.int p2), .val (.double dv), .second] [(.int ((Nat.toInt32 tc) + (1 : Int32))), (.ref a)])) _
    exact kt)
  have cn25 : ∀ t, Steps p.tables e below (T23.setTop (mkF m 73 #[.val (.ref a), .val (.int p2), .val (.double dv), .second] [(.int (Nat.toInt32 (tc + 1))), (.ref a)])) t → Steps p.tables e below (s₁.setTop (entryFrame m #[(.ref a), (.int p2), (.double dv)] 4)) t := by have q := cn24; rw [(id (own_inc (by omega)) : ((Nat.toInt32 tc) + (1 : Int32)) = (Nat.toInt32 (tc + 1)))] at q; exact q
  obtain ⟨T26, h26, X26, e26, W26, st26⟩ := putF X23 hx hZ hown (host := "") (Or.inl (hw _ (List.mem_of_getElem? (i := 25) rfl))) Via.refl e23 FtransitionCount_e21 E_a_e21 (Or.inl (hw _ (List.mem_of_getElem? (i := 26) rfl))) (hw _ (List.mem_of_getElem? (i := 1) rfl)) (ty := .int) (by decide) rfl rfl (g := (mkF m 73 #[.val (.ref a), .val (.int p2), .val (.double dv), .second] [(.int (Nat.toInt32 (tc + 1))), (.ref a)])) rfl rfl (hb hby d18_73)
  have E_a_e26 := E_a_e21.wr W26
  have FfirstTransitions_e26 := FfirstTransitions_e21.other W26 (Or.inr (slot_ne (Or.inl (hw _ (List.mem_of_getElem? (i := 11) rfl))) (Or.inl (hw _ (List.mem_of_getElem? (i := 26) rfl))) (by decide) (t := (.array .int)) (t' := .int) (by decide) (by decide)))
  have FrowCount_e26 := FrowCount_e21.other W26 (Or.inr (slot_ne (Or.inl (hw _ (List.mem_of_getElem? (i := 28) rfl))) (Or.inl (hw _ (List.mem_of_getElem? (i := 26) rfl))) (by decide) (t := .int) (t' := .int) (by decide) (by decide)))
  have Fsuccessors_e26 := Fsuccessors_e21.other W26 (Or.inr (slot_ne (Or.inl (hw _ (List.mem_of_getElem? (i := 13) rfl))) (Or.inl (hw _ (List.mem_of_getElem? (i := 26) rfl))) (by decide) (t := (.array .int)) (t' := .int) (by decide) (by decide)))
  have Fprobabilities_e26 := Fprobabilities_e21.other W26 (Or.inr (slot_ne (Or.inl (hw _ (List.mem_of_getElem? (i := 16) rfl))) (Or.inl (hw _ (List.mem_of_getElem? (i := 26) rfl))) (by decide) (t := (.array .double)) (t' := .int) (by decide) (by decide)))
  have FexactProbabilities_e26 := FexactProbabilities_e21.other W26 (Or.inr (slot_ne (Or.inl (hw _ (List.mem_of_getElem? (i := 77) rfl))) (Or.inl (hw _ (List.mem_of_getElem? (i := 26) rfl))) (by decide) (t := (.array (.object "com/example/probver/probver/util/Rational"))) (t' := .int) (by decide) (by decide)))
  have FsortKeys_e26 := FsortKeys_e21.other W26 (Or.inr (slot_ne (Or.inl (hw _ (List.mem_of_getElem? (i := 19) rfl))) (Or.inl (hw _ (List.mem_of_getElem? (i := 26) rfl))) (by decide) (t := (.array .long)) (t' := .int) (by decide) (by decide)))
  have AF1_e26 := AF1_e21.other W26 (Ne.symm ne_a_AA1)
  have AF14_e26 := AF14_e21.other W26 (Ne.symm ne_a_AA2)
  have AF21_e26 := AF21.other W26 (Ne.symm ne_a_AA3)
  have AF4_e26 := AF4_e21.other W26 (Ne.symm ne_a_AA4)
  have N26 := Fr.snoc X26 N21 g_a
  have O26 := O21.wr W26 g_a
  have K26 : Keep h0 h26 [a, AA2, AA3] := K21.wr W26 (Or.inl (List.mem_of_getElem? (i := 0) rfl))
  have FtransitionCount_26 := FtransitionCount_e21.same W26
  have cn27 := fun (t : State) (kt : Steps p.tables e below (T26.setTop (mkF m 76 #[.val (.ref a), .val (.int p2), .val (.double dv), .second] [])) t) => cn25 t (by
    refine st26 _ ?_
    show Steps p.tables e below (T26.setTop (mkF m 76 #[.val (.ref a), .val (.int p2), .val (.double dv), .second] [])) _
    exact kt)
  obtain ⟨frs, hr, hrun, hended, hW, hsame⟩ := X26.leave (v := none) (fun _ => rfl)
  refine ⟨_, _, cn27 _ ?_, hrun, hended, _, _, rfl, ?_, ⟨_, rfl⟩, hW, hsame.mono (by decide) (by decide)⟩
  · exact X26.returnOut hx Bd.returns (hb hby d18_76) hr
  · show QP Z a AA1 AA2 AA3 AA4 kA1 kA2 kA3 kA4 f1 f2 f3 f4 rc tc p2 dv h0 n0 _ T26.heap _
    rw [e26]
    exact ⟨rfl, N26, K26, ⟨E_a_e26, FfirstTransitions_e26, FrowCount_e26, Fsuccessors_e26, Fprobabilities_e26, FexactProbabilities_e26, FtransitionCount_26, FsortKeys_e26, AF1_e26, AF14_e26, AF21_e26, AF4_e26⟩⟩

theorem d16_0 : decode prog_142_method_2_code 0 = .ok (.iload_n 1, 1) := by decide +kernel
theorem d16_1 : decode prog_142_method_2_code 1 = .ok (.invokestatic 24, 3) := by decide +kernel
theorem d16_4 : decode prog_142_method_2_code 4 = .ok (.dload_n 2, 1) := by decide +kernel
theorem d16_5 : decode prog_142_method_2_code 5 = .ok (.dconst 0, 1) := by decide +kernel
theorem d16_6 : decode prog_142_method_2_code 6 = .ok (.dcmp .l, 1) := by decide +kernel
theorem d16_7 : decode prog_142_method_2_code 7 = .ok (.ifCond .le 11, 3) := by decide +kernel
theorem d16_10 : decode prog_142_method_2_code 10 = .ok (.dload_n 2, 1) := by decide +kernel
theorem d16_11 : decode prog_142_method_2_code 11 = .ok (.ldc2_w 30, 3) := by decide +kernel
theorem d16_14 : decode prog_142_method_2_code 14 = .ok (.dcmp .g, 1) := by decide +kernel
theorem d16_15 : decode prog_142_method_2_code 15 = .ok (.ifCond .lt 11, 3) := by decide +kernel
theorem d16_26 : decode prog_142_method_2_code 26 = .ok (.aload_n 0, 1) := by decide +kernel
theorem d16_27 : decode prog_142_method_2_code 27 = .ok (.getfield 40, 3) := by decide +kernel
theorem d16_30 : decode prog_142_method_2_code 30 = .ok (.ifnull 13, 3) := by decide +kernel
theorem d16_43 : decode prog_142_method_2_code 43 = .ok (.aload_n 0, 1) := by decide +kernel
theorem d16_44 : decode prog_142_method_2_code 44 = .ok (.iload_n 1, 1) := by decide +kernel
theorem d16_45 : decode prog_142_method_2_code 45 = .ok (.dload_n 2, 1) := by decide +kernel
theorem d16_46 : decode prog_142_method_2_code 46 = .ok (.invokevirtual 51, 3) := by decide +kernel
theorem d16_49 : decode prog_142_method_2_code 49 = .ok (.return_, 1) := by decide +kernel
theorem pd_0 : parseMethodDescriptor "(I)V" = some ⟨[.int], none⟩ := by decide +kernel
theorem pd_1 : parseMethodDescriptor "(ID)V" = some ⟨[.int, .double], none⟩ := by decide +kernel
theorem ef_16 (m : MethodId) (x0 : Addr) (x1 : Int32) (x2 : UInt64) : entryFrame m #[(.ref x0), (.int x1), (.double x2)] 4 = mkF m 0 #[.val (.ref x0), .val (.int x1), .val (.double x2), .second] [] := by first | (simp [entryFrame, mkF, argsToLocals, Value.category]; done) | rfl
set_option maxRecDepth 65536 in
set_option maxHeartbeats 40000000 in
theorem rm16 (l : Launch) (Z : State) (a0 : Array Value) (hw : ∀ d ∈ tables_1, d.before a0 Z = true) (ws : List Jvm.Cond) (a AA1 AA2 AA3 AA4 : Addr) (kA1 kA2 kA3 kA4 : ClassId) (f1 f2 f3 f4 : Nat → Value) (rc tc : Nat) (p2 : Int32) (dv : UInt64) (h0 : Heap) (n0 : Nat) (O0 : Old Z n0 h0) (TNh : TN n0 a AA1 AA2 AA3 AA4) (B : TR Z h0 a AA1 AA2 AA3 AA4 kA1 kA2 kA3 kA4 f1 f2 f3 f4 rc tc) (htc : tc < 16) (hs : ¬ p2 < (0 : Int32)) (hd1 : cmpValue (FP.dcmp dv 0) .l = 1) (hd2 : cmpValue (FP.dcmp dv 9218868437227405312) .g = -1) :
    MetFree l (⟨"com/example/probver/probver/model/TransitionRows", "add", "(ID)V"⟩ : MethodName) (head1 (Jvm.Cond.code (⟨"com/example/probver/probver/model/TransitionRows", "add", "(ID)V"⟩ : MethodName) prog_142_method_2_code 4 none :: ws) ({ frames := 1, cells := 0, slots := 0, locals := 15 } : Room)) (fun aQ U => aQ = #[(.ref a), (.int p2), (.double dv)] ∧ Z.Warmed39 U.vm ∧ U.heap = h0) (fun _ _ _ _ _ => True) (fun _ U o U' => ∃ v L, o = .returned v ∧ QP Z a AA1 AA2 AA3 AA4 kA1 kA2 kA3 kA4 f1 f2 f3 f4 rc tc p2 dv h0 n0 v U'.heap L ∧ FrameEnd U o U' L ({ frames := 1, cells := 0, slots := 0, locals := 15 } : Room).cells ({ frames := 1, cells := 0, slots := 0, locals := 15 } : Room).slots) := by
  refine MetFree.of_bodySF (plainFor_of_name pn_com_example_probver_probver_model_TransitionRows) hisR ?_
  intro p e s m args below meth kode s₁ Bd hml0 hP hK
  obtain ⟨rfl, hZ, hh⟩ := hP
  have hx := Bd.exec
  have hby := Bd.bytes
  have hml : kode.maxLocals = 4 := hml0
  have hown : s.vm.findClass "com/example/probver/probver/model/TransitionRows" = some m.cls := findClass_of_methodNamed Bd.named
  have hnm := (name_of_methodNamed Bd.named Bd.method).1
  have X0 : Stand p l e ({ frames := 1, cells := 0, slots := 0, locals := 15 } : Room) s m #[(.ref a), (.int p2), (.double dv)] below meth kode s₁ [] 0 0 := Stand.of_body Bd
  have e0 : s₁.heap = h0 := by rw [← hh, Bd.state]; rfl
  have N0 := Fr.nil n0
  have pre0 : ∀ t, Steps p.tables e below (s₁.setTop (mkF m 0 #[.val (.ref a), .val (.int p2), .val (.double dv), .second] [])) t → Steps p.tables e below (s₁.setTop (entryFrame m #[(.ref a), (.int p2), (.double dv)] 4)) t := fun t k => castTop (ef_16 m a p2 dv) k
  have TNx := TNh
  have Bx := B
  obtain ⟨⟨g_a, g_AA1, g_AA2, g_AA3, g_AA4⟩, ne_a_AA1, ne_a_AA2, ne_a_AA3, ne_a_AA4, ne_AA1_AA2, ne_AA1_AA3, ne_AA1_AA4, ne_AA2_AA3, ne_AA2_AA4, ne_AA3_AA4⟩ := TNx
  obtain ⟨E_a, FfirstTransitions, FrowCount, Fsuccessors, Fprobabilities, FexactProbabilities, FtransitionCount, FsortKeys, AF1, AF2, AF3, AF4⟩ := Bx
  have cn1 := fun (t : State) (kt : Steps p.tables e below (s₁.setTop (mkF m 1 #[.val (.ref a), .val (.int p2), .val (.double dv), .second] [(.int p2)])) t) => pre0 t (by
    refine XS.iloadN X0.here hx rfl (hb hby d16_0) rfl ?_
    show Steps p.tables e below (s₁.setTop (mkF m 1 #[.val (.ref a), .val (.int p2), .val (.double dv), .second] [(.int p2)])) _
    exact kt)
  obtain ⟨_, _, ⟨T2, L2, k2, n2⟩, -, X2, ⟨Lc2, hQ2, l2, y2, z2⟩, st2⟩ := Jvm.LawKit.callS X0 hx (y := (⟨"com/example/probver/probver/model/TransitionRows", "checkSuccessor", "(I)V"⟩ : MethodName)) hown (mvT hZ (hw _ (List.mem_of_getElem? (i := 84) rfl))) (mvT hZ (hw _ (List.mem_of_getElem? (i := 85) rfl))) (mvT hZ (hw _ (List.mem_of_getElem? (i := 2) rfl))) (mvT hZ (hw _ (List.mem_of_getElem? (i := 86) rfl))) (by decide) (backOf (W := 0) (rm17 l Z a0 hw [] p2 h0 n0 O0 hs) hZ (hw _ (List.mem_of_getElem? (i := 86) rfl)) (hw _ (List.mem_of_getElem? (i := 2) rfl)) (by decide) (by decide)) (g := (mkF m 1 #[.val (.ref a), .val (.int p2), .val (.double dv), .second] [(.int p2)])) rfl (by rw [hml]; rfl) (argsL := [(.int p2)]) (rest := []) (lenOf pd_0 rfl) rfl (by show 2 * 0 + _ ≤ _; exact Nat.le_of_eq rfl) (hb hby d16_1) (fun _ _ => ⟨rfl, e0, (by decide : 0 + 0 ≤ _), (by decide : 0 + 0 ≤ _)⟩)
  dsimp only [Pt.U, Pt.locs, Pt.cells, Pt.slots] at X2 l2 y2 z2 st2 hQ2
  subst l2 y2 z2
  obtain ⟨rfl, Nq2, eh2⟩ := hQ2
  have N2 := Fr.app N0 Nq2
  have cn3 := fun (t : State) (kt : Steps p.tables e below (T2.setTop (mkF m 7 #[.val (.ref a), .val (.int p2), .val (.double dv), .second] [(.int (1 : Int32))])) t) => cn1 t (by
    refine st2 _ ?_
    show Steps p.tables e below (T2.setTop (mkF m 4 #[.val (.ref a), .val (.int p2), .val (.double dv), .second] [])) _
    refine XS.dloadN X2.here hx rfl (hb hby d16_4) rfl ?_
    show Steps p.tables e below (T2.setTop (mkF m 5 #[.val (.ref a), .val (.int p2), .val (.double dv), .second] [(.double dv)])) _
    refine XS.dconst0 X2.here hx rfl (hb hby d16_5) (v := (0 : UInt64)) rfl ?_
    show Steps p.tables e below (T2.setTop (mkF m 6 #[.val (.ref a), .val (.int p2), .val (.double dv), .second] [(.double (0 : UInt64)), (.double dv)])) _
    refine XS.dcmpS X2.here hx rfl (hb hby d16_6) rfl (v := (1 : Int32)) hd1 ?_
    show Steps p.tables e below (T2.setTop (mkF m 7 #[.val (.ref a), .val (.int p2), .val (.double dv), .second] [(.int (1 : Int32))])) _
    exact kt)
  have cn4 := fun (t : State) (kt : Steps p.tables e below (T2.setTop (mkF m 15 #[.val (.ref a), .val (.int p2), .val (.double dv), .second] [(.int (-1 : Int32))])) t) => cn3 t (by
    refine XS.ifNo X2.here hx rfl (hb hby d16_7) rfl ((if0 _ _).trans (tlt (by decide : (0 : Int32) < (1 : Int32))).2.2.2) ?_
    show Steps p.tables e below (T2.setTop (mkF m 10 #[.val (.ref a), .val (.int p2), .val (.double dv), .second] [])) _
    refine XS.dloadN X2.here hx rfl (hb hby d16_10) rfl ?_
    show Steps p.tables e below (T2.setTop (mkF m 11 #[.val (.ref a), .val (.int p2), .val (.double dv), .second] [(.double dv)])) _
    refine X2.ldc2DoubleC hx hown (mvT hZ (hw _ (List.mem_of_getElem? (i := 87) rfl))) (g := (mkF m 11 #[.val (.ref a), .val (.int p2), .val (.double dv), .second] [(.double dv)])) rfl (hb hby d16_11) _ ?_
    show Steps p.tables e below (T2.setTop (mkF m 14 #[.val (.ref a), .val (.int p2), .val (.double dv), .second] [(.double (9218868437227405312 : UInt64)), (.double dv)])) _
    refine XS.dcmpS X2.here hx rfl (hb hby d16_14) rfl (v := (-1 : Int32)) hd2 ?_
    show Steps p.tables e below (T2.setTop (mkF m 15 #[.val (.ref a), .val (.int p2), .val (.double dv), .second] [(.int (-1 : Int32))])) _
    exact kt)
  have cn5 := fun (t : State) (kt : Steps p.tables e below (T2.setTop (mkF m 27 #[.val (.ref a), .val (.int p2), .val (.double dv), .second] [(.ref a)])) t) => cn4 t (by
    refine XS.ifYes X2.here hx rfl (pc0 := 15) (pc' := 26) rfl (hb hby d16_15) rfl ((if0 _ _).trans (tlt (by decide : (-1 : Int32) < (0 : Int32))).1) (by decide) (by decide) ?_
    show Steps p.tables e below (T2.setTop (mkF m 26 #[.val (.ref a), .val (.int p2), .val (.double dv), .second] [])) _
    refine XS.aloadN X2.here hx rfl (hb hby d16_26) rfl rfl ?_
    show Steps p.tables e below (T2.setTop (mkF m 27 #[.val (.ref a), .val (.int p2), .val (.double dv), .second] [(.ref a)])) _
    exact kt)
  obtain ⟨T6, X6, e6, st6⟩ := getF X2 hx hZ hown (host := "") (Or.inl (hw _ (List.mem_of_getElem? (i := 76) rfl))) Via.refl eh2 FexactProbabilities (g := (mkF m 27 #[.val (.ref a), .val (.int p2), .val (.double dv), .second] [(.ref a)])) rfl rfl (hb hby d16_27)
  have cn7 := fun (t : State) (kt : Steps p.tables e below (T6.setTop (mkF m 46 #[.val (.ref a), .val (.int p2), .val (.double dv), .second] [(.double dv), (.int p2), (.ref a)])) t) => cn5 t (by
    refine st6 _ ?_
    show Steps p.tables e below (T6.setTop (mkF m 30 #[.val (.ref a), .val (.int p2), .val (.double dv), .second] [.null])) _
    refine XS.ifnullYes X6.here hx rfl (pc0 := 30) (pc' := 43) rfl (hb hby d16_30) rfl (by decide) (by decide) ?_
    show Steps p.tables e below (T6.setTop (mkF m 43 #[.val (.ref a), .val (.int p2), .val (.double dv), .second] [])) _
    refine XS.aloadN X6.here hx rfl (hb hby d16_43) rfl rfl ?_
    show Steps p.tables e below (T6.setTop (mkF m 44 #[.val (.ref a), .val (.int p2), .val (.double dv), .second] [(.ref a)])) _
    refine XS.iloadN X6.here hx rfl (hb hby d16_44) rfl ?_
    show Steps p.tables e below (T6.setTop (mkF m 45 #[.val (.ref a), .val (.int p2), .val (.double dv), .second] [(.int p2), (.ref a)])) _
    refine XS.dloadN X6.here hx rfl (hb hby d16_45) rfl ?_
    show Steps p.tables e below (T6.setTop (mkF m 46 #[.val (.ref a), .val (.int p2), .val (.double dv), .second] [(.double dv), (.int p2), (.ref a)])) _
    exact kt)
  obtain ⟨cq8, q8, q8'⟩ := E_a.cell
  obtain ⟨_, _, ⟨T8, L8, k8, n8⟩, -, X8, ⟨Lc8, hQ8, l8, y8, z8⟩, st8⟩ := X6.privateBack hx (y := (⟨"com/example/probver/probver/model/TransitionRows", "append", "(ID)V"⟩ : MethodName)) hown (mvT hZ (hw _ (List.mem_of_getElem? (i := 88) rfl))) (mvT hZ (hw _ (List.mem_of_getElem? (i := 89) rfl))) (own_selp (y := (⟨"com/example/probver/probver/model/TransitionRows", "append", "(ID)V"⟩ : MethodName)) hZ (hw _ (List.mem_of_getElem? (i := 1) rfl)) (hw _ (List.mem_of_getElem? (i := 90) rfl)) (hw _ (List.mem_of_getElem? (i := 89) rfl)) (by decide)) (Cond.privateMethod_at (mvP hZ (hw _ (List.mem_of_getElem? (i := 90) rfl)) (args := #[]))) (mvT hZ (hw _ (List.mem_of_getElem? (i := 91) rfl))) (by decide) (backOf (W := 0) (rm18 l Z a0 hw [] a AA1 AA2 AA3 AA4 kA1 kA2 kA3 kA4 f1 f2 f3 f4 rc tc p2 dv h0 n0 O0 TNh ⟨E_a, FfirstTransitions, FrowCount, Fsuccessors, Fprobabilities, FexactProbabilities, FtransitionCount, FsortKeys, AF1, AF2, AF3, AF4⟩ htc) hZ (hw _ (List.mem_of_getElem? (i := 91) rfl)) (hw _ (List.mem_of_getElem? (i := 2) rfl)) (by decide) (by decide)) (g := (mkF m 46 #[.val (.ref a), .val (.int p2), .val (.double dv), .second] [(.double dv), (.int p2), (.ref a)])) rfl (by rw [hml]; rfl) (Steps.refl _) (a := a) (by rw [e6]; exact q8) q8' (argsL := [(.int p2), (.double dv)]) (rest := []) (lenOf pd_1 rfl) rfl (by show 2 * 0 + _ ≤ _; exact Nat.le_of_eq rfl) (hb hby d16_46) (fun _ _ => ⟨rfl, e6, (by decide : 0 + 0 ≤ _), (by decide : 0 + 0 ≤ _)⟩)
  dsimp only [Pt.U, Pt.locs, Pt.cells, Pt.slots] at X8 l8 y8 z8 st8 hQ8
  subst l8 y8 z8
  obtain ⟨rfl, Nq8, Kq8, Bq8⟩ := hQ8
  have N8 := Fr.app N2 Nq8
  obtain ⟨E_a_8, FfirstTransitions_8, FrowCount_8, Fsuccessors_8, Fprobabilities_8, FexactProbabilities_8, FtransitionCount_8, FsortKeys_8, AF1_8, AF2_8, AF3_8, AF4_8⟩ := Bq8
  have K8 := Kq8
  have E_a_e8 := E_a.keep K8
  have AF1_e8 := AF1.keep K8 (ninS (Ne.symm ne_a_AA1) (ninS ne_AA1_AA2 (ninS ne_AA1_AA3 nin0)))
  have AF4_e8 := AF4.keep K8 (ninS (Ne.symm ne_a_AA4) (ninS (Ne.symm ne_AA2_AA4) (ninS (Ne.symm ne_AA3_AA4) nin0)))
  have O8 := O0.keep K8 (allS g_a (allS g_AA2 (allS g_AA3 all0)))
  have KK8 : Keep h0 T8.heap [a, AA2, AA3] := (Keep.refl h0 [a, AA2, AA3]).trans K8 (allS (Or.inl (List.mem_of_getElem? (i := 0) rfl)) (allS (Or.inl (List.mem_of_getElem? (i := 1) rfl)) (allS (Or.inl (List.mem_of_getElem? (i := 2) rfl)) all0)))
  have cn9 := fun (t : State) (kt : Steps p.tables e below (T8.setTop (mkF m 49 #[.val (.ref a), .val (.int p2), .val (.double dv), .second] [])) t) => cn7 t (by
    refine st8.trans ?_
    show Steps p.tables e below (T8.setTop (mkF m 49 #[.val (.ref a), .val (.int p2), .val (.double dv), .second] [])) _
    exact kt)
  obtain ⟨frs, hr, hrun, hended, hW, hsame⟩ := X8.leave (v := none) (fun _ => rfl)
  refine ⟨_, _, cn9 _ ?_, hrun, hended, _, _, rfl, ?_, ⟨_, rfl⟩, hW, hsame.mono (by decide) (by decide)⟩
  · exact X8.returnOut hx Bd.returns (hb hby d16_49) hr
  · show QP Z a AA1 AA2 AA3 AA4 kA1 kA2 kA3 kA4 f1 f2 f3 f4 rc tc p2 dv h0 n0 _ T8.heap _
    exact ⟨rfl, N8, KK8, ⟨E_a_8, FfirstTransitions_8, FrowCount_8, Fsuccessors_8, Fprobabilities_8, FexactProbabilities_8, FtransitionCount_8, FsortKeys_8, AF1_8, AF2_8, AF3_8, AF4_8⟩⟩

def QS (Z : State) (AA4 : Addr) (kA4 : ClassId) (c : Nat) (h0 : Heap) (n0 : Nat) (v : Option Value) (h : Heap) (L : List Loc) : Prop := ∃ g4 : Nat → Value, v = none ∧ Fr n0 L ∧ Keep h0 h [AA4] ∧ AF Z h AA4 kA4 .long 16 g4 ∧ TP4 c c g4
theorem d11_0 : decode jdk_2529_method_15_code 0 = .ok (.iload_n 1, 1) := by decide +kernel
theorem d11_1 : decode jdk_2529_method_15_code 1 = .ok (.istore 4, 2) := by decide +kernel
theorem d11_3 : decode jdk_2529_method_15_code 3 = .ok (.iinc 4 1, 3) := by decide +kernel
theorem d11_6 : decode jdk_2529_method_15_code 6 = .ok (.iload 4, 2) := by decide +kernel
theorem d11_8 : decode jdk_2529_method_15_code 8 = .ok (.iload_n 2, 1) := by decide +kernel
theorem d11_9 : decode jdk_2529_method_15_code 9 = .ok (.if_icmp .ge 60, 3) := by decide +kernel
theorem d11_12 : decode jdk_2529_method_15_code 12 = .ok (.aload_n 0, 1) := by decide +kernel
theorem d11_13 : decode jdk_2529_method_15_code 13 = .ok (.iload 4, 2) := by decide +kernel
theorem d11_15 : decode jdk_2529_method_15_code 15 = .ok (.dup, 1) := by decide +kernel
theorem d11_16 : decode jdk_2529_method_15_code 16 = .ok (.istore_n 3, 1) := by decide +kernel
theorem d11_17 : decode jdk_2529_method_15_code 17 = .ok (.laload, 1) := by decide +kernel
theorem d11_18 : decode jdk_2529_method_15_code 18 = .ok (.lstore 5, 2) := by decide +kernel
theorem d11_20 : decode jdk_2529_method_15_code 20 = .ok (.lload 5, 2) := by decide +kernel
theorem d11_22 : decode jdk_2529_method_15_code 22 = .ok (.aload_n 0, 1) := by decide +kernel
theorem d11_23 : decode jdk_2529_method_15_code 23 = .ok (.iload_n 3, 1) := by decide +kernel
theorem d11_24 : decode jdk_2529_method_15_code 24 = .ok (.iconst 1, 1) := by decide +kernel
theorem d11_25 : decode jdk_2529_method_15_code 25 = .ok (.isub, 1) := by decide +kernel
theorem d11_26 : decode jdk_2529_method_15_code 26 = .ok (.laload, 1) := by decide +kernel
theorem d11_27 : decode jdk_2529_method_15_code 27 = .ok (.lcmp, 1) := by decide +kernel
theorem d11_28 : decode jdk_2529_method_15_code 28 = .ok (.ifCond .ge 38, 3) := by decide +kernel
theorem d11_31 : decode jdk_2529_method_15_code 31 = .ok (.iinc 3 (-1), 3) := by decide +kernel
theorem d11_34 : decode jdk_2529_method_15_code 34 = .ok (.iload_n 3, 1) := by decide +kernel
theorem d11_35 : decode jdk_2529_method_15_code 35 = .ok (.iload_n 1, 1) := by decide +kernel
theorem d11_36 : decode jdk_2529_method_15_code 36 = .ok (.if_icmp .lt 23, 3) := by decide +kernel
theorem d11_39 : decode jdk_2529_method_15_code 39 = .ok (.lload 5, 2) := by decide +kernel
theorem d11_41 : decode jdk_2529_method_15_code 41 = .ok (.aload_n 0, 1) := by decide +kernel
theorem d11_42 : decode jdk_2529_method_15_code 42 = .ok (.iload_n 3, 1) := by decide +kernel
theorem d11_43 : decode jdk_2529_method_15_code 43 = .ok (.laload, 1) := by decide +kernel
theorem d11_44 : decode jdk_2529_method_15_code 44 = .ok (.lcmp, 1) := by decide +kernel
theorem d11_45 : decode jdk_2529_method_15_code 45 = .ok (.ifCond .ge 14, 3) := by decide +kernel
theorem d11_48 : decode jdk_2529_method_15_code 48 = .ok (.aload_n 0, 1) := by decide +kernel
theorem d11_49 : decode jdk_2529_method_15_code 49 = .ok (.iload_n 3, 1) := by decide +kernel
theorem d11_50 : decode jdk_2529_method_15_code 50 = .ok (.iconst 1, 1) := by decide +kernel
theorem d11_51 : decode jdk_2529_method_15_code 51 = .ok (.iadd, 1) := by decide +kernel
theorem d11_52 : decode jdk_2529_method_15_code 52 = .ok (.aload_n 0, 1) := by decide +kernel
theorem d11_53 : decode jdk_2529_method_15_code 53 = .ok (.iload_n 3, 1) := by decide +kernel
theorem d11_54 : decode jdk_2529_method_15_code 54 = .ok (.laload, 1) := by decide +kernel
theorem d11_55 : decode jdk_2529_method_15_code 55 = .ok (.lastore, 1) := by decide +kernel
theorem d11_56 : decode jdk_2529_method_15_code 56 = .ok (.goto (-25), 3) := by decide +kernel
theorem d11_59 : decode jdk_2529_method_15_code 59 = .ok (.aload_n 0, 1) := by decide +kernel
theorem d11_60 : decode jdk_2529_method_15_code 60 = .ok (.iload_n 3, 1) := by decide +kernel
theorem d11_61 : decode jdk_2529_method_15_code 61 = .ok (.iconst 1, 1) := by decide +kernel
theorem d11_62 : decode jdk_2529_method_15_code 62 = .ok (.iadd, 1) := by decide +kernel
theorem d11_63 : decode jdk_2529_method_15_code 63 = .ok (.lload 5, 2) := by decide +kernel
theorem d11_65 : decode jdk_2529_method_15_code 65 = .ok (.lastore, 1) := by decide +kernel
theorem d11_66 : decode jdk_2529_method_15_code 66 = .ok (.goto (-63), 3) := by decide +kernel
theorem d11_69 : decode jdk_2529_method_15_code 69 = .ok (.return_, 1) := by decide +kernel
theorem pn_java_util_DualPivotQuicksort : plainName "java/util/DualPivotQuicksort" = true := by first | (simp [plainName, overriddenIn]; done) | decide +kernel
theorem ef_11 (m : MethodId) (x0 : Addr) (x1 : Int32) (x2 : Int32) : entryFrame m #[(.ref x0), (.int x1), (.int x2)] 7 = mkF m 0 #[.val (.ref x0), .val (.int x1), .val (.int x2), .unset, .unset, .unset, .unset] [] := by first | (simp [entryFrame, mkF, argsToLocals, Value.category]; done) | rfl
set_option maxRecDepth 65536 in
set_option maxHeartbeats 40000000 in
theorem rm11 (l : Launch) (Z : State) (a0 : Array Value) (hw : ∀ d ∈ tables_1, d.before a0 Z = true) (ws : List Jvm.Cond) (AA4 : Addr) (kA4 : ClassId) (c : Nat) (f4 : Nat → Value) (h0 : Heap) (n0 : Nat) (O0 : Old Z n0 h0) (g_AA4 : n0 ≤ AA4) (hc : c ≤ 4) (AF4 : AF Z h0 AA4 kA4 .long 16 f4) (H4 : TP4 c c f4) :
    MetFree l (⟨"java/util/DualPivotQuicksort", "insertionSort", "([JII)V"⟩ : MethodName) (head1 (Jvm.Cond.code (⟨"java/util/DualPivotQuicksort", "insertionSort", "([JII)V"⟩ : MethodName) jdk_2529_method_15_code 7 none :: ws) ({ frames := 0, cells := 0, slots := 0, locals := 0 } : Room)) (fun aQ U => aQ = #[(.ref AA4), (.int (0 : Int32)), (.int (Nat.toInt32 c))] ∧ Z.Warmed39 U.vm ∧ U.heap = h0) (fun _ _ _ _ _ => True) (fun _ U o U' => ∃ v L, o = .returned v ∧ QS Z AA4 kA4 c h0 n0 v U'.heap L ∧ FrameEnd U o U' L ({ frames := 0, cells := 0, slots := 0, locals := 0 } : Room).cells ({ frames := 0, cells := 0, slots := 0, locals := 0 } : Room).slots) := by
  refine MetFree.of_bodySF (plainFor_of_name pn_java_util_DualPivotQuicksort) hisR ?_
  intro p e s m args below meth kode s₁ Bd hml0 hP hK
  obtain ⟨rfl, hZ, hh⟩ := hP
  have hx := Bd.exec
  have hby := Bd.bytes
  have hml : kode.maxLocals = 7 := hml0
  have hown : s.vm.findClass "java/util/DualPivotQuicksort" = some m.cls := findClass_of_methodNamed Bd.named
  have hnm := (name_of_methodNamed Bd.named Bd.method).1
  have X0 : Stand p l e ({ frames := 0, cells := 0, slots := 0, locals := 0 } : Room) s m #[(.ref AA4), (.int (0 : Int32)), (.int (Nat.toInt32 c))] below meth kode s₁ [] 0 0 := Stand.of_body Bd
  have e0 : s₁.heap = h0 := by rw [← hh, Bd.state]; rfl
  have N0 := Fr.nil n0
  have pre0 : ∀ t, Steps p.tables e below (s₁.setTop (mkF m 0 #[.val (.ref AA4), .val (.int (0 : Int32)), .val (.int (Nat.toInt32 c)), .unset, .unset, .unset, .unset] [])) t → Steps p.tables e below (s₁.setTop (entryFrame m #[(.ref AA4), (.int (0 : Int32)), (.int (Nat.toInt32 c))] 7)) t := fun t k => castTop (ef_11 m AA4 (0 : Int32) (Nat.toInt32 c)) k
  have cn1 := fun (t : State) (kt : Steps p.tables e below (s₁.setTop (mkF m 3 #[.val (.ref AA4), .val (.int (0 : Int32)), .val (.int (Nat.toInt32 c)), .unset, .val (.int (0 : Int32)), .unset, .unset] [])) t) => pre0 t (by
    refine XS.iloadN X0.here hx rfl (hb hby d11_0) rfl ?_
    show Steps p.tables e below (s₁.setTop (mkF m 1 #[.val (.ref AA4), .val (.int (0 : Int32)), .val (.int (Nat.toInt32 c)), .unset, .unset, .unset, .unset] [(.int (0 : Int32))])) _
    refine XS.istore X0.here hx rfl (hb hby d11_1) rfl (l' := #[.val (.ref AA4), .val (.int (0 : Int32)), .val (.int (Nat.toInt32 c)), .unset, .val (.int (0 : Int32)), .unset, .unset]) rfl ?_
    show Steps p.tables e below (s₁.setTop (mkF m 3 #[.val (.ref AA4), .val (.int (0 : Int32)), .val (.int (Nat.toInt32 c)), .unset, .val (.int (0 : Int32)), .unset, .unset] [])) _
    exact kt)
  refine own_loop (A := fun kk => ∃ (TJ : State) (hJ : Heap) (lJ : List Loc) (k : Nat) (g : Nat → Value) (s3 : Slot) (s5 : Slot) (s6 : Slot), Stand p l e ({ frames := 0, cells := 0, slots := 0, locals := 0 } : Room) s m #[(.ref AA4), (.int (0 : Int32)), (.int (Nat.toInt32 c))] below meth kode TJ lJ 0 0 ∧ TJ.heap = hJ ∧ Fr n0 lJ ∧ Old Z n0 hJ ∧ Keep h0 hJ [AA4] ∧ (k + 1 + kk = c ∨ (c = 0 ∧ k = 0 ∧ kk = 0)) ∧ (One s3) ∧ ((s5 = .unset ∧ s6 = .unset) ∨ (∃ v5 : Int64, s5 = .val (.long v5) ∧ s6 = .second)) ∧ (AF Z hJ AA4 kA4 .long 16 g) ∧ (TP4 c c g) ∧ ∀ t, Steps p.tables e below (TJ.setTop (mkF m 3 #[.val (.ref AA4), .val (.int (0 : Int32)), .val (.int (Nat.toInt32 c)), s3, .val (.int (Nat.toInt32 k)), s5, s6] [])) t → Steps p.tables e below (s₁.setTop (entryFrame m #[(.ref AA4), (.int (0 : Int32)), (.int (Nat.toInt32 c))] 7)) t) ?_ ?_ (c - 1) ?_
  · intro kk2 IH2
    rintro ⟨TJ3, hJ3, lJ3, k, g, s3, s5, s6, XJ3, eJ3, NJ3, OJ3, KJ3, hik, ho3, h56, Ag, Hg, kJ_3⟩
    have hkc : k + 1 < c := by omega
    obtain ⟨ai, hai, hPai⟩ := Hg (k + 1) hkc
    obtain ⟨aj, haj, hPaj⟩ := Hg k (by omega)
    have cn4 := fun (t : State) (kt : Steps p.tables e below (TJ3.setTop (mkF m 6 #[.val (.ref AA4), .val (.int (0 : Int32)), .val (.int (Nat.toInt32 c)), s3, .val (.int ((Nat.toInt32 k) + (1 : Int32))), s5, s6] [])) t) => kJ_3 t (by
      refine XS.iinc XJ3.here hx rfl (hb hby d11_3) rfl (l' := #[.val (.ref AA4), .val (.int (0 : Int32)), .val (.int (Nat.toInt32 c)), s3, .val (.int ((Nat.toInt32 k) + (1 : Int32))), s5, s6]) rfl ?_
      show Steps p.tables e below (TJ3.setTop (mkF m 6 #[.val (.ref AA4), .val (.int (0 : Int32)), .val (.int (Nat.toInt32 c)), s3, .val (.int ((Nat.toInt32 k) + (1 : Int32))), s5, s6] [])) _
      exact kt)
    have cn5 : ∀ t, Steps p.tables e below (TJ3.setTop (mkF m 6 #[.val (.ref AA4), .val (.int (0 : Int32)), .val (.int (Nat.toInt32 c)), s3, .val (.int (Nat.toInt32 (k + 1))), s5, s6] [])) t → Steps p.tables e below (s₁.setTop (entryFrame m #[(.ref AA4), (.int (0 : Int32)), (.int (Nat.toInt32 c))] 7)) t := by have q := cn4; rw [(id (own_inc (by omega)) : ((Nat.toInt32 k) + (1 : Int32)) = (Nat.toInt32 (k + 1)))] at q; exact q
    have cn6 := fun (t : State) (kt : Steps p.tables e below (TJ3.setTop (mkF m 9 #[.val (.ref AA4), .val (.int (0 : Int32)), .val (.int (Nat.toInt32 c)), s3, .val (.int (Nat.toInt32 (k + 1))), s5, s6] [(.int (Nat.toInt32 c)), (.int (Nat.toInt32 (k + 1)))])) t) => cn5 t (by
      refine XS.iload XJ3.here hx rfl (hb hby d11_6) rfl ?_
      show Steps p.tables e below (TJ3.setTop (mkF m 8 #[.val (.ref AA4), .val (.int (0 : Int32)), .val (.int (Nat.toInt32 c)), s3, .val (.int (Nat.toInt32 (k + 1))), s5, s6] [(.int (Nat.toInt32 (k + 1)))])) _
      refine XS.iloadN XJ3.here hx rfl (hb hby d11_8) rfl ?_
      show Steps p.tables e below (TJ3.setTop (mkF m 9 #[.val (.ref AA4), .val (.int (0 : Int32)), .val (.int (Nat.toInt32 c)), s3, .val (.int (Nat.toInt32 (k + 1))), s5, s6] [(.int (Nat.toInt32 c)), (.int (Nat.toInt32 (k + 1)))])) _
      exact kt)
    have cn7 := fun (t : State) (kt : Steps p.tables e below (TJ3.setTop (mkF m 17 #[.val (.ref AA4), .val (.int (0 : Int32)), .val (.int (Nat.toInt32 c)), .val (.int (Nat.toInt32 (k + 1))), .val (.int (Nat.toInt32 (k + 1))), s5, s6] [(.int (Nat.toInt32 (k + 1))), (.ref AA4)])) t) => cn6 t (by
      refine XS.icmpNo XJ3.here hx rfl (hb hby d11_9) rfl (tlt ((own_lt (by omega) (by omega)).mpr hkc)).2.1 ?_
      show Steps p.tables e below (TJ3.setTop (mkF m 12 #[.val (.ref AA4), .val (.int (0 : Int32)), .val (.int (Nat.toInt32 c)), s3, .val (.int (Nat.toInt32 (k + 1))), s5, s6] [])) _
      refine XS.aloadN XJ3.here hx rfl (hb hby d11_12) rfl rfl ?_
      show Steps p.tables e below (TJ3.setTop (mkF m 13 #[.val (.ref AA4), .val (.int (0 : Int32)), .val (.int (Nat.toInt32 c)), s3, .val (.int (Nat.toInt32 (k + 1))), s5, s6] [(.ref AA4)])) _
      refine XS.iload XJ3.here hx rfl (hb hby d11_13) rfl ?_
      show Steps p.tables e below (TJ3.setTop (mkF m 15 #[.val (.ref AA4), .val (.int (0 : Int32)), .val (.int (Nat.toInt32 c)), s3, .val (.int (Nat.toInt32 (k + 1))), s5, s6] [(.int (Nat.toInt32 (k + 1))), (.ref AA4)])) _
      refine XS.dup XJ3.here hx rfl (hb hby d11_15) rfl rfl ?_
      show Steps p.tables e below (TJ3.setTop (mkF m 16 #[.val (.ref AA4), .val (.int (0 : Int32)), .val (.int (Nat.toInt32 c)), s3, .val (.int (Nat.toInt32 (k + 1))), s5, s6] [(.int (Nat.toInt32 (k + 1))), (.int (Nat.toInt32 (k + 1))), (.ref AA4)])) _
      refine XS.istoreNS XJ3.here hx rfl (hb hby d11_16) rfl rfl ho3 ?_
      show Steps p.tables e below (TJ3.setTop (mkF m 17 #[.val (.ref AA4), .val (.int (0 : Int32)), .val (.int (Nat.toInt32 c)), .val (.int (Nat.toInt32 (k + 1))), .val (.int (Nat.toInt32 (k + 1))), s5, s6] [(.int (Nat.toInt32 (k + 1))), (.ref AA4)])) _
      exact kt)
    have AFx8 := Ag
    obtain ⟨cl8, Ar8, q8, S8, H8⟩ := AFx8
    have hin8 : ¬ ((Nat.toInt32 (k + 1)) < 0 ∨ cl8.slots.size ≤ ((Nat.toInt32 (k + 1))).toNatClampNeg) := AF.inb S8 (own_ix (by omega)) (by omega)
    have hat8 : cl8.slots[((Nat.toInt32 (k + 1))).toNatClampNeg]? = some (.long ai) := AF.at H8 (own_ix (by omega)) (by omega) hai
    have cn9 := fun (t : State) (kt : Steps p.tables e below (TJ3.setTop (mkF m 26 #[.val (.ref AA4), .val (.int (0 : Int32)), .val (.int (Nat.toInt32 c)), .val (.int (Nat.toInt32 (k + 1))), .val (.int (Nat.toInt32 (k + 1))), .val (.long ai), .second] [(.int ((Nat.toInt32 (k + 1)) - (1 : Int32))), (.ref AA4), (.long ai)])) t) => cn7 t (by
      refine XJ3.laload hx (j := (Nat.toInt32 (k + 1))) (v := (.long ai)) (by rw [eJ3]; exact Ar8.1) (State.isArrayOf_alike hZ.alike Ar8.2.1) Ar8.2.2 hin8 hat8 (g := (mkF m 17 #[.val (.ref AA4), .val (.int (0 : Int32)), .val (.int (Nat.toInt32 c)), .val (.int (Nat.toInt32 (k + 1))), .val (.int (Nat.toInt32 (k + 1))), s5, s6] [(.int (Nat.toInt32 (k + 1))), (.ref AA4)])) rfl rfl (hb hby d11_17) _ ?_
      show Steps p.tables e below (TJ3.setTop (mkF m 18 #[.val (.ref AA4), .val (.int (0 : Int32)), .val (.int (Nat.toInt32 c)), .val (.int (Nat.toInt32 (k + 1))), .val (.int (Nat.toInt32 (k + 1))), s5, s6] [(.long ai)])) _
      refine XS.lstore XJ3.here hx rfl (hb hby d11_18) rfl (l' := #[.val (.ref AA4), .val (.int (0 : Int32)), .val (.int (Nat.toInt32 c)), .val (.int (Nat.toInt32 (k + 1))), .val (.int (Nat.toInt32 (k + 1))), .val (.long ai), .second]) (by rcases h56 with ⟨rfl, rfl⟩ | ⟨v5, rfl, rfl⟩ <;> rfl) ?_
      show Steps p.tables e below (TJ3.setTop (mkF m 20 #[.val (.ref AA4), .val (.int (0 : Int32)), .val (.int (Nat.toInt32 c)), .val (.int (Nat.toInt32 (k + 1))), .val (.int (Nat.toInt32 (k + 1))), .val (.long ai), .second] [])) _
      refine XS.lload XJ3.here hx rfl (hb hby d11_20) rfl ?_
      show Steps p.tables e below (TJ3.setTop (mkF m 22 #[.val (.ref AA4), .val (.int (0 : Int32)), .val (.int (Nat.toInt32 c)), .val (.int (Nat.toInt32 (k + 1))), .val (.int (Nat.toInt32 (k + 1))), .val (.long ai), .second] [(.long ai)])) _
      refine XS.aloadN XJ3.here hx rfl (hb hby d11_22) rfl rfl ?_
      show Steps p.tables e below (TJ3.setTop (mkF m 23 #[.val (.ref AA4), .val (.int (0 : Int32)), .val (.int (Nat.toInt32 c)), .val (.int (Nat.toInt32 (k + 1))), .val (.int (Nat.toInt32 (k + 1))), .val (.long ai), .second] [(.ref AA4), (.long ai)])) _
      refine XS.iloadN XJ3.here hx rfl (hb hby d11_23) rfl ?_
      show Steps p.tables e below (TJ3.setTop (mkF m 24 #[.val (.ref AA4), .val (.int (0 : Int32)), .val (.int (Nat.toInt32 c)), .val (.int (Nat.toInt32 (k + 1))), .val (.int (Nat.toInt32 (k + 1))), .val (.long ai), .second] [(.int (Nat.toInt32 (k + 1))), (.ref AA4), (.long ai)])) _
      refine XS.iconst XJ3.here hx rfl (hb hby d11_24) ?_
      show Steps p.tables e below (TJ3.setTop (mkF m 25 #[.val (.ref AA4), .val (.int (0 : Int32)), .val (.int (Nat.toInt32 c)), .val (.int (Nat.toInt32 (k + 1))), .val (.int (Nat.toInt32 (k + 1))), .val (.long ai), .second] [(.int (1 : Int32)), (.int (Nat.toInt32 (k + 1))), (.ref AA4), (.long ai)])) _
      refine XS.isub XJ3.here hx rfl (hb hby d11_25) rfl ?_
      show Steps p.tables e below (TJ3.setTop (mkF m 26 #[.val (.ref AA4), .val (.int (0 : Int32)), .val (.int (Nat.toInt32 c)), .val (.int (Nat.toInt32 (k + 1))), .val (.int (Nat.toInt32 (k + 1))), .val (.long ai), .second] [(.int ((Nat.toInt32 (k + 1)) - (1 : Int32))), (.ref AA4), (.long ai)])) _
      exact kt)
    have cn10 : ∀ t, Steps p.tables e below (TJ3.setTop (mkF m 26 #[.val (.ref AA4), .val (.int (0 : Int32)), .val (.int (Nat.toInt32 c)), .val (.int (Nat.toInt32 (k + 1))), .val (.int (Nat.toInt32 (k + 1))), .val (.long ai), .second] [(.int (Nat.toInt32 k)), (.ref AA4), (.long ai)])) t → Steps p.tables e below (s₁.setTop (entryFrame m #[(.ref AA4), (.int (0 : Int32)), (.int (Nat.toInt32 c))] 7)) t := by have q := cn9; rw [(id (own_pre (by omega) (by omega)) : ((Nat.toInt32 (k + 1)) - (1 : Int32)) = (Nat.toInt32 k))] at q; exact q
    have AFx11 := Ag
    obtain ⟨cl11, Ar11, q11, S11, H11⟩ := AFx11
    have hin11 : ¬ ((Nat.toInt32 k) < 0 ∨ cl11.slots.size ≤ ((Nat.toInt32 k)).toNatClampNeg) := AF.inb S11 (own_ix (by omega)) (by omega)
    have hat11 : cl11.slots[((Nat.toInt32 k)).toNatClampNeg]? = some (.long aj) := AF.at H11 (own_ix (by omega)) (by omega) haj
    have cn12 := fun (t : State) (kt : Steps p.tables e below (TJ3.setTop (mkF m 28 #[.val (.ref AA4), .val (.int (0 : Int32)), .val (.int (Nat.toInt32 c)), .val (.int (Nat.toInt32 (k + 1))), .val (.int (Nat.toInt32 (k + 1))), .val (.long ai), .second] [(.int (lcmpW ai aj))])) t) => cn10 t (by
      refine XJ3.laload hx (j := (Nat.toInt32 k)) (v := (.long aj)) (by rw [eJ3]; exact Ar11.1) (State.isArrayOf_alike hZ.alike Ar11.2.1) Ar11.2.2 hin11 hat11 (g := (mkF m 26 #[.val (.ref AA4), .val (.int (0 : Int32)), .val (.int (Nat.toInt32 c)), .val (.int (Nat.toInt32 (k + 1))), .val (.int (Nat.toInt32 (k + 1))), .val (.long ai), .second] [(.int (Nat.toInt32 k)), (.ref AA4), (.long ai)])) rfl rfl (hb hby d11_26) _ ?_
      show Steps p.tables e below (TJ3.setTop (mkF m 27 #[.val (.ref AA4), .val (.int (0 : Int32)), .val (.int (Nat.toInt32 c)), .val (.int (Nat.toInt32 (k + 1))), .val (.int (Nat.toInt32 (k + 1))), .val (.long ai), .second] [(.long aj), (.long ai)])) _
      refine XS.lcmp XJ3.here hx rfl (hb hby d11_27) rfl ?_
      show Steps p.tables e below (TJ3.setTop (mkF m 28 #[.val (.ref AA4), .val (.int (0 : Int32)), .val (.int (Nat.toInt32 c)), .val (.int (Nat.toInt32 (k + 1))), .val (.int (Nat.toInt32 (k + 1))), .val (.long ai), .second] [(.int (lcmpW ai aj))])) _
      exact kt)
    by_cases hc28_13 : ai < aj
    · have cn14 := fun (t : State) (kt : Steps p.tables e below (TJ3.setTop (mkF m 31 #[.val (.ref AA4), .val (.int (0 : Int32)), .val (.int (Nat.toInt32 c)), .val (.int (Nat.toInt32 (k + 1))), .val (.int (Nat.toInt32 (k + 1))), .val (.long ai), .second] [])) t) => cn12 t (by
        refine XS.ifNo XJ3.here hx rfl (hb hby d11_28) rfl ((if0 _ _).trans (tlt ((lw_lt ai aj).mpr hc28_13)).2.1) ?_
        show Steps p.tables e below (TJ3.setTop (mkF m 31 #[.val (.ref AA4), .val (.int (0 : Int32)), .val (.int (Nat.toInt32 c)), .val (.int (Nat.toInt32 (k + 1))), .val (.int (Nat.toInt32 (k + 1))), .val (.long ai), .second] [])) _
        exact kt)
      refine own_loop (A := fun kk => ∃ (TJ : State) (hJ : Heap) (lJ : List Loc) (g2 : Nat → Value), Stand p l e ({ frames := 0, cells := 0, slots := 0, locals := 0 } : Room) s m #[(.ref AA4), (.int (0 : Int32)), (.int (Nat.toInt32 c))] below meth kode TJ lJ 0 0 ∧ TJ.heap = hJ ∧ Fr n0 lJ ∧ Old Z n0 hJ ∧ Keep h0 hJ [AA4] ∧ (kk ≤ k + 1) ∧ (AF Z hJ AA4 kA4 .long 16 g2) ∧ (TP4 c c g2) ∧ ∀ t, Steps p.tables e below (TJ.setTop (mkF m 31 #[.val (.ref AA4), .val (.int (0 : Int32)), .val (.int (Nat.toInt32 c)), .val (.int (Nat.toInt32 kk)), .val (.int (Nat.toInt32 (k + 1))), .val (.long ai), .second] [])) t → Steps p.tables e below (s₁.setTop (entryFrame m #[(.ref AA4), (.int (0 : Int32)), (.int (Nat.toInt32 c))] 7)) t) ?_ ?_ (k + 1) ?_
      · intro kk15 IH15
        rintro ⟨TJ16, hJ16, lJ16, g2, XJ16, eJ16, NJ16, OJ16, KJ16, hkk, Ag2, Hg2, kJ_16⟩
        obtain ⟨am, ham, hPam⟩ := Hg2 kk15 (by omega)
        have cn17 := fun (t : State) (kt : Steps p.tables e below (TJ16.setTop (mkF m 34 #[.val (.ref AA4), .val (.int (0 : Int32)), .val (.int (Nat.toInt32 c)), .val (.int ((Nat.toInt32 (kk15 + 1)) + (-1 : Int32))), .val (.int (Nat.toInt32 (k + 1))), .val (.long ai), .second] [])) t) => kJ_16 t (by
          refine XS.iinc XJ16.here hx rfl (hb hby d11_31) rfl (l' := #[.val (.ref AA4), .val (.int (0 : Int32)), .val (.int (Nat.toInt32 c)), .val (.int ((Nat.toInt32 (kk15 + 1)) + (-1 : Int32))), .val (.int (Nat.toInt32 (k + 1))), .val (.long ai), .second]) rfl ?_
          show Steps p.tables e below (TJ16.setTop (mkF m 34 #[.val (.ref AA4), .val (.int (0 : Int32)), .val (.int (Nat.toInt32 c)), .val (.int ((Nat.toInt32 (kk15 + 1)) + (-1 : Int32))), .val (.int (Nat.toInt32 (k + 1))), .val (.long ai), .second] [])) _
          exact kt)
        have cn18 : ∀ t, Steps p.tables e below (TJ16.setTop (mkF m 34 #[.val (.ref AA4), .val (.int (0 : Int32)), .val (.int (Nat.toInt32 c)), .val (.int (Nat.toInt32 kk15)), .val (.int (Nat.toInt32 (k + 1))), .val (.long ai), .second] [])) t → Steps p.tables e below (s₁.setTop (entryFrame m #[(.ref AA4), (.int (0 : Int32)), (.int (Nat.toInt32 c))] 7)) t := by have q := cn17; rw [(id (own_dec (by omega)) : ((Nat.toInt32 (kk15 + 1)) + (-1 : Int32)) = (Nat.toInt32 kk15))] at q; exact q
        have cn19 := fun (t : State) (kt : Steps p.tables e below (TJ16.setTop (mkF m 36 #[.val (.ref AA4), .val (.int (0 : Int32)), .val (.int (Nat.toInt32 c)), .val (.int (Nat.toInt32 kk15)), .val (.int (Nat.toInt32 (k + 1))), .val (.long ai), .second] [(.int (0 : Int32)), (.int (Nat.toInt32 kk15))])) t) => cn18 t (by
          refine XS.iloadN XJ16.here hx rfl (hb hby d11_34) rfl ?_
          show Steps p.tables e below (TJ16.setTop (mkF m 35 #[.val (.ref AA4), .val (.int (0 : Int32)), .val (.int (Nat.toInt32 c)), .val (.int (Nat.toInt32 kk15)), .val (.int (Nat.toInt32 (k + 1))), .val (.long ai), .second] [(.int (Nat.toInt32 kk15))])) _
          refine XS.iloadN XJ16.here hx rfl (hb hby d11_35) rfl ?_
          show Steps p.tables e below (TJ16.setTop (mkF m 36 #[.val (.ref AA4), .val (.int (0 : Int32)), .val (.int (Nat.toInt32 c)), .val (.int (Nat.toInt32 kk15)), .val (.int (Nat.toInt32 (k + 1))), .val (.long ai), .second] [(.int (0 : Int32)), (.int (Nat.toInt32 kk15))])) _
          exact kt)
        have cn20 := fun (t : State) (kt : Steps p.tables e below (TJ16.setTop (mkF m 43 #[.val (.ref AA4), .val (.int (0 : Int32)), .val (.int (Nat.toInt32 c)), .val (.int (Nat.toInt32 kk15)), .val (.int (Nat.toInt32 (k + 1))), .val (.long ai), .second] [(.int (Nat.toInt32 kk15)), (.ref AA4), (.long ai)])) t) => cn19 t (by
          refine XS.icmpNo XJ16.here hx rfl (hb hby d11_36) rfl (flt (own_ix (by omega)).1).1 ?_
          show Steps p.tables e below (TJ16.setTop (mkF m 39 #[.val (.ref AA4), .val (.int (0 : Int32)), .val (.int (Nat.toInt32 c)), .val (.int (Nat.toInt32 kk15)), .val (.int (Nat.toInt32 (k + 1))), .val (.long ai), .second] [])) _
          refine XS.lload XJ16.here hx rfl (hb hby d11_39) rfl ?_
          show Steps p.tables e below (TJ16.setTop (mkF m 41 #[.val (.ref AA4), .val (.int (0 : Int32)), .val (.int (Nat.toInt32 c)), .val (.int (Nat.toInt32 kk15)), .val (.int (Nat.toInt32 (k + 1))), .val (.long ai), .second] [(.long ai)])) _
          refine XS.aloadN XJ16.here hx rfl (hb hby d11_41) rfl rfl ?_
          show Steps p.tables e below (TJ16.setTop (mkF m 42 #[.val (.ref AA4), .val (.int (0 : Int32)), .val (.int (Nat.toInt32 c)), .val (.int (Nat.toInt32 kk15)), .val (.int (Nat.toInt32 (k + 1))), .val (.long ai), .second] [(.ref AA4), (.long ai)])) _
          refine XS.iloadN XJ16.here hx rfl (hb hby d11_42) rfl ?_
          show Steps p.tables e below (TJ16.setTop (mkF m 43 #[.val (.ref AA4), .val (.int (0 : Int32)), .val (.int (Nat.toInt32 c)), .val (.int (Nat.toInt32 kk15)), .val (.int (Nat.toInt32 (k + 1))), .val (.long ai), .second] [(.int (Nat.toInt32 kk15)), (.ref AA4), (.long ai)])) _
          exact kt)
        have AFx21 := Ag2
        obtain ⟨cl21, Ar21, q21, S21, H21⟩ := AFx21
        have hin21 : ¬ ((Nat.toInt32 kk15) < 0 ∨ cl21.slots.size ≤ ((Nat.toInt32 kk15)).toNatClampNeg) := AF.inb S21 (own_ix (by omega)) (by omega)
        have hat21 : cl21.slots[((Nat.toInt32 kk15)).toNatClampNeg]? = some (.long am) := AF.at H21 (own_ix (by omega)) (by omega) ham
        have cn22 := fun (t : State) (kt : Steps p.tables e below (TJ16.setTop (mkF m 45 #[.val (.ref AA4), .val (.int (0 : Int32)), .val (.int (Nat.toInt32 c)), .val (.int (Nat.toInt32 kk15)), .val (.int (Nat.toInt32 (k + 1))), .val (.long ai), .second] [(.int (lcmpW ai am))])) t) => cn20 t (by
          refine XJ16.laload hx (j := (Nat.toInt32 kk15)) (v := (.long am)) (by rw [eJ16]; exact Ar21.1) (State.isArrayOf_alike hZ.alike Ar21.2.1) Ar21.2.2 hin21 hat21 (g := (mkF m 43 #[.val (.ref AA4), .val (.int (0 : Int32)), .val (.int (Nat.toInt32 c)), .val (.int (Nat.toInt32 kk15)), .val (.int (Nat.toInt32 (k + 1))), .val (.long ai), .second] [(.int (Nat.toInt32 kk15)), (.ref AA4), (.long ai)])) rfl rfl (hb hby d11_43) _ ?_
          show Steps p.tables e below (TJ16.setTop (mkF m 44 #[.val (.ref AA4), .val (.int (0 : Int32)), .val (.int (Nat.toInt32 c)), .val (.int (Nat.toInt32 kk15)), .val (.int (Nat.toInt32 (k + 1))), .val (.long ai), .second] [(.long am), (.long ai)])) _
          refine XS.lcmp XJ16.here hx rfl (hb hby d11_44) rfl ?_
          show Steps p.tables e below (TJ16.setTop (mkF m 45 #[.val (.ref AA4), .val (.int (0 : Int32)), .val (.int (Nat.toInt32 c)), .val (.int (Nat.toInt32 kk15)), .val (.int (Nat.toInt32 (k + 1))), .val (.long ai), .second] [(.int (lcmpW ai am))])) _
          exact kt)
        by_cases hc45_23 : ai < am
        · have cn24 := fun (t : State) (kt : Steps p.tables e below (TJ16.setTop (mkF m 52 #[.val (.ref AA4), .val (.int (0 : Int32)), .val (.int (Nat.toInt32 c)), .val (.int (Nat.toInt32 kk15)), .val (.int (Nat.toInt32 (k + 1))), .val (.long ai), .second] [(.int ((Nat.toInt32 kk15) + (1 : Int32))), (.ref AA4)])) t) => cn22 t (by
            refine XS.ifNo XJ16.here hx rfl (hb hby d11_45) rfl ((if0 _ _).trans (tlt ((lw_lt ai am).mpr hc45_23)).2.1) ?_
            show Steps p.tables e below (TJ16.setTop (mkF m 48 #[.val (.ref AA4), .val (.int (0 : Int32)), .val (.int (Nat.toInt32 c)), .val (.int (Nat.toInt32 kk15)), .val (.int (Nat.toInt32 (k + 1))), .val (.long ai), .second] [])) _
            refine XS.aloadN XJ16.here hx rfl (hb hby d11_48) rfl rfl ?_
            show Steps p.tables e below (TJ16.setTop (mkF m 49 #[.val (.ref AA4), .val (.int (0 : Int32)), .val (.int (Nat.toInt32 c)), .val (.int (Nat.toInt32 kk15)), .val (.int (Nat.toInt32 (k + 1))), .val (.long ai), .second] [(.ref AA4)])) _
            refine XS.iloadN XJ16.here hx rfl (hb hby d11_49) rfl ?_
            show Steps p.tables e below (TJ16.setTop (mkF m 50 #[.val (.ref AA4), .val (.int (0 : Int32)), .val (.int (Nat.toInt32 c)), .val (.int (Nat.toInt32 kk15)), .val (.int (Nat.toInt32 (k + 1))), .val (.long ai), .second] [(.int (Nat.toInt32 kk15)), (.ref AA4)])) _
            refine XS.iconst XJ16.here hx rfl (hb hby d11_50) ?_
            show Steps p.tables e below (TJ16.setTop (mkF m 51 #[.val (.ref AA4), .val (.int (0 : Int32)), .val (.int (Nat.toInt32 c)), .val (.int (Nat.toInt32 kk15)), .val (.int (Nat.toInt32 (k + 1))), .val (.long ai), .second] [(.int (1 : Int32)), (.int (Nat.toInt32 kk15)), (.ref AA4)])) _
            refine XS.iadd XJ16.here hx rfl (hb hby d11_51) rfl ?_
            show Steps p.tables e below (TJ16.setTop (mkF m 52 #[.val (.ref AA4), .val (.int (0 : Int32)), .val (.int (Nat.toInt32 c)), .val (.int (Nat.toInt32 kk15)), .val (.int (Nat.toInt32 (k + 1))), .val (.long ai), .second] [(.int ((Nat.toInt32 kk15) + (1 : Int32))), (.ref AA4)])) _
            exact kt)
          have cn25 : ∀ t, Steps p.tables e below (TJ16.setTop (mkF m 52 #[.val (.ref AA4), .val (.int (0 : Int32)), .val (.int (Nat.toInt32 c)), .val (.int (Nat.toInt32 kk15)), .val (.int (Nat.toInt32 (k + 1))), .val (.long ai), .second] [(.int (Nat.toInt32 (kk15 + 1))), (.ref AA4)])) t → Steps p.tables e below (s₁.setTop (entryFrame m #[(.ref AA4), (.int (0 : Int32)), (.int (Nat.toInt32 c))] 7)) t := by have q := cn24; rw [(id (own_inc (by omega)) : ((Nat.toInt32 kk15) + (1 : Int32)) = (Nat.toInt32 (kk15 + 1)))] at q; exact q
          have cn26 := fun (t : State) (kt : Steps p.tables e below (TJ16.setTop (mkF m 54 #[.val (.ref AA4), .val (.int (0 : Int32)), .val (.int (Nat.toInt32 c)), .val (.int (Nat.toInt32 kk15)), .val (.int (Nat.toInt32 (k + 1))), .val (.long ai), .second] [(.int (Nat.toInt32 kk15)), (.ref AA4), (.int (Nat.toInt32 (kk15 + 1))), (.ref AA4)])) t) => cn25 t (by
            refine XS.aloadN XJ16.here hx rfl (hb hby d11_52) rfl rfl ?_
            show Steps p.tables e below (TJ16.setTop (mkF m 53 #[.val (.ref AA4), .val (.int (0 : Int32)), .val (.int (Nat.toInt32 c)), .val (.int (Nat.toInt32 kk15)), .val (.int (Nat.toInt32 (k + 1))), .val (.long ai), .second] [(.ref AA4), (.int (Nat.toInt32 (kk15 + 1))), (.ref AA4)])) _
            refine XS.iloadN XJ16.here hx rfl (hb hby d11_53) rfl ?_
            show Steps p.tables e below (TJ16.setTop (mkF m 54 #[.val (.ref AA4), .val (.int (0 : Int32)), .val (.int (Nat.toInt32 c)), .val (.int (Nat.toInt32 kk15)), .val (.int (Nat.toInt32 (k + 1))), .val (.long ai), .second] [(.int (Nat.toInt32 kk15)), (.ref AA4), (.int (Nat.toInt32 (kk15 + 1))), (.ref AA4)])) _
            exact kt)
          have AFx27 := Ag2
          obtain ⟨cl27, Ar27, q27, S27, H27⟩ := AFx27
          have hin27 : ¬ ((Nat.toInt32 kk15) < 0 ∨ cl27.slots.size ≤ ((Nat.toInt32 kk15)).toNatClampNeg) := AF.inb S27 (own_ix (by omega)) (by omega)
          have hat27 : cl27.slots[((Nat.toInt32 kk15)).toNatClampNeg]? = some (.long am) := AF.at H27 (own_ix (by omega)) (by omega) ham
          have cn28 := fun (t : State) (kt : Steps p.tables e below (TJ16.setTop (mkF m 55 #[.val (.ref AA4), .val (.int (0 : Int32)), .val (.int (Nat.toInt32 c)), .val (.int (Nat.toInt32 kk15)), .val (.int (Nat.toInt32 (k + 1))), .val (.long ai), .second] [(.long am), (.int (Nat.toInt32 (kk15 + 1))), (.ref AA4)])) t) => cn26 t (by
            refine XJ16.laload hx (j := (Nat.toInt32 kk15)) (v := (.long am)) (by rw [eJ16]; exact Ar27.1) (State.isArrayOf_alike hZ.alike Ar27.2.1) Ar27.2.2 hin27 hat27 (g := (mkF m 54 #[.val (.ref AA4), .val (.int (0 : Int32)), .val (.int (Nat.toInt32 c)), .val (.int (Nat.toInt32 kk15)), .val (.int (Nat.toInt32 (k + 1))), .val (.long ai), .second] [(.int (Nat.toInt32 kk15)), (.ref AA4), (.int (Nat.toInt32 (kk15 + 1))), (.ref AA4)])) rfl rfl (hb hby d11_54) _ ?_
            show Steps p.tables e below (TJ16.setTop (mkF m 55 #[.val (.ref AA4), .val (.int (0 : Int32)), .val (.int (Nat.toInt32 c)), .val (.int (Nat.toInt32 kk15)), .val (.int (Nat.toInt32 (k + 1))), .val (.long ai), .second] [(.long am), (.int (Nat.toInt32 (kk15 + 1))), (.ref AA4)])) _
            exact kt)
          have AFx29 := Ag2
          obtain ⟨cl29, Ar29, q29, S29, H29⟩ := AFx29
          have hin29 : ¬ ((Nat.toInt32 (kk15 + 1)) < 0 ∨ cl29.slots.size ≤ ((Nat.toInt32 (kk15 + 1))).toNatClampNeg) := AF.inb S29 (own_ix (by omega)) (by omega)
          obtain ⟨T30, h30, X30, e30, W30, st30⟩ := stJ XJ16 hx hZ eJ16 Ar29 (j := (Nat.toInt32 (kk15 + 1))) hin29 (g := (mkF m 55 #[.val (.ref AA4), .val (.int (0 : Int32)), .val (.int (Nat.toInt32 c)), .val (.int (Nat.toInt32 kk15)), .val (.int (Nat.toInt32 (k + 1))), .val (.long ai), .second] [(.long am), (.int (Nat.toInt32 (kk15 + 1))), (.ref AA4)])) rfl rfl (hb hby d11_55)
          have AF30 : AF Z h30 AA4 kA4 .long 16 (own_upd g2 (kk15 + 1) (.long am)) := AF.set Ar29 q29 S29 H29 W30 (own_ix (by omega)) (by omega)
          have N30 := Fr.snoc X30 NJ16 g_AA4
          have O30 := OJ16.wr W30 g_AA4
          have K30 : Keep h0 h30 [AA4] := KJ16.wr W30 (Or.inl (List.mem_of_getElem? (i := 0) rfl))
          have cn31 := fun (t : State) (kt : Steps p.tables e below (T30.setTop (mkF m 31 #[.val (.ref AA4), .val (.int (0 : Int32)), .val (.int (Nat.toInt32 c)), .val (.int (Nat.toInt32 kk15)), .val (.int (Nat.toInt32 (k + 1))), .val (.long ai), .second] [])) t) => cn28 t (by
            refine st30 _ ?_
            show Steps p.tables e below (T30.setTop (mkF m 56 #[.val (.ref AA4), .val (.int (0 : Int32)), .val (.int (Nat.toInt32 c)), .val (.int (Nat.toInt32 kk15)), .val (.int (Nat.toInt32 (k + 1))), .val (.long ai), .second] [])) _
            refine XS.goto X30.here hx rfl (pc0 := 56) (pc' := 31) rfl (hb hby d11_56) (by decide) (by decide) ?_
            show Steps p.tables e below (T30.setTop (mkF m 31 #[.val (.ref AA4), .val (.int (0 : Int32)), .val (.int (Nat.toInt32 c)), .val (.int (Nat.toInt32 kk15)), .val (.int (Nat.toInt32 (k + 1))), .val (.long ai), .second] [])) _
            exact kt)
          exact IH15 ⟨T30, h30, _, (own_upd g2 (kk15 + 1) (.long am)), own_up X30 (by decide) (by decide), e30, N30, O30, K30, (by omega), AF30, (TP4.upd Hg2 (kk15 + 1) hPam), cn31⟩
        · have cn32 := fun (t : State) (kt : Steps p.tables e below (TJ16.setTop (mkF m 63 #[.val (.ref AA4), .val (.int (0 : Int32)), .val (.int (Nat.toInt32 c)), .val (.int (Nat.toInt32 kk15)), .val (.int (Nat.toInt32 (k + 1))), .val (.long ai), .second] [(.int ((Nat.toInt32 kk15) + (1 : Int32))), (.ref AA4)])) t) => cn22 t (by
            refine XS.ifYes XJ16.here hx rfl (pc0 := 45) (pc' := 59) rfl (hb hby d11_45) rfl ((if0 _ _).trans (flt (fun q => hc45_23 ((lw_lt ai am).mp q))).2.1) (by decide) (by decide) ?_
            show Steps p.tables e below (TJ16.setTop (mkF m 59 #[.val (.ref AA4), .val (.int (0 : Int32)), .val (.int (Nat.toInt32 c)), .val (.int (Nat.toInt32 kk15)), .val (.int (Nat.toInt32 (k + 1))), .val (.long ai), .second] [])) _
            refine XS.aloadN XJ16.here hx rfl (hb hby d11_59) rfl rfl ?_
            show Steps p.tables e below (TJ16.setTop (mkF m 60 #[.val (.ref AA4), .val (.int (0 : Int32)), .val (.int (Nat.toInt32 c)), .val (.int (Nat.toInt32 kk15)), .val (.int (Nat.toInt32 (k + 1))), .val (.long ai), .second] [(.ref AA4)])) _
            refine XS.iloadN XJ16.here hx rfl (hb hby d11_60) rfl ?_
            show Steps p.tables e below (TJ16.setTop (mkF m 61 #[.val (.ref AA4), .val (.int (0 : Int32)), .val (.int (Nat.toInt32 c)), .val (.int (Nat.toInt32 kk15)), .val (.int (Nat.toInt32 (k + 1))), .val (.long ai), .second] [(.int (Nat.toInt32 kk15)), (.ref AA4)])) _
            refine XS.iconst XJ16.here hx rfl (hb hby d11_61) ?_
            show Steps p.tables e below (TJ16.setTop (mkF m 62 #[.val (.ref AA4), .val (.int (0 : Int32)), .val (.int (Nat.toInt32 c)), .val (.int (Nat.toInt32 kk15)), .val (.int (Nat.toInt32 (k + 1))), .val (.long ai), .second] [(.int (1 : Int32)), (.int (Nat.toInt32 kk15)), (.ref AA4)])) _
            refine XS.iadd XJ16.here hx rfl (hb hby d11_62) rfl ?_
            show Steps p.tables e below (TJ16.setTop (mkF m 63 #[.val (.ref AA4), .val (.int (0 : Int32)), .val (.int (Nat.toInt32 c)), .val (.int (Nat.toInt32 kk15)), .val (.int (Nat.toInt32 (k + 1))), .val (.long ai), .second] [(.int ((Nat.toInt32 kk15) + (1 : Int32))), (.ref AA4)])) _
            exact kt)
          have cn33 : ∀ t, Steps p.tables e below (TJ16.setTop (mkF m 63 #[.val (.ref AA4), .val (.int (0 : Int32)), .val (.int (Nat.toInt32 c)), .val (.int (Nat.toInt32 kk15)), .val (.int (Nat.toInt32 (k + 1))), .val (.long ai), .second] [(.int (Nat.toInt32 (kk15 + 1))), (.ref AA4)])) t → Steps p.tables e below (s₁.setTop (entryFrame m #[(.ref AA4), (.int (0 : Int32)), (.int (Nat.toInt32 c))] 7)) t := by have q := cn32; rw [(id (own_inc (by omega)) : ((Nat.toInt32 kk15) + (1 : Int32)) = (Nat.toInt32 (kk15 + 1)))] at q; exact q
          have cn34 := fun (t : State) (kt : Steps p.tables e below (TJ16.setTop (mkF m 65 #[.val (.ref AA4), .val (.int (0 : Int32)), .val (.int (Nat.toInt32 c)), .val (.int (Nat.toInt32 kk15)), .val (.int (Nat.toInt32 (k + 1))), .val (.long ai), .second] [(.long ai), (.int (Nat.toInt32 (kk15 + 1))), (.ref AA4)])) t) => cn33 t (by
            refine XS.lload XJ16.here hx rfl (hb hby d11_63) rfl ?_
            show Steps p.tables e below (TJ16.setTop (mkF m 65 #[.val (.ref AA4), .val (.int (0 : Int32)), .val (.int (Nat.toInt32 c)), .val (.int (Nat.toInt32 kk15)), .val (.int (Nat.toInt32 (k + 1))), .val (.long ai), .second] [(.long ai), (.int (Nat.toInt32 (kk15 + 1))), (.ref AA4)])) _
            exact kt)
          have AFx35 := Ag2
          obtain ⟨cl35, Ar35, q35, S35, H35⟩ := AFx35
          have hin35 : ¬ ((Nat.toInt32 (kk15 + 1)) < 0 ∨ cl35.slots.size ≤ ((Nat.toInt32 (kk15 + 1))).toNatClampNeg) := AF.inb S35 (own_ix (by omega)) (by omega)
          obtain ⟨T36, h36, X36, e36, W36, st36⟩ := stJ XJ16 hx hZ eJ16 Ar35 (j := (Nat.toInt32 (kk15 + 1))) hin35 (g := (mkF m 65 #[.val (.ref AA4), .val (.int (0 : Int32)), .val (.int (Nat.toInt32 c)), .val (.int (Nat.toInt32 kk15)), .val (.int (Nat.toInt32 (k + 1))), .val (.long ai), .second] [(.long ai), (.int (Nat.toInt32 (kk15 + 1))), (.ref AA4)])) rfl rfl (hb hby d11_65)
          have AF36 : AF Z h36 AA4 kA4 .long 16 (own_upd g2 (kk15 + 1) (.long ai)) := AF.set Ar35 q35 S35 H35 W36 (own_ix (by omega)) (by omega)
          have N36 := Fr.snoc X36 NJ16 g_AA4
          have O36 := OJ16.wr W36 g_AA4
          have K36 : Keep h0 h36 [AA4] := KJ16.wr W36 (Or.inl (List.mem_of_getElem? (i := 0) rfl))
          have cn37 := fun (t : State) (kt : Steps p.tables e below (T36.setTop (mkF m 3 #[.val (.ref AA4), .val (.int (0 : Int32)), .val (.int (Nat.toInt32 c)), .val (.int (Nat.toInt32 kk15)), .val (.int (Nat.toInt32 (k + 1))), .val (.long ai), .second] [])) t) => cn34 t (by
            refine st36 _ ?_
            show Steps p.tables e below (T36.setTop (mkF m 66 #[.val (.ref AA4), .val (.int (0 : Int32)), .val (.int (Nat.toInt32 c)), .val (.int (Nat.toInt32 kk15)), .val (.int (Nat.toInt32 (k + 1))), .val (.long ai), .second] [])) _
            refine XS.goto X36.here hx rfl (pc0 := 66) (pc' := 3) rfl (hb hby d11_66) (by decide) (by decide) ?_
            show Steps p.tables e below (T36.setTop (mkF m 3 #[.val (.ref AA4), .val (.int (0 : Int32)), .val (.int (Nat.toInt32 c)), .val (.int (Nat.toInt32 kk15)), .val (.int (Nat.toInt32 (k + 1))), .val (.long ai), .second] [])) _
            exact kt)
          exact IH2 ⟨T36, h36, _, k + 1, (own_upd g2 (kk15 + 1) (.long ai)), _, _, _, own_up X36 (by decide) (by decide), e36, N36, O36, K36, (by omega), (One.val rfl), (Or.inr ⟨_, rfl, rfl⟩), AF36, (TP4.upd Hg2 (kk15 + 1) hPai), cn37⟩
      · rintro ⟨TJ38, hJ38, lJ38, g2, XJ38, eJ38, NJ38, OJ38, KJ38, hkk, Ag2, Hg2, kJ_38⟩
        have cn39 := fun (t : State) (kt : Steps p.tables e below (TJ38.setTop (mkF m 34 #[.val (.ref AA4), .val (.int (0 : Int32)), .val (.int (Nat.toInt32 c)), .val (.int ((Nat.toInt32 0) + (-1 : Int32))), .val (.int (Nat.toInt32 (k + 1))), .val (.long ai), .second] [])) t) => kJ_38 t (by
          refine XS.iinc XJ38.here hx rfl (hb hby d11_31) rfl (l' := #[.val (.ref AA4), .val (.int (0 : Int32)), .val (.int (Nat.toInt32 c)), .val (.int ((Nat.toInt32 0) + (-1 : Int32))), .val (.int (Nat.toInt32 (k + 1))), .val (.long ai), .second]) rfl ?_
          show Steps p.tables e below (TJ38.setTop (mkF m 34 #[.val (.ref AA4), .val (.int (0 : Int32)), .val (.int (Nat.toInt32 c)), .val (.int ((Nat.toInt32 0) + (-1 : Int32))), .val (.int (Nat.toInt32 (k + 1))), .val (.long ai), .second] [])) _
          exact kt)
        have cn40 : ∀ t, Steps p.tables e below (TJ38.setTop (mkF m 34 #[.val (.ref AA4), .val (.int (0 : Int32)), .val (.int (Nat.toInt32 c)), .val (.int (-1 : Int32)), .val (.int (Nat.toInt32 (k + 1))), .val (.long ai), .second] [])) t → Steps p.tables e below (s₁.setTop (entryFrame m #[(.ref AA4), (.int (0 : Int32)), (.int (Nat.toInt32 c))] 7)) t := by have q := cn39; rw [(id (rfl) : ((Nat.toInt32 0) + (-1 : Int32)) = (-1 : Int32))] at q; exact q
        have cn41 := fun (t : State) (kt : Steps p.tables e below (TJ38.setTop (mkF m 36 #[.val (.ref AA4), .val (.int (0 : Int32)), .val (.int (Nat.toInt32 c)), .val (.int (-1 : Int32)), .val (.int (Nat.toInt32 (k + 1))), .val (.long ai), .second] [(.int (0 : Int32)), (.int (-1 : Int32))])) t) => cn40 t (by
          refine XS.iloadN XJ38.here hx rfl (hb hby d11_34) rfl ?_
          show Steps p.tables e below (TJ38.setTop (mkF m 35 #[.val (.ref AA4), .val (.int (0 : Int32)), .val (.int (Nat.toInt32 c)), .val (.int (-1 : Int32)), .val (.int (Nat.toInt32 (k + 1))), .val (.long ai), .second] [(.int (-1 : Int32))])) _
          refine XS.iloadN XJ38.here hx rfl (hb hby d11_35) rfl ?_
          show Steps p.tables e below (TJ38.setTop (mkF m 36 #[.val (.ref AA4), .val (.int (0 : Int32)), .val (.int (Nat.toInt32 c)), .val (.int (-1 : Int32)), .val (.int (Nat.toInt32 (k + 1))), .val (.long ai), .second] [(.int (0 : Int32)), (.int (-1 : Int32))])) _
          exact kt)
        have cn42 := fun (t : State) (kt : Steps p.tables e below (TJ38.setTop (mkF m 65 #[.val (.ref AA4), .val (.int (0 : Int32)), .val (.int (Nat.toInt32 c)), .val (.int (-1 : Int32)), .val (.int (Nat.toInt32 (k + 1))), .val (.long ai), .second] [(.long ai), (.int (0 : Int32)), (.ref AA4)])) t) => cn41 t (by
          refine XS.icmpYes XJ38.here hx rfl (pc0 := 36) (pc' := 59) rfl (hb hby d11_36) rfl (tlt (by decide : (-1 : Int32) < (0 : Int32))).1 (by decide) (by decide) ?_
          show Steps p.tables e below (TJ38.setTop (mkF m 59 #[.val (.ref AA4), .val (.int (0 : Int32)), .val (.int (Nat.toInt32 c)), .val (.int (-1 : Int32)), .val (.int (Nat.toInt32 (k + 1))), .val (.long ai), .second] [])) _
          refine XS.aloadN XJ38.here hx rfl (hb hby d11_59) rfl rfl ?_
          show Steps p.tables e below (TJ38.setTop (mkF m 60 #[.val (.ref AA4), .val (.int (0 : Int32)), .val (.int (Nat.toInt32 c)), .val (.int (-1 : Int32)), .val (.int (Nat.toInt32 (k + 1))), .val (.long ai), .second] [(.ref AA4)])) _
          refine XS.iloadN XJ38.here hx rfl (hb hby d11_60) rfl ?_
          show Steps p.tables e below (TJ38.setTop (mkF m 61 #[.val (.ref AA4), .val (.int (0 : Int32)), .val (.int (Nat.toInt32 c)), .val (.int (-1 : Int32)), .val (.int (Nat.toInt32 (k + 1))), .val (.long ai), .second] [(.int (-1 : Int32)), (.ref AA4)])) _
          refine XS.iconst XJ38.here hx rfl (hb hby d11_61) ?_
          show Steps p.tables e below (TJ38.setTop (mkF m 62 #[.val (.ref AA4), .val (.int (0 : Int32)), .val (.int (Nat.toInt32 c)), .val (.int (-1 : Int32)), .val (.int (Nat.toInt32 (k + 1))), .val (.long ai), .second] [(.int (1 : Int32)), (.int (-1 : Int32)), (.ref AA4)])) _
          refine XS.iadd XJ38.here hx rfl (hb hby d11_62) rfl ?_
          show Steps p.tables e below (TJ38.setTop (mkF m 63 #[.val (.ref AA4), .val (.int (0 : Int32)), .val (.int (Nat.toInt32 c)), .val (.int (-1 : Int32)), .val (.int (Nat.toInt32 (k + 1))), .val (.long ai), .second] [(.int (0 : Int32)), (.ref AA4)])) _
          refine XS.lload XJ38.here hx rfl (hb hby d11_63) rfl ?_
          show Steps p.tables e below (TJ38.setTop (mkF m 65 #[.val (.ref AA4), .val (.int (0 : Int32)), .val (.int (Nat.toInt32 c)), .val (.int (-1 : Int32)), .val (.int (Nat.toInt32 (k + 1))), .val (.long ai), .second] [(.long ai), (.int (0 : Int32)), (.ref AA4)])) _
          exact kt)
        have AFx43 := Ag2
        obtain ⟨cl43, Ar43, q43, S43, H43⟩ := AFx43
        have hin43 : ¬ ((0 : Int32) < 0 ∨ cl43.slots.size ≤ ((0 : Int32)).toNatClampNeg) := AF.inb S43 (own_ix (i := 0) (by decide)) (by omega)
        obtain ⟨T44, h44, X44, e44, W44, st44⟩ := stJ XJ38 hx hZ eJ38 Ar43 (j := (0 : Int32)) hin43 (g := (mkF m 65 #[.val (.ref AA4), .val (.int (0 : Int32)), .val (.int (Nat.toInt32 c)), .val (.int (-1 : Int32)), .val (.int (Nat.toInt32 (k + 1))), .val (.long ai), .second] [(.long ai), (.int (0 : Int32)), (.ref AA4)])) rfl rfl (hb hby d11_65)
        have AF44 : AF Z h44 AA4 kA4 .long 16 (own_upd g2 0 (.long ai)) := AF.set Ar43 q43 S43 H43 W44 (own_ix (i := 0) (by decide)) (by omega)
        have N44 := Fr.snoc X44 NJ38 g_AA4
        have O44 := OJ38.wr W44 g_AA4
        have K44 : Keep h0 h44 [AA4] := KJ38.wr W44 (Or.inl (List.mem_of_getElem? (i := 0) rfl))
        have cn45 := fun (t : State) (kt : Steps p.tables e below (T44.setTop (mkF m 3 #[.val (.ref AA4), .val (.int (0 : Int32)), .val (.int (Nat.toInt32 c)), .val (.int (-1 : Int32)), .val (.int (Nat.toInt32 (k + 1))), .val (.long ai), .second] [])) t) => cn42 t (by
          refine st44 _ ?_
          show Steps p.tables e below (T44.setTop (mkF m 66 #[.val (.ref AA4), .val (.int (0 : Int32)), .val (.int (Nat.toInt32 c)), .val (.int (-1 : Int32)), .val (.int (Nat.toInt32 (k + 1))), .val (.long ai), .second] [])) _
          refine XS.goto X44.here hx rfl (pc0 := 66) (pc' := 3) rfl (hb hby d11_66) (by decide) (by decide) ?_
          show Steps p.tables e below (T44.setTop (mkF m 3 #[.val (.ref AA4), .val (.int (0 : Int32)), .val (.int (Nat.toInt32 c)), .val (.int (-1 : Int32)), .val (.int (Nat.toInt32 (k + 1))), .val (.long ai), .second] [])) _
          exact kt)
        exact IH2 ⟨T44, h44, _, k + 1, (own_upd g2 0 (.long ai)), _, _, _, own_up X44 (by decide) (by decide), e44, N44, O44, K44, (by omega), (One.val rfl), (Or.inr ⟨_, rfl, rfl⟩), AF44, (TP4.upd Hg2 0 hPai), cn45⟩
      · exact ⟨TJ3, hJ3, _, g, own_up XJ3 (by decide) (by decide), eJ3, NJ3, OJ3, KJ3, (Nat.le_refl _), Ag, Hg, cn14⟩
    · have cn46 := fun (t : State) (kt : Steps p.tables e below (TJ3.setTop (mkF m 3 #[.val (.ref AA4), .val (.int (0 : Int32)), .val (.int (Nat.toInt32 c)), .val (.int (Nat.toInt32 (k + 1))), .val (.int (Nat.toInt32 (k + 1))), .val (.long ai), .second] [])) t) => cn12 t (by
        refine XS.ifYes XJ3.here hx rfl (pc0 := 28) (pc' := 66) rfl (hb hby d11_28) rfl ((if0 _ _).trans (flt (fun q => hc28_13 ((lw_lt ai aj).mp q))).2.1) (by decide) (by decide) ?_
        show Steps p.tables e below (TJ3.setTop (mkF m 66 #[.val (.ref AA4), .val (.int (0 : Int32)), .val (.int (Nat.toInt32 c)), .val (.int (Nat.toInt32 (k + 1))), .val (.int (Nat.toInt32 (k + 1))), .val (.long ai), .second] [])) _
        refine XS.goto XJ3.here hx rfl (pc0 := 66) (pc' := 3) rfl (hb hby d11_66) (by decide) (by decide) ?_
        show Steps p.tables e below (TJ3.setTop (mkF m 3 #[.val (.ref AA4), .val (.int (0 : Int32)), .val (.int (Nat.toInt32 c)), .val (.int (Nat.toInt32 (k + 1))), .val (.int (Nat.toInt32 (k + 1))), .val (.long ai), .second] [])) _
        exact kt)
      exact IH2 ⟨TJ3, hJ3, _, k + 1, g, _, _, _, own_up XJ3 (by decide) (by decide), eJ3, NJ3, OJ3, KJ3, (by omega), (One.val rfl), (Or.inr ⟨_, rfl, rfl⟩), Ag, Hg, cn46⟩
  · rintro ⟨TJ47, hJ47, lJ47, k, g, s3, s5, s6, XJ47, eJ47, NJ47, OJ47, KJ47, hik, ho3, h56, Ag, Hg, kJ_47⟩
    have cn48 := fun (t : State) (kt : Steps p.tables e below (TJ47.setTop (mkF m 6 #[.val (.ref AA4), .val (.int (0 : Int32)), .val (.int (Nat.toInt32 c)), s3, .val (.int ((Nat.toInt32 k) + (1 : Int32))), s5, s6] [])) t) => kJ_47 t (by
      refine XS.iinc XJ47.here hx rfl (hb hby d11_3) rfl (l' := #[.val (.ref AA4), .val (.int (0 : Int32)), .val (.int (Nat.toInt32 c)), s3, .val (.int ((Nat.toInt32 k) + (1 : Int32))), s5, s6]) rfl ?_
      show Steps p.tables e below (TJ47.setTop (mkF m 6 #[.val (.ref AA4), .val (.int (0 : Int32)), .val (.int (Nat.toInt32 c)), s3, .val (.int ((Nat.toInt32 k) + (1 : Int32))), s5, s6] [])) _
      exact kt)
    have cn49 : ∀ t, Steps p.tables e below (TJ47.setTop (mkF m 6 #[.val (.ref AA4), .val (.int (0 : Int32)), .val (.int (Nat.toInt32 c)), s3, .val (.int (Nat.toInt32 (k + 1))), s5, s6] [])) t → Steps p.tables e below (s₁.setTop (entryFrame m #[(.ref AA4), (.int (0 : Int32)), (.int (Nat.toInt32 c))] 7)) t := by have q := cn48; rw [(id (own_inc (by omega)) : ((Nat.toInt32 k) + (1 : Int32)) = (Nat.toInt32 (k + 1)))] at q; exact q
    have cn50 := fun (t : State) (kt : Steps p.tables e below (TJ47.setTop (mkF m 9 #[.val (.ref AA4), .val (.int (0 : Int32)), .val (.int (Nat.toInt32 c)), s3, .val (.int (Nat.toInt32 (k + 1))), s5, s6] [(.int (Nat.toInt32 c)), (.int (Nat.toInt32 (k + 1)))])) t) => cn49 t (by
      refine XS.iload XJ47.here hx rfl (hb hby d11_6) rfl ?_
      show Steps p.tables e below (TJ47.setTop (mkF m 8 #[.val (.ref AA4), .val (.int (0 : Int32)), .val (.int (Nat.toInt32 c)), s3, .val (.int (Nat.toInt32 (k + 1))), s5, s6] [(.int (Nat.toInt32 (k + 1)))])) _
      refine XS.iloadN XJ47.here hx rfl (hb hby d11_8) rfl ?_
      show Steps p.tables e below (TJ47.setTop (mkF m 9 #[.val (.ref AA4), .val (.int (0 : Int32)), .val (.int (Nat.toInt32 c)), s3, .val (.int (Nat.toInt32 (k + 1))), s5, s6] [(.int (Nat.toInt32 c)), (.int (Nat.toInt32 (k + 1)))])) _
      exact kt)
    have cn51 := fun (t : State) (kt : Steps p.tables e below (TJ47.setTop (mkF m 69 #[.val (.ref AA4), .val (.int (0 : Int32)), .val (.int (Nat.toInt32 c)), s3, .val (.int (Nat.toInt32 (k + 1))), s5, s6] [])) t) => cn50 t (by
      refine XS.icmpYes XJ47.here hx rfl (pc0 := 9) (pc' := 69) rfl (hb hby d11_9) rfl (flt (fun q => absurd ((own_lt (by omega) (by omega)).mp q) (by omega))).2.1 (by decide) (by decide) ?_
      show Steps p.tables e below (TJ47.setTop (mkF m 69 #[.val (.ref AA4), .val (.int (0 : Int32)), .val (.int (Nat.toInt32 c)), s3, .val (.int (Nat.toInt32 (k + 1))), s5, s6] [])) _
      exact kt)
    obtain ⟨frs, hr, hrun, hended, hW, hsame⟩ := XJ47.leave (v := none) (fun _ => rfl)
    refine ⟨_, _, cn51 _ ?_, hrun, hended, _, _, rfl, ?_, ⟨_, rfl⟩, hW, hsame.mono (by decide) (by decide)⟩
    · exact XJ47.returnOut hx Bd.returns (hb hby d11_69) hr
    · show QS Z AA4 kA4 c h0 n0 _ TJ47.heap _
      rw [eJ47]
      exact ⟨g, rfl, NJ47, KJ47, Ag, Hg⟩
  · exact ⟨s₁, h0, _, 0, f4, _, _, _, own_up X0 (by decide) (by decide), e0, N0, O0, (Keep.refl h0 [AA4]), (by omega), One.u, (Or.inl ⟨rfl, rfl⟩), AF4, H4, cn1⟩

theorem d10_0 : decode jdk_2529_method_13_code 0 = .ok (.iload 4, 2) := by decide +kernel
theorem d10_2 : decode jdk_2529_method_13_code 2 = .ok (.iconst 1, 1) := by decide +kernel
theorem d10_3 : decode jdk_2529_method_13_code 3 = .ok (.isub, 1) := by decide +kernel
theorem d10_4 : decode jdk_2529_method_13_code 4 = .ok (.istore 5, 2) := by decide +kernel
theorem d10_6 : decode jdk_2529_method_13_code 6 = .ok (.iload 4, 2) := by decide +kernel
theorem d10_8 : decode jdk_2529_method_13_code 8 = .ok (.iload_n 3, 1) := by decide +kernel
theorem d10_9 : decode jdk_2529_method_13_code 9 = .ok (.isub, 1) := by decide +kernel
theorem d10_10 : decode jdk_2529_method_13_code 10 = .ok (.istore 6, 2) := by decide +kernel
theorem d10_12 : decode jdk_2529_method_13_code 12 = .ok (.iload 6, 2) := by decide +kernel
theorem d10_14 : decode jdk_2529_method_13_code 14 = .ok (.bipush 65, 2) := by decide +kernel
theorem d10_16 : decode jdk_2529_method_13_code 16 = .ok (.iload_n 2, 1) := by decide +kernel
theorem d10_17 : decode jdk_2529_method_13_code 17 = .ok (.iadd, 1) := by decide +kernel
theorem d10_18 : decode jdk_2529_method_13_code 18 = .ok (.if_icmp .ge 28, 3) := by decide +kernel
theorem d10_21 : decode jdk_2529_method_13_code 21 = .ok (.iload_n 2, 1) := by decide +kernel
theorem d10_22 : decode jdk_2529_method_13_code 22 = .ok (.iconst 1, 1) := by decide +kernel
theorem d10_23 : decode jdk_2529_method_13_code 23 = .ok (.iand, 1) := by decide +kernel
theorem d10_24 : decode jdk_2529_method_13_code 24 = .ok (.ifCond .le 22, 3) := by decide +kernel
theorem d10_46 : decode jdk_2529_method_13_code 46 = .ok (.iload 6, 2) := by decide +kernel
theorem d10_48 : decode jdk_2529_method_13_code 48 = .ok (.bipush 44, 2) := by decide +kernel
theorem d10_50 : decode jdk_2529_method_13_code 50 = .ok (.if_icmp .ge 11, 3) := by decide +kernel
theorem d10_53 : decode jdk_2529_method_13_code 53 = .ok (.aload_n 1, 1) := by decide +kernel
theorem d10_54 : decode jdk_2529_method_13_code 54 = .ok (.iload_n 3, 1) := by decide +kernel
theorem d10_55 : decode jdk_2529_method_13_code 55 = .ok (.iload 4, 2) := by decide +kernel
theorem d10_57 : decode jdk_2529_method_13_code 57 = .ok (.invokestatic 105, 3) := by decide +kernel
theorem d10_60 : decode jdk_2529_method_13_code 60 = .ok (.return_, 1) := by decide +kernel
theorem pd_2 : parseMethodDescriptor "([JII)V" = some ⟨[(.array .long), .int, .int], none⟩ := by decide +kernel
theorem ef_10 (m : MethodId) (x1 : Addr) (x2 : Int32) (x3 : Int32) (x4 : Int32) : entryFrame m #[.null, (.ref x1), (.int x2), (.int x3), (.int x4)] 25 = mkF m 0 #[.val .null, .val (.ref x1), .val (.int x2), .val (.int x3), .val (.int x4), .unset, .unset, .unset, .unset, .unset, .unset, .unset, .unset, .unset, .unset, .unset, .unset, .unset, .unset, .unset, .unset, .unset, .unset, .unset, .unset] [] := by first | (simp [entryFrame, mkF, argsToLocals, Value.category]; done) | rfl
set_option maxRecDepth 65536 in
set_option maxHeartbeats 40000000 in
theorem rm10 (l : Launch) (Z : State) (a0 : Array Value) (hw : ∀ d ∈ tables_1, d.before a0 Z = true) (ws : List Jvm.Cond) (AA4 : Addr) (kA4 : ClassId) (c : Nat) (f4 : Nat → Value) (h0 : Heap) (n0 : Nat) (O0 : Old Z n0 h0) (g_AA4 : n0 ≤ AA4) (hc : c ≤ 4) (AF4 : AF Z h0 AA4 kA4 .long 16 f4) (H4 : TP4 c c f4) :
    MetFree l (⟨"java/util/DualPivotQuicksort", "sort", "(Ljava/util/DualPivotQuicksort$Sorter;[JIII)V"⟩ : MethodName) (head1 (Jvm.Cond.code (⟨"java/util/DualPivotQuicksort", "sort", "(Ljava/util/DualPivotQuicksort$Sorter;[JIII)V"⟩ : MethodName) jdk_2529_method_13_code 25 none :: ws) ({ frames := 1, cells := 0, slots := 0, locals := 18 } : Room)) (fun aQ U => aQ = #[.null, (.ref AA4), (.int (0 : Int32)), (.int (0 : Int32)), (.int (Nat.toInt32 c))] ∧ Z.Warmed39 U.vm ∧ U.heap = h0) (fun _ _ _ _ _ => True) (fun _ U o U' => ∃ v L, o = .returned v ∧ QS Z AA4 kA4 c h0 n0 v U'.heap L ∧ FrameEnd U o U' L ({ frames := 1, cells := 0, slots := 0, locals := 18 } : Room).cells ({ frames := 1, cells := 0, slots := 0, locals := 18 } : Room).slots) := by
  refine MetFree.of_bodySF (plainFor_of_name pn_java_util_DualPivotQuicksort) hisR ?_
  intro p e s m args below meth kode s₁ Bd hml0 hP hK
  obtain ⟨rfl, hZ, hh⟩ := hP
  have hx := Bd.exec
  have hby := Bd.bytes
  have hml : kode.maxLocals = 25 := hml0
  have hown : s.vm.findClass "java/util/DualPivotQuicksort" = some m.cls := findClass_of_methodNamed Bd.named
  have hnm := (name_of_methodNamed Bd.named Bd.method).1
  have X0 : Stand p l e ({ frames := 1, cells := 0, slots := 0, locals := 18 } : Room) s m #[.null, (.ref AA4), (.int (0 : Int32)), (.int (0 : Int32)), (.int (Nat.toInt32 c))] below meth kode s₁ [] 0 0 := Stand.of_body Bd
  have e0 : s₁.heap = h0 := by rw [← hh, Bd.state]; rfl
  have N0 := Fr.nil n0
  have pre0 : ∀ t, Steps p.tables e below (s₁.setTop (mkF m 0 #[.val .null, .val (.ref AA4), .val (.int (0 : Int32)), .val (.int (0 : Int32)), .val (.int (Nat.toInt32 c)), .unset, .unset, .unset, .unset, .unset, .unset, .unset, .unset, .unset, .unset, .unset, .unset, .unset, .unset, .unset, .unset, .unset, .unset, .unset, .unset] [])) t → Steps p.tables e below (s₁.setTop (entryFrame m #[.null, (.ref AA4), (.int (0 : Int32)), (.int (0 : Int32)), (.int (Nat.toInt32 c))] 25)) t := fun t k => castTop (ef_10 m AA4 (0 : Int32) (0 : Int32) (Nat.toInt32 c)) k
  have cn1 := fun (t : State) (kt : Steps p.tables e below (s₁.setTop (mkF m 12 #[.val .null, .val (.ref AA4), .val (.int (0 : Int32)), .val (.int (0 : Int32)), .val (.int (Nat.toInt32 c)), .val (.int ((Nat.toInt32 c) - (1 : Int32))), .val (.int ((Nat.toInt32 c) - (0 : Int32))), .unset, .unset, .unset, .unset, .unset, .unset, .unset, .unset, .unset, .unset, .unset, .unset, .unset, .unset, .unset, .unset, .unset, .unset] [])) t) => pre0 t (by
    refine XS.iload X0.here hx rfl (hb hby d10_0) rfl ?_
    show Steps p.tables e below (s₁.setTop (mkF m 2 #[.val .null, .val (.ref AA4), .val (.int (0 : Int32)), .val (.int (0 : Int32)), .val (.int (Nat.toInt32 c)), .unset, .unset, .unset, .unset, .unset, .unset, .unset, .unset, .unset, .unset, .unset, .unset, .unset, .unset, .unset, .unset, .unset, .unset, .unset, .unset] [(.int (Nat.toInt32 c))])) _
    refine XS.iconst X0.here hx rfl (hb hby d10_2) ?_
    show Steps p.tables e below (s₁.setTop (mkF m 3 #[.val .null, .val (.ref AA4), .val (.int (0 : Int32)), .val (.int (0 : Int32)), .val (.int (Nat.toInt32 c)), .unset, .unset, .unset, .unset, .unset, .unset, .unset, .unset, .unset, .unset, .unset, .unset, .unset, .unset, .unset, .unset, .unset, .unset, .unset, .unset] [(.int (1 : Int32)), (.int (Nat.toInt32 c))])) _
    refine XS.isub X0.here hx rfl (hb hby d10_3) rfl ?_
    show Steps p.tables e below (s₁.setTop (mkF m 4 #[.val .null, .val (.ref AA4), .val (.int (0 : Int32)), .val (.int (0 : Int32)), .val (.int (Nat.toInt32 c)), .unset, .unset, .unset, .unset, .unset, .unset, .unset, .unset, .unset, .unset, .unset, .unset, .unset, .unset, .unset, .unset, .unset, .unset, .unset, .unset] [(.int ((Nat.toInt32 c) - (1 : Int32)))])) _
    refine XS.istore X0.here hx rfl (hb hby d10_4) rfl (l' := #[.val .null, .val (.ref AA4), .val (.int (0 : Int32)), .val (.int (0 : Int32)), .val (.int (Nat.toInt32 c)), .val (.int ((Nat.toInt32 c) - (1 : Int32))), .unset, .unset, .unset, .unset, .unset, .unset, .unset, .unset, .unset, .unset, .unset, .unset, .unset, .unset, .unset, .unset, .unset, .unset, .unset]) rfl ?_
    show Steps p.tables e below (s₁.setTop (mkF m 6 #[.val .null, .val (.ref AA4), .val (.int (0 : Int32)), .val (.int (0 : Int32)), .val (.int (Nat.toInt32 c)), .val (.int ((Nat.toInt32 c) - (1 : Int32))), .unset, .unset, .unset, .unset, .unset, .unset, .unset, .unset, .unset, .unset, .unset, .unset, .unset, .unset, .unset, .unset, .unset, .unset, .unset] [])) _
    refine XS.iload X0.here hx rfl (hb hby d10_6) rfl ?_
    show Steps p.tables e below (s₁.setTop (mkF m 8 #[.val .null, .val (.ref AA4), .val (.int (0 : Int32)), .val (.int (0 : Int32)), .val (.int (Nat.toInt32 c)), .val (.int ((Nat.toInt32 c) - (1 : Int32))), .unset, .unset, .unset, .unset, .unset, .unset, .unset, .unset, .unset, .unset, .unset, .unset, .unset, .unset, .unset, .unset, .unset, .unset, .unset] [(.int (Nat.toInt32 c))])) _
    refine XS.iloadN X0.here hx rfl (hb hby d10_8) rfl ?_
    show Steps p.tables e below (s₁.setTop (mkF m 9 #[.val .null, .val (.ref AA4), .val (.int (0 : Int32)), .val (.int (0 : Int32)), .val (.int (Nat.toInt32 c)), .val (.int ((Nat.toInt32 c) - (1 : Int32))), .unset, .unset, .unset, .unset, .unset, .unset, .unset, .unset, .unset, .unset, .unset, .unset, .unset, .unset, .unset, .unset, .unset, .unset, .unset] [(.int (0 : Int32)), (.int (Nat.toInt32 c))])) _
    refine XS.isub X0.here hx rfl (hb hby d10_9) rfl ?_
    show Steps p.tables e below (s₁.setTop (mkF m 10 #[.val .null, .val (.ref AA4), .val (.int (0 : Int32)), .val (.int (0 : Int32)), .val (.int (Nat.toInt32 c)), .val (.int ((Nat.toInt32 c) - (1 : Int32))), .unset, .unset, .unset, .unset, .unset, .unset, .unset, .unset, .unset, .unset, .unset, .unset, .unset, .unset, .unset, .unset, .unset, .unset, .unset] [(.int ((Nat.toInt32 c) - (0 : Int32)))])) _
    refine XS.istore X0.here hx rfl (hb hby d10_10) rfl (l' := #[.val .null, .val (.ref AA4), .val (.int (0 : Int32)), .val (.int (0 : Int32)), .val (.int (Nat.toInt32 c)), .val (.int ((Nat.toInt32 c) - (1 : Int32))), .val (.int ((Nat.toInt32 c) - (0 : Int32))), .unset, .unset, .unset, .unset, .unset, .unset, .unset, .unset, .unset, .unset, .unset, .unset, .unset, .unset, .unset, .unset, .unset, .unset]) rfl ?_
    show Steps p.tables e below (s₁.setTop (mkF m 12 #[.val .null, .val (.ref AA4), .val (.int (0 : Int32)), .val (.int (0 : Int32)), .val (.int (Nat.toInt32 c)), .val (.int ((Nat.toInt32 c) - (1 : Int32))), .val (.int ((Nat.toInt32 c) - (0 : Int32))), .unset, .unset, .unset, .unset, .unset, .unset, .unset, .unset, .unset, .unset, .unset, .unset, .unset, .unset, .unset, .unset, .unset, .unset] [])) _
    exact kt)
  have cn2 : ∀ t, Steps p.tables e below (s₁.setTop (mkF m 12 #[.val .null, .val (.ref AA4), .val (.int (0 : Int32)), .val (.int (0 : Int32)), .val (.int (Nat.toInt32 c)), .val (.int ((Nat.toInt32 c) - (1 : Int32))), .val (.int (Nat.toInt32 c)), .unset, .unset, .unset, .unset, .unset, .unset, .unset, .unset, .unset, .unset, .unset, .unset, .unset, .unset, .unset, .unset, .unset, .unset] [])) t → Steps p.tables e below (s₁.setTop (entryFrame m #[.null, (.ref AA4), (.int (0 : Int32)), (.int (0 : Int32)), (.int (Nat.toInt32 c))] 25)) t := by have q := cn1; rw [(id (own_sub0 _) : ((Nat.toInt32 c) - (0 : Int32)) = (Nat.toInt32 c))] at q; exact q
  have cn3 := fun (t : State) (kt : Steps p.tables e below (s₁.setTop (mkF m 18 #[.val .null, .val (.ref AA4), .val (.int (0 : Int32)), .val (.int (0 : Int32)), .val (.int (Nat.toInt32 c)), .val (.int ((Nat.toInt32 c) - (1 : Int32))), .val (.int (Nat.toInt32 c)), .unset, .unset, .unset, .unset, .unset, .unset, .unset, .unset, .unset, .unset, .unset, .unset, .unset, .unset, .unset, .unset, .unset, .unset] [(.int (65 : Int32)), (.int (Nat.toInt32 c))])) t) => cn2 t (by
    refine XS.iload X0.here hx rfl (hb hby d10_12) rfl ?_
    show Steps p.tables e below (s₁.setTop (mkF m 14 #[.val .null, .val (.ref AA4), .val (.int (0 : Int32)), .val (.int (0 : Int32)), .val (.int (Nat.toInt32 c)), .val (.int ((Nat.toInt32 c) - (1 : Int32))), .val (.int (Nat.toInt32 c)), .unset, .unset, .unset, .unset, .unset, .unset, .unset, .unset, .unset, .unset, .unset, .unset, .unset, .unset, .unset, .unset, .unset, .unset] [(.int (Nat.toInt32 c))])) _
    refine XS.bipush X0.here hx rfl (hb hby d10_14) ?_
    show Steps p.tables e below (s₁.setTop (mkF m 16 #[.val .null, .val (.ref AA4), .val (.int (0 : Int32)), .val (.int (0 : Int32)), .val (.int (Nat.toInt32 c)), .val (.int ((Nat.toInt32 c) - (1 : Int32))), .val (.int (Nat.toInt32 c)), .unset, .unset, .unset, .unset, .unset, .unset, .unset, .unset, .unset, .unset, .unset, .unset, .unset, .unset, .unset, .unset, .unset, .unset] [(.int (65 : Int32)), (.int (Nat.toInt32 c))])) _
    refine XS.iloadN X0.here hx rfl (hb hby d10_16) rfl ?_
    show Steps p.tables e below (s₁.setTop (mkF m 17 #[.val .null, .val (.ref AA4), .val (.int (0 : Int32)), .val (.int (0 : Int32)), .val (.int (Nat.toInt32 c)), .val (.int ((Nat.toInt32 c) - (1 : Int32))), .val (.int (Nat.toInt32 c)), .unset, .unset, .unset, .unset, .unset, .unset, .unset, .unset, .unset, .unset, .unset, .unset, .unset, .unset, .unset, .unset, .unset, .unset] [(.int (0 : Int32)), (.int (65 : Int32)), (.int (Nat.toInt32 c))])) _
    refine XS.iadd X0.here hx rfl (hb hby d10_17) rfl ?_
    show Steps p.tables e below (s₁.setTop (mkF m 18 #[.val .null, .val (.ref AA4), .val (.int (0 : Int32)), .val (.int (0 : Int32)), .val (.int (Nat.toInt32 c)), .val (.int ((Nat.toInt32 c) - (1 : Int32))), .val (.int (Nat.toInt32 c)), .unset, .unset, .unset, .unset, .unset, .unset, .unset, .unset, .unset, .unset, .unset, .unset, .unset, .unset, .unset, .unset, .unset, .unset] [(.int (65 : Int32)), (.int (Nat.toInt32 c))])) _
    exact kt)
  have cn4 := fun (t : State) (kt : Steps p.tables e below (s₁.setTop (mkF m 24 #[.val .null, .val (.ref AA4), .val (.int (0 : Int32)), .val (.int (0 : Int32)), .val (.int (Nat.toInt32 c)), .val (.int ((Nat.toInt32 c) - (1 : Int32))), .val (.int (Nat.toInt32 c)), .unset, .unset, .unset, .unset, .unset, .unset, .unset, .unset, .unset, .unset, .unset, .unset, .unset, .unset, .unset, .unset, .unset, .unset] [(.int (0 : Int32))])) t) => cn3 t (by
    refine XS.icmpNo X0.here hx rfl (hb hby d10_18) rfl (tlt ((own_lt (j := 65) (by omega) (by decide)).mpr (by omega))).2.1 ?_
    show Steps p.tables e below (s₁.setTop (mkF m 21 #[.val .null, .val (.ref AA4), .val (.int (0 : Int32)), .val (.int (0 : Int32)), .val (.int (Nat.toInt32 c)), .val (.int ((Nat.toInt32 c) - (1 : Int32))), .val (.int (Nat.toInt32 c)), .unset, .unset, .unset, .unset, .unset, .unset, .unset, .unset, .unset, .unset, .unset, .unset, .unset, .unset, .unset, .unset, .unset, .unset] [])) _
    refine XS.iloadN X0.here hx rfl (hb hby d10_21) rfl ?_
    show Steps p.tables e below (s₁.setTop (mkF m 22 #[.val .null, .val (.ref AA4), .val (.int (0 : Int32)), .val (.int (0 : Int32)), .val (.int (Nat.toInt32 c)), .val (.int ((Nat.toInt32 c) - (1 : Int32))), .val (.int (Nat.toInt32 c)), .unset, .unset, .unset, .unset, .unset, .unset, .unset, .unset, .unset, .unset, .unset, .unset, .unset, .unset, .unset, .unset, .unset, .unset] [(.int (0 : Int32))])) _
    refine XS.iconst X0.here hx rfl (hb hby d10_22) ?_
    show Steps p.tables e below (s₁.setTop (mkF m 23 #[.val .null, .val (.ref AA4), .val (.int (0 : Int32)), .val (.int (0 : Int32)), .val (.int (Nat.toInt32 c)), .val (.int ((Nat.toInt32 c) - (1 : Int32))), .val (.int (Nat.toInt32 c)), .unset, .unset, .unset, .unset, .unset, .unset, .unset, .unset, .unset, .unset, .unset, .unset, .unset, .unset, .unset, .unset, .unset, .unset] [(.int (1 : Int32)), (.int (0 : Int32))])) _
    refine XS.iand X0.here hx rfl (hb hby d10_23) rfl ?_
    show Steps p.tables e below (s₁.setTop (mkF m 24 #[.val .null, .val (.ref AA4), .val (.int (0 : Int32)), .val (.int (0 : Int32)), .val (.int (Nat.toInt32 c)), .val (.int ((Nat.toInt32 c) - (1 : Int32))), .val (.int (Nat.toInt32 c)), .unset, .unset, .unset, .unset, .unset, .unset, .unset, .unset, .unset, .unset, .unset, .unset, .unset, .unset, .unset, .unset, .unset, .unset] [(.int (0 : Int32))])) _
    exact kt)
  have cn5 := fun (t : State) (kt : Steps p.tables e below (s₁.setTop (mkF m 50 #[.val .null, .val (.ref AA4), .val (.int (0 : Int32)), .val (.int (0 : Int32)), .val (.int (Nat.toInt32 c)), .val (.int ((Nat.toInt32 c) - (1 : Int32))), .val (.int (Nat.toInt32 c)), .unset, .unset, .unset, .unset, .unset, .unset, .unset, .unset, .unset, .unset, .unset, .unset, .unset, .unset, .unset, .unset, .unset, .unset] [(.int (44 : Int32)), (.int (Nat.toInt32 c))])) t) => cn4 t (by
    refine XS.ifYes X0.here hx rfl (pc0 := 24) (pc' := 46) rfl (hb hby d10_24) rfl ((if0 _ _).trans (flt (by decide : ¬ ((0 : Int32) < (0 : Int32)))).2.2.2) (by decide) (by decide) ?_
    show Steps p.tables e below (s₁.setTop (mkF m 46 #[.val .null, .val (.ref AA4), .val (.int (0 : Int32)), .val (.int (0 : Int32)), .val (.int (Nat.toInt32 c)), .val (.int ((Nat.toInt32 c) - (1 : Int32))), .val (.int (Nat.toInt32 c)), .unset, .unset, .unset, .unset, .unset, .unset, .unset, .unset, .unset, .unset, .unset, .unset, .unset, .unset, .unset, .unset, .unset, .unset] [])) _
    refine XS.iload X0.here hx rfl (hb hby d10_46) rfl ?_
    show Steps p.tables e below (s₁.setTop (mkF m 48 #[.val .null, .val (.ref AA4), .val (.int (0 : Int32)), .val (.int (0 : Int32)), .val (.int (Nat.toInt32 c)), .val (.int ((Nat.toInt32 c) - (1 : Int32))), .val (.int (Nat.toInt32 c)), .unset, .unset, .unset, .unset, .unset, .unset, .unset, .unset, .unset, .unset, .unset, .unset, .unset, .unset, .unset, .unset, .unset, .unset] [(.int (Nat.toInt32 c))])) _
    refine XS.bipush X0.here hx rfl (hb hby d10_48) ?_
    show Steps p.tables e below (s₁.setTop (mkF m 50 #[.val .null, .val (.ref AA4), .val (.int (0 : Int32)), .val (.int (0 : Int32)), .val (.int (Nat.toInt32 c)), .val (.int ((Nat.toInt32 c) - (1 : Int32))), .val (.int (Nat.toInt32 c)), .unset, .unset, .unset, .unset, .unset, .unset, .unset, .unset, .unset, .unset, .unset, .unset, .unset, .unset, .unset, .unset, .unset, .unset] [(.int (44 : Int32)), (.int (Nat.toInt32 c))])) _
    exact kt)
  have cn6 := fun (t : State) (kt : Steps p.tables e below (s₁.setTop (mkF m 57 #[.val .null, .val (.ref AA4), .val (.int (0 : Int32)), .val (.int (0 : Int32)), .val (.int (Nat.toInt32 c)), .val (.int ((Nat.toInt32 c) - (1 : Int32))), .val (.int (Nat.toInt32 c)), .unset, .unset, .unset, .unset, .unset, .unset, .unset, .unset, .unset, .unset, .unset, .unset, .unset, .unset, .unset, .unset, .unset, .unset] [(.int (Nat.toInt32 c)), (.int (0 : Int32)), (.ref AA4)])) t) => cn5 t (by
    refine XS.icmpNo X0.here hx rfl (hb hby d10_50) rfl (tlt ((own_lt (j := 44) (by omega) (by decide)).mpr (by omega))).2.1 ?_
    show Steps p.tables e below (s₁.setTop (mkF m 53 #[.val .null, .val (.ref AA4), .val (.int (0 : Int32)), .val (.int (0 : Int32)), .val (.int (Nat.toInt32 c)), .val (.int ((Nat.toInt32 c) - (1 : Int32))), .val (.int (Nat.toInt32 c)), .unset, .unset, .unset, .unset, .unset, .unset, .unset, .unset, .unset, .unset, .unset, .unset, .unset, .unset, .unset, .unset, .unset, .unset] [])) _
    refine XS.aloadN X0.here hx rfl (hb hby d10_53) rfl rfl ?_
    show Steps p.tables e below (s₁.setTop (mkF m 54 #[.val .null, .val (.ref AA4), .val (.int (0 : Int32)), .val (.int (0 : Int32)), .val (.int (Nat.toInt32 c)), .val (.int ((Nat.toInt32 c) - (1 : Int32))), .val (.int (Nat.toInt32 c)), .unset, .unset, .unset, .unset, .unset, .unset, .unset, .unset, .unset, .unset, .unset, .unset, .unset, .unset, .unset, .unset, .unset, .unset] [(.ref AA4)])) _
    refine XS.iloadN X0.here hx rfl (hb hby d10_54) rfl ?_
    show Steps p.tables e below (s₁.setTop (mkF m 55 #[.val .null, .val (.ref AA4), .val (.int (0 : Int32)), .val (.int (0 : Int32)), .val (.int (Nat.toInt32 c)), .val (.int ((Nat.toInt32 c) - (1 : Int32))), .val (.int (Nat.toInt32 c)), .unset, .unset, .unset, .unset, .unset, .unset, .unset, .unset, .unset, .unset, .unset, .unset, .unset, .unset, .unset, .unset, .unset, .unset] [(.int (0 : Int32)), (.ref AA4)])) _
    refine XS.iload X0.here hx rfl (hb hby d10_55) rfl ?_
    show Steps p.tables e below (s₁.setTop (mkF m 57 #[.val .null, .val (.ref AA4), .val (.int (0 : Int32)), .val (.int (0 : Int32)), .val (.int (Nat.toInt32 c)), .val (.int ((Nat.toInt32 c) - (1 : Int32))), .val (.int (Nat.toInt32 c)), .unset, .unset, .unset, .unset, .unset, .unset, .unset, .unset, .unset, .unset, .unset, .unset, .unset, .unset, .unset, .unset, .unset, .unset] [(.int (Nat.toInt32 c)), (.int (0 : Int32)), (.ref AA4)])) _
    exact kt)
  obtain ⟨_, _, ⟨T7, L7, k7, n7⟩, -, X7, ⟨Lc7, hQ7, l7, y7, z7⟩, st7⟩ := Jvm.LawKit.callS X0 hx (y := (⟨"java/util/DualPivotQuicksort", "insertionSort", "([JII)V"⟩ : MethodName)) hown (mvT hZ (hw _ (List.mem_of_getElem? (i := 56) rfl))) (mvT hZ (hw _ (List.mem_of_getElem? (i := 57) rfl))) (mvT hZ (hw _ (List.mem_of_getElem? (i := 51) rfl))) (mvT hZ (hw _ (List.mem_of_getElem? (i := 58) rfl))) (by decide) (backOf (W := 0) (rm11 l Z a0 hw [] AA4 kA4 c f4 h0 n0 O0 g_AA4 hc AF4 H4) hZ (hw _ (List.mem_of_getElem? (i := 58) rfl)) (hw _ (List.mem_of_getElem? (i := 51) rfl)) (by decide) (by decide)) (g := (mkF m 57 #[.val .null, .val (.ref AA4), .val (.int (0 : Int32)), .val (.int (0 : Int32)), .val (.int (Nat.toInt32 c)), .val (.int ((Nat.toInt32 c) - (1 : Int32))), .val (.int (Nat.toInt32 c)), .unset, .unset, .unset, .unset, .unset, .unset, .unset, .unset, .unset, .unset, .unset, .unset, .unset, .unset, .unset, .unset, .unset, .unset] [(.int (Nat.toInt32 c)), (.int (0 : Int32)), (.ref AA4)])) rfl (by rw [hml]; rfl) (argsL := [(.ref AA4), (.int (0 : Int32)), (.int (Nat.toInt32 c))]) (rest := []) (lenOf pd_2 rfl) rfl (by show 2 * 0 + _ ≤ _; exact Nat.le_of_eq rfl) (hb hby d10_57) (fun _ _ => ⟨rfl, e0, (by decide : 0 + 0 ≤ _), (by decide : 0 + 0 ≤ _)⟩)
  dsimp only [Pt.U, Pt.locs, Pt.cells, Pt.slots] at X7 l7 y7 z7 st7 hQ7
  subst l7 y7 z7
  obtain ⟨gq7, rfl, Nq7, Kq7, Aq7, Hq7⟩ := hQ7
  have N7 := Fr.app N0 Nq7
  have K7 := Kq7
  have O7 := O0.keep K7 (allS g_AA4 all0)
  have KK7 : Keep h0 T7.heap [AA4] := (Keep.refl h0 [AA4]).trans K7 (allS (Or.inl (List.mem_of_getElem? (i := 0) rfl)) all0)
  have cn8 := fun (t : State) (kt : Steps p.tables e below (T7.setTop (mkF m 60 #[.val .null, .val (.ref AA4), .val (.int (0 : Int32)), .val (.int (0 : Int32)), .val (.int (Nat.toInt32 c)), .val (.int ((Nat.toInt32 c) - (1 : Int32))), .val (.int (Nat.toInt32 c)), .unset, .unset, .unset, .unset, .unset, .unset, .unset, .unset, .unset, .unset, .unset, .unset, .unset, .unset, .unset, .unset, .unset, .unset] [])) t) => cn6 t (by
    refine st7 _ ?_
    show Steps p.tables e below (T7.setTop (mkF m 60 #[.val .null, .val (.ref AA4), .val (.int (0 : Int32)), .val (.int (0 : Int32)), .val (.int (Nat.toInt32 c)), .val (.int ((Nat.toInt32 c) - (1 : Int32))), .val (.int (Nat.toInt32 c)), .unset, .unset, .unset, .unset, .unset, .unset, .unset, .unset, .unset, .unset, .unset, .unset, .unset, .unset, .unset, .unset, .unset, .unset] [])) _
    exact kt)
  obtain ⟨frs, hr, hrun, hended, hW, hsame⟩ := X7.leave (v := none) (fun _ => rfl)
  refine ⟨_, _, cn8 _ ?_, hrun, hended, _, _, rfl, ?_, ⟨_, rfl⟩, hW, hsame.mono (by decide) (by decide)⟩
  · exact X7.returnOut hx Bd.returns (hb hby d10_60) hr
  · show QS Z AA4 kA4 c h0 n0 _ T7.heap _
    exact ⟨_, rfl, N7, KK7, Aq7, Hq7⟩

theorem d9_0 : decode jdk_2529_method_12_code 0 = .ok (.iload_n 3, 1) := by decide +kernel
theorem d9_1 : decode jdk_2529_method_12_code 1 = .ok (.iload_n 2, 1) := by decide +kernel
theorem d9_2 : decode jdk_2529_method_12_code 2 = .ok (.isub, 1) := by decide +kernel
theorem d9_3 : decode jdk_2529_method_12_code 3 = .ok (.istore 4, 2) := by decide +kernel
theorem d9_5 : decode jdk_2529_method_12_code 5 = .ok (.iload_n 1, 1) := by decide +kernel
theorem d9_6 : decode jdk_2529_method_12_code 6 = .ok (.iconst 1, 1) := by decide +kernel
theorem d9_7 : decode jdk_2529_method_12_code 7 = .ok (.if_icmp .le 61, 3) := by decide +kernel
theorem d9_68 : decode jdk_2529_method_12_code 68 = .ok (.aconst_null, 1) := by decide +kernel
theorem d9_69 : decode jdk_2529_method_12_code 69 = .ok (.aload_n 0, 1) := by decide +kernel
theorem d9_70 : decode jdk_2529_method_12_code 70 = .ok (.iconst 0, 1) := by decide +kernel
theorem d9_71 : decode jdk_2529_method_12_code 71 = .ok (.iload_n 2, 1) := by decide +kernel
theorem d9_72 : decode jdk_2529_method_12_code 72 = .ok (.iload_n 3, 1) := by decide +kernel
theorem d9_73 : decode jdk_2529_method_12_code 73 = .ok (.invokestatic 99, 3) := by decide +kernel
theorem d9_76 : decode jdk_2529_method_12_code 76 = .ok (.return_, 1) := by decide +kernel
theorem pd_3 : parseMethodDescriptor "(Ljava/util/DualPivotQuicksort$Sorter;[JIII)V" = some ⟨[(.object "java/util/DualPivotQuicksort$Sorter"), (.array .long), .int, .int, .int], none⟩ := by decide +kernel
theorem ef_9 (m : MethodId) (x0 : Addr) (x1 : Int32) (x2 : Int32) (x3 : Int32) : entryFrame m #[(.ref x0), (.int x1), (.int x2), (.int x3)] 7 = mkF m 0 #[.val (.ref x0), .val (.int x1), .val (.int x2), .val (.int x3), .unset, .unset, .unset] [] := by first | (simp [entryFrame, mkF, argsToLocals, Value.category]; done) | rfl
set_option maxRecDepth 65536 in
set_option maxHeartbeats 40000000 in
theorem rm9 (l : Launch) (Z : State) (a0 : Array Value) (hw : ∀ d ∈ tables_1, d.before a0 Z = true) (ws : List Jvm.Cond) (AA4 : Addr) (kA4 : ClassId) (c : Nat) (f4 : Nat → Value) (h0 : Heap) (n0 : Nat) (O0 : Old Z n0 h0) (g_AA4 : n0 ≤ AA4) (hc : c ≤ 4) (AF4 : AF Z h0 AA4 kA4 .long 16 f4) (H4 : TP4 c c f4) :
    MetFree l (⟨"java/util/DualPivotQuicksort", "sort", "([JIII)V"⟩ : MethodName) (head1 (Jvm.Cond.code (⟨"java/util/DualPivotQuicksort", "sort", "([JIII)V"⟩ : MethodName) jdk_2529_method_12_code 7 none :: ws) ({ frames := 2, cells := 0, slots := 0, locals := 54 } : Room)) (fun aQ U => aQ = #[(.ref AA4), (.int (0 : Int32)), (.int (0 : Int32)), (.int (Nat.toInt32 c))] ∧ Z.Warmed39 U.vm ∧ U.heap = h0) (fun _ _ _ _ _ => True) (fun _ U o U' => ∃ v L, o = .returned v ∧ QS Z AA4 kA4 c h0 n0 v U'.heap L ∧ FrameEnd U o U' L ({ frames := 2, cells := 0, slots := 0, locals := 54 } : Room).cells ({ frames := 2, cells := 0, slots := 0, locals := 54 } : Room).slots) := by
  refine MetFree.of_bodySF (plainFor_of_name pn_java_util_DualPivotQuicksort) hisR ?_
  intro p e s m args below meth kode s₁ Bd hml0 hP hK
  obtain ⟨rfl, hZ, hh⟩ := hP
  have hx := Bd.exec
  have hby := Bd.bytes
  have hml : kode.maxLocals = 7 := hml0
  have hown : s.vm.findClass "java/util/DualPivotQuicksort" = some m.cls := findClass_of_methodNamed Bd.named
  have hnm := (name_of_methodNamed Bd.named Bd.method).1
  have X0 : Stand p l e ({ frames := 2, cells := 0, slots := 0, locals := 54 } : Room) s m #[(.ref AA4), (.int (0 : Int32)), (.int (0 : Int32)), (.int (Nat.toInt32 c))] below meth kode s₁ [] 0 0 := Stand.of_body Bd
  have e0 : s₁.heap = h0 := by rw [← hh, Bd.state]; rfl
  have N0 := Fr.nil n0
  have pre0 : ∀ t, Steps p.tables e below (s₁.setTop (mkF m 0 #[.val (.ref AA4), .val (.int (0 : Int32)), .val (.int (0 : Int32)), .val (.int (Nat.toInt32 c)), .unset, .unset, .unset] [])) t → Steps p.tables e below (s₁.setTop (entryFrame m #[(.ref AA4), (.int (0 : Int32)), (.int (0 : Int32)), (.int (Nat.toInt32 c))] 7)) t := fun t k => castTop (ef_9 m AA4 (0 : Int32) (0 : Int32) (Nat.toInt32 c)) k
  have cn1 := fun (t : State) (kt : Steps p.tables e below (s₁.setTop (mkF m 7 #[.val (.ref AA4), .val (.int (0 : Int32)), .val (.int (0 : Int32)), .val (.int (Nat.toInt32 c)), .val (.int ((Nat.toInt32 c) - (0 : Int32))), .unset, .unset] [(.int (1 : Int32)), (.int (0 : Int32))])) t) => pre0 t (by
    refine XS.iloadN X0.here hx rfl (hb hby d9_0) rfl ?_
    show Steps p.tables e below (s₁.setTop (mkF m 1 #[.val (.ref AA4), .val (.int (0 : Int32)), .val (.int (0 : Int32)), .val (.int (Nat.toInt32 c)), .unset, .unset, .unset] [(.int (Nat.toInt32 c))])) _
    refine XS.iloadN X0.here hx rfl (hb hby d9_1) rfl ?_
    show Steps p.tables e below (s₁.setTop (mkF m 2 #[.val (.ref AA4), .val (.int (0 : Int32)), .val (.int (0 : Int32)), .val (.int (Nat.toInt32 c)), .unset, .unset, .unset] [(.int (0 : Int32)), (.int (Nat.toInt32 c))])) _
    refine XS.isub X0.here hx rfl (hb hby d9_2) rfl ?_
    show Steps p.tables e below (s₁.setTop (mkF m 3 #[.val (.ref AA4), .val (.int (0 : Int32)), .val (.int (0 : Int32)), .val (.int (Nat.toInt32 c)), .unset, .unset, .unset] [(.int ((Nat.toInt32 c) - (0 : Int32)))])) _
    refine XS.istore X0.here hx rfl (hb hby d9_3) rfl (l' := #[.val (.ref AA4), .val (.int (0 : Int32)), .val (.int (0 : Int32)), .val (.int (Nat.toInt32 c)), .val (.int ((Nat.toInt32 c) - (0 : Int32))), .unset, .unset]) rfl ?_
    show Steps p.tables e below (s₁.setTop (mkF m 5 #[.val (.ref AA4), .val (.int (0 : Int32)), .val (.int (0 : Int32)), .val (.int (Nat.toInt32 c)), .val (.int ((Nat.toInt32 c) - (0 : Int32))), .unset, .unset] [])) _
    refine XS.iloadN X0.here hx rfl (hb hby d9_5) rfl ?_
    show Steps p.tables e below (s₁.setTop (mkF m 6 #[.val (.ref AA4), .val (.int (0 : Int32)), .val (.int (0 : Int32)), .val (.int (Nat.toInt32 c)), .val (.int ((Nat.toInt32 c) - (0 : Int32))), .unset, .unset] [(.int (0 : Int32))])) _
    refine XS.iconst X0.here hx rfl (hb hby d9_6) ?_
    show Steps p.tables e below (s₁.setTop (mkF m 7 #[.val (.ref AA4), .val (.int (0 : Int32)), .val (.int (0 : Int32)), .val (.int (Nat.toInt32 c)), .val (.int ((Nat.toInt32 c) - (0 : Int32))), .unset, .unset] [(.int (1 : Int32)), (.int (0 : Int32))])) _
    exact kt)
  have cn2 := fun (t : State) (kt : Steps p.tables e below (s₁.setTop (mkF m 73 #[.val (.ref AA4), .val (.int (0 : Int32)), .val (.int (0 : Int32)), .val (.int (Nat.toInt32 c)), .val (.int ((Nat.toInt32 c) - (0 : Int32))), .unset, .unset] [(.int (Nat.toInt32 c)), (.int (0 : Int32)), (.int (0 : Int32)), (.ref AA4), .null])) t) => cn1 t (by
    refine XS.icmpYes X0.here hx rfl (pc0 := 7) (pc' := 68) rfl (hb hby d9_7) rfl (flt (by decide : ¬ ((1 : Int32) < (0 : Int32)))).2.2.2 (by decide) (by decide) ?_
    show Steps p.tables e below (s₁.setTop (mkF m 68 #[.val (.ref AA4), .val (.int (0 : Int32)), .val (.int (0 : Int32)), .val (.int (Nat.toInt32 c)), .val (.int ((Nat.toInt32 c) - (0 : Int32))), .unset, .unset] [])) _
    refine XS.aconstNull X0.here hx rfl (hb hby d9_68) ?_
    show Steps p.tables e below (s₁.setTop (mkF m 69 #[.val (.ref AA4), .val (.int (0 : Int32)), .val (.int (0 : Int32)), .val (.int (Nat.toInt32 c)), .val (.int ((Nat.toInt32 c) - (0 : Int32))), .unset, .unset] [.null])) _
    refine XS.aloadN X0.here hx rfl (hb hby d9_69) rfl rfl ?_
    show Steps p.tables e below (s₁.setTop (mkF m 70 #[.val (.ref AA4), .val (.int (0 : Int32)), .val (.int (0 : Int32)), .val (.int (Nat.toInt32 c)), .val (.int ((Nat.toInt32 c) - (0 : Int32))), .unset, .unset] [(.ref AA4), .null])) _
    refine XS.iconst X0.here hx rfl (hb hby d9_70) ?_
    show Steps p.tables e below (s₁.setTop (mkF m 71 #[.val (.ref AA4), .val (.int (0 : Int32)), .val (.int (0 : Int32)), .val (.int (Nat.toInt32 c)), .val (.int ((Nat.toInt32 c) - (0 : Int32))), .unset, .unset] [(.int (0 : Int32)), (.ref AA4), .null])) _
    refine XS.iloadN X0.here hx rfl (hb hby d9_71) rfl ?_
    show Steps p.tables e below (s₁.setTop (mkF m 72 #[.val (.ref AA4), .val (.int (0 : Int32)), .val (.int (0 : Int32)), .val (.int (Nat.toInt32 c)), .val (.int ((Nat.toInt32 c) - (0 : Int32))), .unset, .unset] [(.int (0 : Int32)), (.int (0 : Int32)), (.ref AA4), .null])) _
    refine XS.iloadN X0.here hx rfl (hb hby d9_72) rfl ?_
    show Steps p.tables e below (s₁.setTop (mkF m 73 #[.val (.ref AA4), .val (.int (0 : Int32)), .val (.int (0 : Int32)), .val (.int (Nat.toInt32 c)), .val (.int ((Nat.toInt32 c) - (0 : Int32))), .unset, .unset] [(.int (Nat.toInt32 c)), (.int (0 : Int32)), (.int (0 : Int32)), (.ref AA4), .null])) _
    exact kt)
  obtain ⟨_, _, ⟨T3, L3, k3, n3⟩, -, X3, ⟨Lc3, hQ3, l3, y3, z3⟩, st3⟩ := Jvm.LawKit.callS X0 hx (y := (⟨"java/util/DualPivotQuicksort", "sort", "(Ljava/util/DualPivotQuicksort$Sorter;[JIII)V"⟩ : MethodName)) hown (mvT hZ (hw _ (List.mem_of_getElem? (i := 53) rfl))) (mvT hZ (hw _ (List.mem_of_getElem? (i := 54) rfl))) (mvT hZ (hw _ (List.mem_of_getElem? (i := 51) rfl))) (mvT hZ (hw _ (List.mem_of_getElem? (i := 55) rfl))) (by decide) (backOf (W := 0) (rm10 l Z a0 hw [] AA4 kA4 c f4 h0 n0 O0 g_AA4 hc AF4 H4) hZ (hw _ (List.mem_of_getElem? (i := 55) rfl)) (hw _ (List.mem_of_getElem? (i := 51) rfl)) (by decide) (by decide)) (g := (mkF m 73 #[.val (.ref AA4), .val (.int (0 : Int32)), .val (.int (0 : Int32)), .val (.int (Nat.toInt32 c)), .val (.int ((Nat.toInt32 c) - (0 : Int32))), .unset, .unset] [(.int (Nat.toInt32 c)), (.int (0 : Int32)), (.int (0 : Int32)), (.ref AA4), .null])) rfl (by rw [hml]; rfl) (argsL := [.null, (.ref AA4), (.int (0 : Int32)), (.int (0 : Int32)), (.int (Nat.toInt32 c))]) (rest := []) (lenOf pd_3 rfl) rfl (by show 2 * 0 + _ ≤ _; exact Nat.le_of_eq rfl) (hb hby d9_73) (fun _ _ => ⟨rfl, e0, (by decide : 0 + 0 ≤ _), (by decide : 0 + 0 ≤ _)⟩)
  dsimp only [Pt.U, Pt.locs, Pt.cells, Pt.slots] at X3 l3 y3 z3 st3 hQ3
  subst l3 y3 z3
  obtain ⟨gq3, rfl, Nq3, Kq3, Aq3, Hq3⟩ := hQ3
  have N3 := Fr.app N0 Nq3
  have K3 := Kq3
  have O3 := O0.keep K3 (allS g_AA4 all0)
  have KK3 : Keep h0 T3.heap [AA4] := (Keep.refl h0 [AA4]).trans K3 (allS (Or.inl (List.mem_of_getElem? (i := 0) rfl)) all0)
  have cn4 := fun (t : State) (kt : Steps p.tables e below (T3.setTop (mkF m 76 #[.val (.ref AA4), .val (.int (0 : Int32)), .val (.int (0 : Int32)), .val (.int (Nat.toInt32 c)), .val (.int ((Nat.toInt32 c) - (0 : Int32))), .unset, .unset] [])) t) => cn2 t (by
    refine st3 _ ?_
    show Steps p.tables e below (T3.setTop (mkF m 76 #[.val (.ref AA4), .val (.int (0 : Int32)), .val (.int (0 : Int32)), .val (.int (Nat.toInt32 c)), .val (.int ((Nat.toInt32 c) - (0 : Int32))), .unset, .unset] [])) _
    exact kt)
  obtain ⟨frs, hr, hrun, hended, hW, hsame⟩ := X3.leave (v := none) (fun _ => rfl)
  refine ⟨_, _, cn4 _ ?_, hrun, hended, _, _, rfl, ?_, ⟨_, rfl⟩, hW, hsame.mono (by decide) (by decide)⟩
  · exact X3.returnOut hx Bd.returns (hb hby d9_76) hr
  · show QS Z AA4 kA4 c h0 n0 _ T3.heap _
    exact ⟨_, rfl, N3, KK3, Aq3, Hq3⟩

theorem d8_0 : decode jdk_65_method_30_code 0 = .ok (.iload_n 1, 1) := by decide +kernel
theorem d8_1 : decode jdk_65_method_30_code 1 = .ok (.iload_n 2, 1) := by decide +kernel
theorem d8_2 : decode jdk_65_method_30_code 2 = .ok (.if_icmp .le 44, 3) := by decide +kernel
theorem d8_46 : decode jdk_65_method_30_code 46 = .ok (.iload_n 1, 1) := by decide +kernel
theorem d8_47 : decode jdk_65_method_30_code 47 = .ok (.ifCond .ge 12, 3) := by decide +kernel
theorem d8_59 : decode jdk_65_method_30_code 59 = .ok (.iload_n 2, 1) := by decide +kernel
theorem d8_60 : decode jdk_65_method_30_code 60 = .ok (.iload_n 0, 1) := by decide +kernel
theorem d8_61 : decode jdk_65_method_30_code 61 = .ok (.if_icmp .le 12, 3) := by decide +kernel
theorem d8_73 : decode jdk_65_method_30_code 73 = .ok (.return_, 1) := by decide +kernel
theorem pn_java_util_Arrays : plainName "java/util/Arrays" = true := by first | (simp [plainName, overriddenIn]; done) | decide +kernel
theorem ef_8 (m : MethodId) (x0 : Int32) (x1 : Int32) (x2 : Int32) : entryFrame m #[(.int x0), (.int x1), (.int x2)] 3 = mkF m 0 #[.val (.int x0), .val (.int x1), .val (.int x2)] [] := by first | (simp [entryFrame, mkF, argsToLocals, Value.category]; done) | rfl
set_option maxRecDepth 65536 in
set_option maxHeartbeats 40000000 in
theorem rm8 (l : Launch) (Z : State) (a0 : Array Value) (hw : ∀ d ∈ tables_1, d.before a0 Z = true) (ws : List Jvm.Cond) (c : Nat) (h0 : Heap) (n0 : Nat) (O0 : Old Z n0 h0) (hc : c ≤ 4) :
    MetFree l (⟨"java/util/Arrays", "rangeCheck", "(III)V"⟩ : MethodName) (head1 (Jvm.Cond.code (⟨"java/util/Arrays", "rangeCheck", "(III)V"⟩ : MethodName) jdk_65_method_30_code 3 none :: ws) ({ frames := 0, cells := 0, slots := 0, locals := 0 } : Room)) (fun aQ U => aQ = #[(.int (Nat.toInt32 16)), (.int (0 : Int32)), (.int (Nat.toInt32 c))] ∧ Z.Warmed39 U.vm ∧ U.heap = h0) (fun _ _ _ _ _ => True) (fun _ U o U' => ∃ v L, o = .returned v ∧ QN h0 n0 v U'.heap L ∧ FrameEnd U o U' L ({ frames := 0, cells := 0, slots := 0, locals := 0 } : Room).cells ({ frames := 0, cells := 0, slots := 0, locals := 0 } : Room).slots) := by
  refine MetFree.of_bodySF (plainFor_of_name pn_java_util_Arrays) hisR ?_
  intro p e s m args below meth kode s₁ Bd hml0 hP hK
  obtain ⟨rfl, hZ, hh⟩ := hP
  have hx := Bd.exec
  have hby := Bd.bytes
  have hml : kode.maxLocals = 3 := hml0
  have hown : s.vm.findClass "java/util/Arrays" = some m.cls := findClass_of_methodNamed Bd.named
  have hnm := (name_of_methodNamed Bd.named Bd.method).1
  have X0 : Stand p l e ({ frames := 0, cells := 0, slots := 0, locals := 0 } : Room) s m #[(.int (Nat.toInt32 16)), (.int (0 : Int32)), (.int (Nat.toInt32 c))] below meth kode s₁ [] 0 0 := Stand.of_body Bd
  have e0 : s₁.heap = h0 := by rw [← hh, Bd.state]; rfl
  have N0 := Fr.nil n0
  have pre0 : ∀ t, Steps p.tables e below (s₁.setTop (mkF m 0 #[.val (.int (Nat.toInt32 16)), .val (.int (0 : Int32)), .val (.int (Nat.toInt32 c))] [])) t → Steps p.tables e below (s₁.setTop (entryFrame m #[(.int (Nat.toInt32 16)), (.int (0 : Int32)), (.int (Nat.toInt32 c))] 3)) t := fun t k => castTop (ef_8 m (Nat.toInt32 16) (0 : Int32) (Nat.toInt32 c)) k
  have cn1 := fun (t : State) (kt : Steps p.tables e below (s₁.setTop (mkF m 2 #[.val (.int (Nat.toInt32 16)), .val (.int (0 : Int32)), .val (.int (Nat.toInt32 c))] [(.int (Nat.toInt32 c)), (.int (0 : Int32))])) t) => pre0 t (by
    refine XS.iloadN X0.here hx rfl (hb hby d8_0) rfl ?_
    show Steps p.tables e below (s₁.setTop (mkF m 1 #[.val (.int (Nat.toInt32 16)), .val (.int (0 : Int32)), .val (.int (Nat.toInt32 c))] [(.int (0 : Int32))])) _
    refine XS.iloadN X0.here hx rfl (hb hby d8_1) rfl ?_
    show Steps p.tables e below (s₁.setTop (mkF m 2 #[.val (.int (Nat.toInt32 16)), .val (.int (0 : Int32)), .val (.int (Nat.toInt32 c))] [(.int (Nat.toInt32 c)), (.int (0 : Int32))])) _
    exact kt)
  have cn2 := fun (t : State) (kt : Steps p.tables e below (s₁.setTop (mkF m 47 #[.val (.int (Nat.toInt32 16)), .val (.int (0 : Int32)), .val (.int (Nat.toInt32 c))] [(.int (0 : Int32))])) t) => cn1 t (by
    refine XS.icmpYes X0.here hx rfl (pc0 := 2) (pc' := 46) rfl (hb hby d8_2) rfl (flt (own_ix (by omega)).1).2.2.2 (by decide) (by decide) ?_
    show Steps p.tables e below (s₁.setTop (mkF m 46 #[.val (.int (Nat.toInt32 16)), .val (.int (0 : Int32)), .val (.int (Nat.toInt32 c))] [])) _
    refine XS.iloadN X0.here hx rfl (hb hby d8_46) rfl ?_
    show Steps p.tables e below (s₁.setTop (mkF m 47 #[.val (.int (Nat.toInt32 16)), .val (.int (0 : Int32)), .val (.int (Nat.toInt32 c))] [(.int (0 : Int32))])) _
    exact kt)
  have cn3 := fun (t : State) (kt : Steps p.tables e below (s₁.setTop (mkF m 61 #[.val (.int (Nat.toInt32 16)), .val (.int (0 : Int32)), .val (.int (Nat.toInt32 c))] [(.int (Nat.toInt32 16)), (.int (Nat.toInt32 c))])) t) => cn2 t (by
    refine XS.ifYes X0.here hx rfl (pc0 := 47) (pc' := 59) rfl (hb hby d8_47) rfl ((if0 _ _).trans (flt (by decide : ¬ ((0 : Int32) < (0 : Int32)))).2.1) (by decide) (by decide) ?_
    show Steps p.tables e below (s₁.setTop (mkF m 59 #[.val (.int (Nat.toInt32 16)), .val (.int (0 : Int32)), .val (.int (Nat.toInt32 c))] [])) _
    refine XS.iloadN X0.here hx rfl (hb hby d8_59) rfl ?_
    show Steps p.tables e below (s₁.setTop (mkF m 60 #[.val (.int (Nat.toInt32 16)), .val (.int (0 : Int32)), .val (.int (Nat.toInt32 c))] [(.int (Nat.toInt32 c))])) _
    refine XS.iloadN X0.here hx rfl (hb hby d8_60) rfl ?_
    show Steps p.tables e below (s₁.setTop (mkF m 61 #[.val (.int (Nat.toInt32 16)), .val (.int (0 : Int32)), .val (.int (Nat.toInt32 c))] [(.int (Nat.toInt32 16)), (.int (Nat.toInt32 c))])) _
    exact kt)
  have cn4 := fun (t : State) (kt : Steps p.tables e below (s₁.setTop (mkF m 73 #[.val (.int (Nat.toInt32 16)), .val (.int (0 : Int32)), .val (.int (Nat.toInt32 c))] [])) t) => cn3 t (by
    refine XS.icmpYes X0.here hx rfl (pc0 := 61) (pc' := 73) rfl (hb hby d8_61) rfl (flt (fun q => absurd ((own_lt (by omega) (by omega)).mp q) (by omega))).2.2.2 (by decide) (by decide) ?_
    show Steps p.tables e below (s₁.setTop (mkF m 73 #[.val (.int (Nat.toInt32 16)), .val (.int (0 : Int32)), .val (.int (Nat.toInt32 c))] [])) _
    exact kt)
  obtain ⟨frs, hr, hrun, hended, hW, hsame⟩ := X0.leave (v := none) (fun _ => rfl)
  refine ⟨_, _, cn4 _ ?_, hrun, hended, _, _, rfl, ?_, ⟨_, rfl⟩, hW, hsame.mono (by decide) (by decide)⟩
  · exact X0.returnOut hx Bd.returns (hb hby d8_73) hr
  · show QN h0 n0 _ s₁.heap _
    rw [e0]
    exact ⟨rfl, N0, rfl⟩

theorem d7_0 : decode jdk_65_method_5_code 0 = .ok (.aload_n 0, 1) := by decide +kernel
theorem d7_1 : decode jdk_65_method_5_code 1 = .ok (.arraylength, 1) := by decide +kernel
theorem d7_2 : decode jdk_65_method_5_code 2 = .ok (.iload_n 1, 1) := by decide +kernel
theorem d7_3 : decode jdk_65_method_5_code 3 = .ok (.iload_n 2, 1) := by decide +kernel
theorem d7_4 : decode jdk_65_method_5_code 4 = .ok (.invokestatic 13, 3) := by decide +kernel
theorem d7_7 : decode jdk_65_method_5_code 7 = .ok (.aload_n 0, 1) := by decide +kernel
theorem d7_8 : decode jdk_65_method_5_code 8 = .ok (.iconst 0, 1) := by decide +kernel
theorem d7_9 : decode jdk_65_method_5_code 9 = .ok (.iload_n 1, 1) := by decide +kernel
theorem d7_10 : decode jdk_65_method_5_code 10 = .ok (.iload_n 2, 1) := by decide +kernel
theorem d7_11 : decode jdk_65_method_5_code 11 = .ok (.invokestatic 19, 3) := by decide +kernel
theorem d7_14 : decode jdk_65_method_5_code 14 = .ok (.return_, 1) := by decide +kernel
theorem pd_4 : parseMethodDescriptor "(III)V" = some ⟨[.int, .int, .int], none⟩ := by decide +kernel
theorem pd_5 : parseMethodDescriptor "([JIII)V" = some ⟨[(.array .long), .int, .int, .int], none⟩ := by decide +kernel
theorem ef_7 (m : MethodId) (x0 : Addr) (x1 : Int32) (x2 : Int32) : entryFrame m #[(.ref x0), (.int x1), (.int x2)] 3 = mkF m 0 #[.val (.ref x0), .val (.int x1), .val (.int x2)] [] := by first | (simp [entryFrame, mkF, argsToLocals, Value.category]; done) | rfl
set_option maxRecDepth 65536 in
set_option maxHeartbeats 40000000 in
theorem rm7 (l : Launch) (Z : State) (a0 : Array Value) (hw : ∀ d ∈ tables_1, d.before a0 Z = true) (ws : List Jvm.Cond) (AA4 : Addr) (kA4 : ClassId) (c : Nat) (f4 : Nat → Value) (h0 : Heap) (n0 : Nat) (O0 : Old Z n0 h0) (g_AA4 : n0 ≤ AA4) (hc : c ≤ 4) (AF4 : AF Z h0 AA4 kA4 .long 16 f4) (H4 : TP4 c c f4) :
    MetFree l (⟨"java/util/Arrays", "sort", "([JII)V"⟩ : MethodName) (head1 (Jvm.Cond.code (⟨"java/util/Arrays", "sort", "([JII)V"⟩ : MethodName) jdk_65_method_5_code 3 none :: ws) ({ frames := 3, cells := 0, slots := 0, locals := 72 } : Room)) (fun aQ U => aQ = #[(.ref AA4), (.int (0 : Int32)), (.int (Nat.toInt32 c))] ∧ Z.Warmed39 U.vm ∧ U.heap = h0) (fun _ _ _ _ _ => True) (fun _ U o U' => ∃ v L, o = .returned v ∧ QS Z AA4 kA4 c h0 n0 v U'.heap L ∧ FrameEnd U o U' L ({ frames := 3, cells := 0, slots := 0, locals := 72 } : Room).cells ({ frames := 3, cells := 0, slots := 0, locals := 72 } : Room).slots) := by
  refine MetFree.of_bodySF (plainFor_of_name pn_java_util_Arrays) hisR ?_
  intro p e s m args below meth kode s₁ Bd hml0 hP hK
  obtain ⟨rfl, hZ, hh⟩ := hP
  have hx := Bd.exec
  have hby := Bd.bytes
  have hml : kode.maxLocals = 3 := hml0
  have hown : s.vm.findClass "java/util/Arrays" = some m.cls := findClass_of_methodNamed Bd.named
  have hnm := (name_of_methodNamed Bd.named Bd.method).1
  have X0 : Stand p l e ({ frames := 3, cells := 0, slots := 0, locals := 72 } : Room) s m #[(.ref AA4), (.int (0 : Int32)), (.int (Nat.toInt32 c))] below meth kode s₁ [] 0 0 := Stand.of_body Bd
  have e0 : s₁.heap = h0 := by rw [← hh, Bd.state]; rfl
  have N0 := Fr.nil n0
  have pre0 : ∀ t, Steps p.tables e below (s₁.setTop (mkF m 0 #[.val (.ref AA4), .val (.int (0 : Int32)), .val (.int (Nat.toInt32 c))] [])) t → Steps p.tables e below (s₁.setTop (entryFrame m #[(.ref AA4), (.int (0 : Int32)), (.int (Nat.toInt32 c))] 3)) t := fun t k => castTop (ef_7 m AA4 (0 : Int32) (Nat.toInt32 c)) k
  have cn1 := fun (t : State) (kt : Steps p.tables e below (s₁.setTop (mkF m 1 #[.val (.ref AA4), .val (.int (0 : Int32)), .val (.int (Nat.toInt32 c))] [(.ref AA4)])) t) => pre0 t (by
    refine XS.aloadN X0.here hx rfl (hb hby d7_0) rfl rfl ?_
    show Steps p.tables e below (s₁.setTop (mkF m 1 #[.val (.ref AA4), .val (.int (0 : Int32)), .val (.int (Nat.toInt32 c))] [(.ref AA4)])) _
    exact kt)
  have AFx2 := AF4
  obtain ⟨cl2, Ar2, q2, S2, H2⟩ := AFx2
  have cn3 := fun (t : State) (kt : Steps p.tables e below (s₁.setTop (mkF m 4 #[.val (.ref AA4), .val (.int (0 : Int32)), .val (.int (Nat.toInt32 c))] [(.int (Nat.toInt32 c)), (.int (0 : Int32)), (.int (Nat.toInt32 16))])) t) => cn1 t (by
    refine X0.arraylength hx (by rw [e0]; exact Ar2.1) (State.isArrayOf_alike hZ.alike Ar2.2.1) (g := (mkF m 1 #[.val (.ref AA4), .val (.int (0 : Int32)), .val (.int (Nat.toInt32 c))] [(.ref AA4)])) rfl rfl (hb hby d7_1) _ ?_
    rw [S2]
    show Steps p.tables e below (s₁.setTop (mkF m 2 #[.val (.ref AA4), .val (.int (0 : Int32)), .val (.int (Nat.toInt32 c))] [(.int (Nat.toInt32 16))])) _
    refine XS.iloadN X0.here hx rfl (hb hby d7_2) rfl ?_
    show Steps p.tables e below (s₁.setTop (mkF m 3 #[.val (.ref AA4), .val (.int (0 : Int32)), .val (.int (Nat.toInt32 c))] [(.int (0 : Int32)), (.int (Nat.toInt32 16))])) _
    refine XS.iloadN X0.here hx rfl (hb hby d7_3) rfl ?_
    show Steps p.tables e below (s₁.setTop (mkF m 4 #[.val (.ref AA4), .val (.int (0 : Int32)), .val (.int (Nat.toInt32 c))] [(.int (Nat.toInt32 c)), (.int (0 : Int32)), (.int (Nat.toInt32 16))])) _
    exact kt)
  obtain ⟨_, _, ⟨T4, L4, k4, n4⟩, -, X4, ⟨Lc4, hQ4, l4, y4, z4⟩, st4⟩ := Jvm.LawKit.callS X0 hx (y := (⟨"java/util/Arrays", "rangeCheck", "(III)V"⟩ : MethodName)) hown (mvT hZ (hw _ (List.mem_of_getElem? (i := 46) rfl))) (mvT hZ (hw _ (List.mem_of_getElem? (i := 47) rfl))) (mvT hZ (hw _ (List.mem_of_getElem? (i := 44) rfl))) (mvT hZ (hw _ (List.mem_of_getElem? (i := 48) rfl))) (by decide) (backOf (W := 0) (rm8 l Z a0 hw [] c h0 n0 O0 hc) hZ (hw _ (List.mem_of_getElem? (i := 48) rfl)) (hw _ (List.mem_of_getElem? (i := 44) rfl)) (by decide) (by decide)) (g := (mkF m 4 #[.val (.ref AA4), .val (.int (0 : Int32)), .val (.int (Nat.toInt32 c))] [(.int (Nat.toInt32 c)), (.int (0 : Int32)), (.int (Nat.toInt32 16))])) rfl (by rw [hml]; rfl) (argsL := [(.int (Nat.toInt32 16)), (.int (0 : Int32)), (.int (Nat.toInt32 c))]) (rest := []) (lenOf pd_4 rfl) rfl (by show 2 * 0 + _ ≤ _; exact Nat.le_of_eq rfl) (hb hby d7_4) (fun _ _ => ⟨rfl, e0, (by decide : 0 + 0 ≤ _), (by decide : 0 + 0 ≤ _)⟩)
  dsimp only [Pt.U, Pt.locs, Pt.cells, Pt.slots] at X4 l4 y4 z4 st4 hQ4
  subst l4 y4 z4
  obtain ⟨rfl, Nq4, eh4⟩ := hQ4
  have N4 := Fr.app N0 Nq4
  have cn5 := fun (t : State) (kt : Steps p.tables e below (T4.setTop (mkF m 11 #[.val (.ref AA4), .val (.int (0 : Int32)), .val (.int (Nat.toInt32 c))] [(.int (Nat.toInt32 c)), (.int (0 : Int32)), (.int (0 : Int32)), (.ref AA4)])) t) => cn3 t (by
    refine st4 _ ?_
    show Steps p.tables e below (T4.setTop (mkF m 7 #[.val (.ref AA4), .val (.int (0 : Int32)), .val (.int (Nat.toInt32 c))] [])) _
    refine XS.aloadN X4.here hx rfl (hb hby d7_7) rfl rfl ?_
    show Steps p.tables e below (T4.setTop (mkF m 8 #[.val (.ref AA4), .val (.int (0 : Int32)), .val (.int (Nat.toInt32 c))] [(.ref AA4)])) _
    refine XS.iconst X4.here hx rfl (hb hby d7_8) ?_
    show Steps p.tables e below (T4.setTop (mkF m 9 #[.val (.ref AA4), .val (.int (0 : Int32)), .val (.int (Nat.toInt32 c))] [(.int (0 : Int32)), (.ref AA4)])) _
    refine XS.iloadN X4.here hx rfl (hb hby d7_9) rfl ?_
    show Steps p.tables e below (T4.setTop (mkF m 10 #[.val (.ref AA4), .val (.int (0 : Int32)), .val (.int (Nat.toInt32 c))] [(.int (0 : Int32)), (.int (0 : Int32)), (.ref AA4)])) _
    refine XS.iloadN X4.here hx rfl (hb hby d7_10) rfl ?_
    show Steps p.tables e below (T4.setTop (mkF m 11 #[.val (.ref AA4), .val (.int (0 : Int32)), .val (.int (Nat.toInt32 c))] [(.int (Nat.toInt32 c)), (.int (0 : Int32)), (.int (0 : Int32)), (.ref AA4)])) _
    exact kt)
  obtain ⟨_, _, ⟨T6, L6, k6, n6⟩, -, X6, ⟨Lc6, hQ6, l6, y6, z6⟩, st6⟩ := Jvm.LawKit.callS X4 hx (y := (⟨"java/util/DualPivotQuicksort", "sort", "([JIII)V"⟩ : MethodName)) hown (mvT hZ (hw _ (List.mem_of_getElem? (i := 49) rfl))) (mvT hZ (hw _ (List.mem_of_getElem? (i := 50) rfl))) (mvT hZ (hw _ (List.mem_of_getElem? (i := 51) rfl))) (mvT hZ (hw _ (List.mem_of_getElem? (i := 52) rfl))) (by decide) (backOf (W := 0) (rm9 l Z a0 hw [] AA4 kA4 c f4 h0 n0 O0 g_AA4 hc AF4 H4) hZ (hw _ (List.mem_of_getElem? (i := 52) rfl)) (hw _ (List.mem_of_getElem? (i := 51) rfl)) (by decide) (by decide)) (g := (mkF m 11 #[.val (.ref AA4), .val (.int (0 : Int32)), .val (.int (Nat.toInt32 c))] [(.int (Nat.toInt32 c)), (.int (0 : Int32)), (.int (0 : Int32)), (.ref AA4)])) rfl (by rw [hml]; rfl) (argsL := [(.ref AA4), (.int (0 : Int32)), (.int (0 : Int32)), (.int (Nat.toInt32 c))]) (rest := []) (lenOf pd_5 rfl) rfl (by show 2 * 0 + _ ≤ _; exact Nat.le_of_eq rfl) (hb hby d7_11) (fun _ _ => ⟨rfl, eh4, (by decide : 0 + 0 ≤ _), (by decide : 0 + 0 ≤ _)⟩)
  dsimp only [Pt.U, Pt.locs, Pt.cells, Pt.slots] at X6 l6 y6 z6 st6 hQ6
  subst l6 y6 z6
  obtain ⟨gq6, rfl, Nq6, Kq6, Aq6, Hq6⟩ := hQ6
  have N6 := Fr.app N4 Nq6
  have K6 := Kq6
  have O6 := O0.keep K6 (allS g_AA4 all0)
  have KK6 : Keep h0 T6.heap [AA4] := (Keep.refl h0 [AA4]).trans K6 (allS (Or.inl (List.mem_of_getElem? (i := 0) rfl)) all0)
  have cn7 := fun (t : State) (kt : Steps p.tables e below (T6.setTop (mkF m 14 #[.val (.ref AA4), .val (.int (0 : Int32)), .val (.int (Nat.toInt32 c))] [])) t) => cn5 t (by
    refine st6 _ ?_
    show Steps p.tables e below (T6.setTop (mkF m 14 #[.val (.ref AA4), .val (.int (0 : Int32)), .val (.int (Nat.toInt32 c))] [])) _
    exact kt)
  obtain ⟨frs, hr, hrun, hended, hW, hsame⟩ := X6.leave (v := none) (fun _ => rfl)
  refine ⟨_, _, cn7 _ ?_, hrun, hended, _, _, rfl, ?_, ⟨_, rfl⟩, hW, hsame.mono (by decide) (by decide)⟩
  · exact X6.returnOut hx Bd.returns (hb hby d7_14) hr
  · show QS Z AA4 kA4 c h0 n0 _ T6.heap _
    exact ⟨_, rfl, N6, KK6, Aq6, Hq6⟩

theorem d14_0 : decode jdk_65_method_131_code 0 = .ok (.iload_n 1, 1) := by decide +kernel
theorem d14_1 : decode jdk_65_method_131_code 1 = .ok (.iload_n 0, 1) := by decide +kernel
theorem d14_2 : decode jdk_65_method_131_code 2 = .ok (.if_icmp .ge 35, 3) := by decide +kernel
theorem d14_37 : decode jdk_65_method_131_code 37 = .ok (.return_, 1) := by decide +kernel
theorem ef_14 (m : MethodId) (x0 : Int32) (x1 : Int32) : entryFrame m #[(.int x0), (.int x1)] 2 = mkF m 0 #[.val (.int x0), .val (.int x1)] [] := by first | (simp [entryFrame, mkF, argsToLocals, Value.category]; done) | rfl
set_option maxRecDepth 65536 in
set_option maxHeartbeats 40000000 in
theorem rm14 (l : Launch) (Z : State) (a0 : Array Value) (hw : ∀ d ∈ tables_1, d.before a0 Z = true) (ws : List Jvm.Cond) (ft c : Nat) (h0 : Heap) (n0 : Nat) (O0 : Old Z n0 h0) (hfc : ft + c ≤ 15) :
    MetFree l (⟨"java/util/Arrays", "checkLength", "(II)V"⟩ : MethodName) (head1 (Jvm.Cond.code (⟨"java/util/Arrays", "checkLength", "(II)V"⟩ : MethodName) jdk_65_method_131_code 2 none :: ws) ({ frames := 0, cells := 0, slots := 0, locals := 0 } : Room)) (fun aQ U => aQ = #[(.int (Nat.toInt32 ft)), (.int (Nat.toInt32 (ft + c)))] ∧ Z.Warmed39 U.vm ∧ U.heap = h0) (fun _ _ _ _ _ => True) (fun _ U o U' => ∃ v L, o = .returned v ∧ QN h0 n0 v U'.heap L ∧ FrameEnd U o U' L ({ frames := 0, cells := 0, slots := 0, locals := 0 } : Room).cells ({ frames := 0, cells := 0, slots := 0, locals := 0 } : Room).slots) := by
  refine MetFree.of_bodySF (plainFor_of_name pn_java_util_Arrays) hisR ?_
  intro p e s m args below meth kode s₁ Bd hml0 hP hK
  obtain ⟨rfl, hZ, hh⟩ := hP
  have hx := Bd.exec
  have hby := Bd.bytes
  have hml : kode.maxLocals = 2 := hml0
  have hown : s.vm.findClass "java/util/Arrays" = some m.cls := findClass_of_methodNamed Bd.named
  have hnm := (name_of_methodNamed Bd.named Bd.method).1
  have X0 : Stand p l e ({ frames := 0, cells := 0, slots := 0, locals := 0 } : Room) s m #[(.int (Nat.toInt32 ft)), (.int (Nat.toInt32 (ft + c)))] below meth kode s₁ [] 0 0 := Stand.of_body Bd
  have e0 : s₁.heap = h0 := by rw [← hh, Bd.state]; rfl
  have N0 := Fr.nil n0
  have pre0 : ∀ t, Steps p.tables e below (s₁.setTop (mkF m 0 #[.val (.int (Nat.toInt32 ft)), .val (.int (Nat.toInt32 (ft + c)))] [])) t → Steps p.tables e below (s₁.setTop (entryFrame m #[(.int (Nat.toInt32 ft)), (.int (Nat.toInt32 (ft + c)))] 2)) t := fun t k => castTop (ef_14 m (Nat.toInt32 ft) (Nat.toInt32 (ft + c))) k
  have cn1 := fun (t : State) (kt : Steps p.tables e below (s₁.setTop (mkF m 2 #[.val (.int (Nat.toInt32 ft)), .val (.int (Nat.toInt32 (ft + c)))] [(.int (Nat.toInt32 ft)), (.int (Nat.toInt32 (ft + c)))])) t) => pre0 t (by
    refine XS.iloadN X0.here hx rfl (hb hby d14_0) rfl ?_
    show Steps p.tables e below (s₁.setTop (mkF m 1 #[.val (.int (Nat.toInt32 ft)), .val (.int (Nat.toInt32 (ft + c)))] [(.int (Nat.toInt32 (ft + c)))])) _
    refine XS.iloadN X0.here hx rfl (hb hby d14_1) rfl ?_
    show Steps p.tables e below (s₁.setTop (mkF m 2 #[.val (.int (Nat.toInt32 ft)), .val (.int (Nat.toInt32 (ft + c)))] [(.int (Nat.toInt32 ft)), (.int (Nat.toInt32 (ft + c)))])) _
    exact kt)
  have cn2 := fun (t : State) (kt : Steps p.tables e below (s₁.setTop (mkF m 37 #[.val (.int (Nat.toInt32 ft)), .val (.int (Nat.toInt32 (ft + c)))] [])) t) => cn1 t (by
    refine XS.icmpYes X0.here hx rfl (pc0 := 2) (pc' := 37) rfl (hb hby d14_2) rfl (flt (fun q => absurd ((own_lt (by omega) (by omega)).mp q) (by omega))).2.1 (by decide) (by decide) ?_
    show Steps p.tables e below (s₁.setTop (mkF m 37 #[.val (.int (Nat.toInt32 ft)), .val (.int (Nat.toInt32 (ft + c)))] [])) _
    exact kt)
  obtain ⟨frs, hr, hrun, hended, hW, hsame⟩ := X0.leave (v := none) (fun _ => rfl)
  refine ⟨_, _, cn2 _ ?_, hrun, hended, _, _, rfl, ?_, ⟨_, rfl⟩, hW, hsame.mono (by decide) (by decide)⟩
  · exact X0.returnOut hx Bd.returns (hb hby d14_37) hr
  · show QN h0 n0 _ s₁.heap _
    rw [e0]
    exact ⟨rfl, N0, rfl⟩

theorem d15_0 : decode jdk_29_method_69_code 0 = .ok (.iload_n 0, 1) := by decide +kernel
theorem d15_1 : decode jdk_29_method_69_code 1 = .ok (.iload_n 1, 1) := by decide +kernel
theorem d15_2 : decode jdk_29_method_69_code 2 = .ok (.if_icmp .gt 7, 3) := by decide +kernel
theorem d15_5 : decode jdk_29_method_69_code 5 = .ok (.iload_n 0, 1) := by decide +kernel
theorem d15_6 : decode jdk_29_method_69_code 6 = .ok (.goto 4, 3) := by decide +kernel
theorem d15_9 : decode jdk_29_method_69_code 9 = .ok (.iload_n 1, 1) := by decide +kernel
theorem d15_10 : decode jdk_29_method_69_code 10 = .ok (.ireturn, 1) := by decide +kernel
theorem ef_15 (m : MethodId) (x0 : Int32) (x1 : Int32) : entryFrame m #[(.int x0), (.int x1)] 2 = mkF m 0 #[.val (.int x0), .val (.int x1)] [] := by first | (simp [entryFrame, mkF, argsToLocals, Value.category]; done) | rfl
set_option maxRecDepth 65536 in
set_option maxHeartbeats 40000000 in
theorem rm15 (l : Launch) (Z : State) (a0 : Array Value) (hw : ∀ d ∈ tables_1, d.before a0 Z = true) (ws : List Jvm.Cond) (p1 p2 : Int32) (h0 : Heap) (n0 : Nat) (O0 : Old Z n0 h0)  :
    MetFree l (⟨"java/lang/Math", "min", "(II)I"⟩ : MethodName) (head1 (Jvm.Cond.code (⟨"java/lang/Math", "min", "(II)I"⟩ : MethodName) jdk_29_method_69_code 2 (some .int) :: ws) ({ frames := 0, cells := 0, slots := 0, locals := 0 } : Room)) (fun aQ U => aQ = #[(.int p1), (.int p2)] ∧ Z.Warmed39 U.vm ∧ U.heap = h0) (fun _ _ _ _ _ => True) (fun _ U o U' => ∃ v L, o = .returned v ∧ QI (own_min p1 p2) h0 n0 v U'.heap L ∧ FrameEnd U o U' L ({ frames := 0, cells := 0, slots := 0, locals := 0 } : Room).cells ({ frames := 0, cells := 0, slots := 0, locals := 0 } : Room).slots) := by
  refine MetFree.of_bodySF (Jvm.Free.JP.mathPlain rfl (by decide +kernel)) hisR ?_
  intro p e s m args below meth kode s₁ Bd hml0 hP hK
  obtain ⟨rfl, hZ, hh⟩ := hP
  have hx := Bd.exec
  have hby := Bd.bytes
  have hml : kode.maxLocals = 2 := hml0
  have hown : s.vm.findClass "java/lang/Math" = some m.cls := findClass_of_methodNamed Bd.named
  have hnm := (name_of_methodNamed Bd.named Bd.method).1
  have X0 : Stand p l e ({ frames := 0, cells := 0, slots := 0, locals := 0 } : Room) s m #[(.int p1), (.int p2)] below meth kode s₁ [] 0 0 := Stand.of_body Bd
  have e0 : s₁.heap = h0 := by rw [← hh, Bd.state]; rfl
  have N0 := Fr.nil n0
  have pre0 : ∀ t, Steps p.tables e below (s₁.setTop (mkF m 0 #[.val (.int p1), .val (.int p2)] [])) t → Steps p.tables e below (s₁.setTop (entryFrame m #[(.int p1), (.int p2)] 2)) t := fun t k => castTop (ef_15 m p1 p2) k
  have cn1 := fun (t : State) (kt : Steps p.tables e below (s₁.setTop (mkF m 2 #[.val (.int p1), .val (.int p2)] [(.int p2), (.int p1)])) t) => pre0 t (by
    refine XS.iloadN X0.here hx rfl (hb hby d15_0) rfl ?_
    show Steps p.tables e below (s₁.setTop (mkF m 1 #[.val (.int p1), .val (.int p2)] [(.int p1)])) _
    refine XS.iloadN X0.here hx rfl (hb hby d15_1) rfl ?_
    show Steps p.tables e below (s₁.setTop (mkF m 2 #[.val (.int p1), .val (.int p2)] [(.int p2), (.int p1)])) _
    exact kt)
  by_cases hc2_2 : p2 < p1
  · have cn3 := fun (t : State) (kt : Steps p.tables e below (s₁.setTop (mkF m 10 #[.val (.int p1), .val (.int p2)] [(.int p2)])) t) => cn1 t (by
      refine XS.icmpYes X0.here hx rfl (pc0 := 2) (pc' := 9) rfl (hb hby d15_2) rfl (tlt hc2_2).2.2.1 (by decide) (by decide) ?_
      show Steps p.tables e below (s₁.setTop (mkF m 9 #[.val (.int p1), .val (.int p2)] [])) _
      refine XS.iloadN X0.here hx rfl (hb hby d15_9) rfl ?_
      show Steps p.tables e below (s₁.setTop (mkF m 10 #[.val (.int p1), .val (.int p2)] [(.int p2)])) _
      exact kt)
    obtain ⟨frs, hr, hrun, hended, hW, hsame⟩ := X0.leave (v := some (.int p2)) (fun h => by rw [Bd.returns] at h; cases h)
    refine ⟨_, _, cn3 _ ?_, hrun, hended, _, _, rfl, ?_, ⟨_, rfl⟩, hW, hsame.mono (by decide) (by decide)⟩
    · exact retI X0 hx Bd.returns (hb hby d15_10) hr
    · show QI (own_min p1 p2) h0 n0 _ s₁.heap _
      rw [e0]
      exact ⟨by simp [own_min, hc2_2], N0, rfl⟩
  · have cn4 := fun (t : State) (kt : Steps p.tables e below (s₁.setTop (mkF m 10 #[.val (.int p1), .val (.int p2)] [(.int p1)])) t) => cn1 t (by
      refine XS.icmpNo X0.here hx rfl (hb hby d15_2) rfl (flt hc2_2).2.2.1 ?_
      show Steps p.tables e below (s₁.setTop (mkF m 5 #[.val (.int p1), .val (.int p2)] [])) _
      refine XS.iloadN X0.here hx rfl (hb hby d15_5) rfl ?_
      show Steps p.tables e below (s₁.setTop (mkF m 6 #[.val (.int p1), .val (.int p2)] [(.int p1)])) _
      refine XS.goto X0.here hx rfl (pc0 := 6) (pc' := 10) rfl (hb hby d15_6) (by decide) (by decide) ?_
      show Steps p.tables e below (s₁.setTop (mkF m 10 #[.val (.int p1), .val (.int p2)] [(.int p1)])) _
      exact kt)
    obtain ⟨frs, hr, hrun, hended, hW, hsame⟩ := X0.leave (v := some (.int p1)) (fun h => by rw [Bd.returns] at h; cases h)
    refine ⟨_, _, cn4 _ ?_, hrun, hended, _, _, rfl, ?_, ⟨_, rfl⟩, hW, hsame.mono (by decide) (by decide)⟩
    · exact retI X0 hx Bd.returns (hb hby d15_10) hr
    · show QI (own_min p1 p2) h0 n0 _ s₁.heap _
      rw [e0]
      exact ⟨by simp [own_min, hc2_2], N0, rfl⟩

def QR (Z : State) (M c : Nat) (h0 : Heap) (n0 : Nat) (v : Option Value) (h : Heap) (L : List Loc) : Prop := ∃ (r : Addr) (kr : ClassId) (fr : Nat → Value), v = some (.ref r) ∧ Fr n0 L ∧ Keep h0 h [] ∧ h0.size ≤ r ∧ AF Z h r kr .double c fr ∧ ∀ j, j < c → ∃ v : Int64, fr j = .double (FP.l2d v) ∧ 0 ≤ v.toInt ∧ v.toInt ≤ M
theorem own_arvD {Z : State} {h : Heap} {a : Addr} {k : ClassId} {f : Nat → Value} {M : Nat} (F : AF Z h a k .double 16 f) (H : TP3 M f) : Arv Z h a k .double (16 : Int32) ((List.range 16).map f) (.double 0) := by
  obtain ⟨c, A, q, S, G⟩ := F
  have key : ∀ i, i < c.slots.size → ((List.range 16).map f).getD i (.double 0) = f i := fun i hi => by
    rw [S] at hi
    simp [List.getD_eq_getElem?_getD, hi]
  refine ⟨c, A, q, S.trans (by decide), by decide, fun i hi => ?_, fun i hi => ?_⟩
  · rw [key i hi]; exact G i (by omega)
  · rw [key i hi]
    obtain ⟨v, hv, -⟩ := H i (by omega)
    rw [hv]
    rfl
theorem own_cpy {f : Nat → Value} {ft c : Nat} (h : ft + c ≤ 15) {j : Nat} (hj : j < c) : ((([] : List Value) ++ List.replicate c (Value.double 0)).take 0 ++ ((List.range c).map fun i => ((List.range 16).map f).getD (ft + i) (Value.double 0)) ++ (([] : List Value) ++ List.replicate c (Value.double 0)).drop (0 + c)).getD j (Value.double 0) = f (ft + j) := by
  have h16 : ft + j < 16 := by omega
  simp [List.getD_eq_getElem?_getD, List.getElem?_append, hj, h16]

theorem own_s16 {ft c : Nat} (h : ft + c ≤ 15) : (Nat.toInt32 16) - (Nat.toInt32 ft) = (Nat.toInt32 (16 - ft)) := by
  have e := own_sub (i := ft) (j := 16 - ft) (by omega)
  rwa [show ft + (16 - ft) = 16 by omega] at e

theorem d13_0 : decode jdk_65_method_145_code 0 = .ok (.iload_n 1, 1) := by decide +kernel
theorem d13_1 : decode jdk_65_method_145_code 1 = .ok (.iload_n 2, 1) := by decide +kernel
theorem d13_2 : decode jdk_65_method_145_code 2 = .ok (.invokestatic 343, 3) := by decide +kernel
theorem d13_5 : decode jdk_65_method_145_code 5 = .ok (.iload_n 2, 1) := by decide +kernel
theorem d13_6 : decode jdk_65_method_145_code 6 = .ok (.iload_n 1, 1) := by decide +kernel
theorem d13_7 : decode jdk_65_method_145_code 7 = .ok (.isub, 1) := by decide +kernel
theorem d13_8 : decode jdk_65_method_145_code 8 = .ok (.istore_n 3, 1) := by decide +kernel
theorem d13_9 : decode jdk_65_method_145_code 9 = .ok (.iload_n 3, 1) := by decide +kernel
theorem d13_10 : decode jdk_65_method_145_code 10 = .ok (.newarray .double, 2) := by decide +kernel
theorem d13_12 : decode jdk_65_method_145_code 12 = .ok (.astore 4, 2) := by decide +kernel
theorem d13_14 : decode jdk_65_method_145_code 14 = .ok (.aload_n 0, 1) := by decide +kernel
theorem d13_15 : decode jdk_65_method_145_code 15 = .ok (.iload_n 1, 1) := by decide +kernel
theorem d13_16 : decode jdk_65_method_145_code 16 = .ok (.aload 4, 2) := by decide +kernel
theorem d13_18 : decode jdk_65_method_145_code 18 = .ok (.iconst 0, 1) := by decide +kernel
theorem d13_19 : decode jdk_65_method_145_code 19 = .ok (.aload_n 0, 1) := by decide +kernel
theorem d13_20 : decode jdk_65_method_145_code 20 = .ok (.arraylength, 1) := by decide +kernel
theorem d13_21 : decode jdk_65_method_145_code 21 = .ok (.iload_n 1, 1) := by decide +kernel
theorem d13_22 : decode jdk_65_method_145_code 22 = .ok (.isub, 1) := by decide +kernel
theorem d13_23 : decode jdk_65_method_145_code 23 = .ok (.iload_n 3, 1) := by decide +kernel
theorem d13_24 : decode jdk_65_method_145_code 24 = .ok (.invokestatic 304, 3) := by decide +kernel
theorem d13_27 : decode jdk_65_method_145_code 27 = .ok (.invokestatic 150, 3) := by decide +kernel
theorem d13_30 : decode jdk_65_method_145_code 30 = .ok (.aload 4, 2) := by decide +kernel
theorem d13_32 : decode jdk_65_method_145_code 32 = .ok (.areturn, 1) := by decide +kernel
theorem pd_7 : parseMethodDescriptor "(II)I" = some ⟨[.int, .int], some .int⟩ := by decide +kernel
theorem pd_6 : parseMethodDescriptor "(II)V" = some ⟨[.int, .int], none⟩ := by decide +kernel
theorem ef_13 (m : MethodId) (x0 : Addr) (x1 : Int32) (x2 : Int32) : entryFrame m #[(.ref x0), (.int x1), (.int x2)] 5 = mkF m 0 #[.val (.ref x0), .val (.int x1), .val (.int x2), .unset, .unset] [] := by first | (simp [entryFrame, mkF, argsToLocals, Value.category]; done) | rfl
set_option maxRecDepth 65536 in
set_option maxHeartbeats 40000000 in
theorem rm13 (l : Launch) (Z : State) (a0 : Array Value) (hw : ∀ d ∈ tables_1, d.before a0 Z = true) (ws : List Jvm.Cond) (AA3 : Addr) (kA3 : ClassId) (f3 : Nat → Value) (ft c M : Nat) (h0 : Heap) (n0 : Nat) (O0 : Old Z n0 h0) (hc : c ≤ 4) (hfc : ft + c ≤ 15) (AF3 : AF Z h0 AA3 kA3 .double 16 f3) (HT : TP3 M f3) :
    MetFree l (⟨"java/util/Arrays", "copyOfRangeDouble", "([DII)[D"⟩ : MethodName) (head1 (Jvm.Cond.code (⟨"java/util/Arrays", "copyOfRangeDouble", "([DII)[D"⟩ : MethodName) jdk_65_method_145_code 5 (some (.array .double)) :: ws) ({ frames := 1, cells := 1, slots := 4, locals := 40 } : Room)) (fun aQ U => aQ = #[(.ref AA3), (.int (Nat.toInt32 ft)), (.int (Nat.toInt32 (ft + c)))] ∧ Z.Warmed39 U.vm ∧ U.heap = h0) (fun _ _ _ _ _ => True) (fun _ U o U' => ∃ v L, o = .returned v ∧ QR Z M c h0 n0 v U'.heap L ∧ FrameEnd U o U' L ({ frames := 1, cells := 1, slots := 4, locals := 40 } : Room).cells ({ frames := 1, cells := 1, slots := 4, locals := 40 } : Room).slots) := by
  refine MetFree.of_bodySF (plainFor_of_name pn_java_util_Arrays) hisR ?_
  intro p e s m args below meth kode s₁ Bd hml0 hP hK
  obtain ⟨rfl, hZ, hh⟩ := hP
  have hx := Bd.exec
  have hby := Bd.bytes
  have hml : kode.maxLocals = 5 := hml0
  have hown : s.vm.findClass "java/util/Arrays" = some m.cls := findClass_of_methodNamed Bd.named
  have hnm := (name_of_methodNamed Bd.named Bd.method).1
  have X0 : Stand p l e ({ frames := 1, cells := 1, slots := 4, locals := 40 } : Room) s m #[(.ref AA3), (.int (Nat.toInt32 ft)), (.int (Nat.toInt32 (ft + c)))] below meth kode s₁ [] 0 0 := Stand.of_body Bd
  have e0 : s₁.heap = h0 := by rw [← hh, Bd.state]; rfl
  have N0 := Fr.nil n0
  have pre0 : ∀ t, Steps p.tables e below (s₁.setTop (mkF m 0 #[.val (.ref AA3), .val (.int (Nat.toInt32 ft)), .val (.int (Nat.toInt32 (ft + c))), .unset, .unset] [])) t → Steps p.tables e below (s₁.setTop (entryFrame m #[(.ref AA3), (.int (Nat.toInt32 ft)), (.int (Nat.toInt32 (ft + c)))] 5)) t := fun t k => castTop (ef_13 m AA3 (Nat.toInt32 ft) (Nat.toInt32 (ft + c))) k
  have hx2 := own_ix (i := c) (by omega)
  have cn1 := fun (t : State) (kt : Steps p.tables e below (s₁.setTop (mkF m 2 #[.val (.ref AA3), .val (.int (Nat.toInt32 ft)), .val (.int (Nat.toInt32 (ft + c))), .unset, .unset] [(.int (Nat.toInt32 (ft + c))), (.int (Nat.toInt32 ft))])) t) => pre0 t (by
    refine XS.iloadN X0.here hx rfl (hb hby d13_0) rfl ?_
    show Steps p.tables e below (s₁.setTop (mkF m 1 #[.val (.ref AA3), .val (.int (Nat.toInt32 ft)), .val (.int (Nat.toInt32 (ft + c))), .unset, .unset] [(.int (Nat.toInt32 ft))])) _
    refine XS.iloadN X0.here hx rfl (hb hby d13_1) rfl ?_
    show Steps p.tables e below (s₁.setTop (mkF m 2 #[.val (.ref AA3), .val (.int (Nat.toInt32 ft)), .val (.int (Nat.toInt32 (ft + c))), .unset, .unset] [(.int (Nat.toInt32 (ft + c))), (.int (Nat.toInt32 ft))])) _
    exact kt)
  obtain ⟨_, _, ⟨T2, L2, k2, n2⟩, -, X2, ⟨Lc2, hQ2, l2, y2, z2⟩, st2⟩ := Jvm.LawKit.callS X0 hx (y := (⟨"java/util/Arrays", "checkLength", "(II)V"⟩ : MethodName)) hown (mvT hZ (hw _ (List.mem_of_getElem? (i := 65) rfl))) (mvT hZ (hw _ (List.mem_of_getElem? (i := 66) rfl))) (mvT hZ (hw _ (List.mem_of_getElem? (i := 44) rfl))) (mvT hZ (hw _ (List.mem_of_getElem? (i := 67) rfl))) (by decide) (backOf (W := 0) (rm14 l Z a0 hw [] ft c h0 n0 O0 hfc) hZ (hw _ (List.mem_of_getElem? (i := 67) rfl)) (hw _ (List.mem_of_getElem? (i := 44) rfl)) (by decide) (by decide)) (g := (mkF m 2 #[.val (.ref AA3), .val (.int (Nat.toInt32 ft)), .val (.int (Nat.toInt32 (ft + c))), .unset, .unset] [(.int (Nat.toInt32 (ft + c))), (.int (Nat.toInt32 ft))])) rfl (by rw [hml]; rfl) (argsL := [(.int (Nat.toInt32 ft)), (.int (Nat.toInt32 (ft + c)))]) (rest := []) (lenOf pd_6 rfl) rfl (by show 2 * 0 + _ ≤ _; exact Nat.le_of_eq rfl) (hb hby d13_2) (fun _ _ => ⟨rfl, e0, (by decide : 0 + 0 ≤ _), (by decide : 0 + 0 ≤ _)⟩)
  dsimp only [Pt.U, Pt.locs, Pt.cells, Pt.slots] at X2 l2 y2 z2 st2 hQ2
  subst l2 y2 z2
  obtain ⟨rfl, Nq2, eh2⟩ := hQ2
  have N2 := Fr.app N0 Nq2
  have cn3 := fun (t : State) (kt : Steps p.tables e below (T2.setTop (mkF m 9 #[.val (.ref AA3), .val (.int (Nat.toInt32 ft)), .val (.int (Nat.toInt32 (ft + c))), .val (.int ((Nat.toInt32 (ft + c)) - (Nat.toInt32 ft))), .unset] [])) t) => cn1 t (by
    refine st2 _ ?_
    show Steps p.tables e below (T2.setTop (mkF m 5 #[.val (.ref AA3), .val (.int (Nat.toInt32 ft)), .val (.int (Nat.toInt32 (ft + c))), .unset, .unset] [])) _
    refine XS.iloadN X2.here hx rfl (hb hby d13_5) rfl ?_
    show Steps p.tables e below (T2.setTop (mkF m 6 #[.val (.ref AA3), .val (.int (Nat.toInt32 ft)), .val (.int (Nat.toInt32 (ft + c))), .unset, .unset] [(.int (Nat.toInt32 (ft + c)))])) _
    refine XS.iloadN X2.here hx rfl (hb hby d13_6) rfl ?_
    show Steps p.tables e below (T2.setTop (mkF m 7 #[.val (.ref AA3), .val (.int (Nat.toInt32 ft)), .val (.int (Nat.toInt32 (ft + c))), .unset, .unset] [(.int (Nat.toInt32 ft)), (.int (Nat.toInt32 (ft + c)))])) _
    refine XS.isub X2.here hx rfl (hb hby d13_7) rfl ?_
    show Steps p.tables e below (T2.setTop (mkF m 8 #[.val (.ref AA3), .val (.int (Nat.toInt32 ft)), .val (.int (Nat.toInt32 (ft + c))), .unset, .unset] [(.int ((Nat.toInt32 (ft + c)) - (Nat.toInt32 ft)))])) _
    refine XS.istoreN X2.here hx rfl (hb hby d13_8) rfl (l' := #[.val (.ref AA3), .val (.int (Nat.toInt32 ft)), .val (.int (Nat.toInt32 (ft + c))), .val (.int ((Nat.toInt32 (ft + c)) - (Nat.toInt32 ft))), .unset]) rfl ?_
    show Steps p.tables e below (T2.setTop (mkF m 9 #[.val (.ref AA3), .val (.int (Nat.toInt32 ft)), .val (.int (Nat.toInt32 (ft + c))), .val (.int ((Nat.toInt32 (ft + c)) - (Nat.toInt32 ft))), .unset] [])) _
    exact kt)
  have cn4 : ∀ t, Steps p.tables e below (T2.setTop (mkF m 9 #[.val (.ref AA3), .val (.int (Nat.toInt32 ft)), .val (.int (Nat.toInt32 (ft + c))), .val (.int (Nat.toInt32 c)), .unset] [])) t → Steps p.tables e below (s₁.setTop (entryFrame m #[(.ref AA3), (.int (Nat.toInt32 ft)), (.int (Nat.toInt32 (ft + c)))] 5)) t := by have q := cn3; rw [(id (own_sub (by omega)) : ((Nat.toInt32 (ft + c)) - (Nat.toInt32 ft)) = (Nat.toInt32 c))] at q; exact q
  have cn5 := fun (t : State) (kt : Steps p.tables e below (T2.setTop (mkF m 10 #[.val (.ref AA3), .val (.int (Nat.toInt32 ft)), .val (.int (Nat.toInt32 (ft + c))), .val (.int (Nat.toInt32 c)), .unset] [(.int (Nat.toInt32 c))])) t) => cn4 t (by
    refine XS.iloadN X2.here hx rfl (hb hby d13_9) rfl ?_
    show Steps p.tables e below (T2.setTop (mkF m 10 #[.val (.ref AA3), .val (.int (Nat.toInt32 ft)), .val (.int (Nat.toInt32 (ft + c))), .val (.int (Nat.toInt32 c)), .unset] [(.int (Nat.toInt32 c))])) _
    exact kt)
  obtain ⟨T6, h6, k6, X6, e6, E6, A6, st6⟩ := newP X2 hx hZ (hw _ (List.mem_of_getElem? (i := 14) rfl)) eh2 (g := (mkF m 10 #[.val (.ref AA3), .val (.int (Nat.toInt32 ft)), .val (.int (Nat.toInt32 (ft + c))), .val (.int (Nat.toInt32 c)), .unset] [(.int (Nat.toInt32 c))])) rfl (hb hby d13_10) rfl hx2.1 (cap := 4) (by rw [hx2.2]; exact hc) (by decide) (by decide) (by decide)
  obtain ⟨b6, g6⟩ : ∃ z, z = h0.size := ⟨_, rfl⟩
  rw [← g6] at A6 st6
  have ne_AA3_b6 : AA3 ≠ b6 := Nat.ne_of_lt (Nat.lt_of_lt_of_le AF3.lt (Nat.le_of_eq g6.symm))
  have sz_b6 : h0.size ≤ b6 := Nat.le_trans (Keep.refl h0 []).1 (Nat.le_of_eq g6.symm)
  have g_b6 : n0 ≤ b6 := Nat.le_trans (O0.1 ▸ O0.2.1) sz_b6
  have AF3_e6 := AF3.ext E6
  have O6 := O0.ext E6
  have K6 : Keep h0 h6 [] := (Keep.refl h0 []).ext E6
  have V6 : Arv Z h6 b6 k6 .double (Nat.toInt32 c) ([] ++ List.replicate c (.double 0)) (.double 0) := (Arv.new A6 hx2.1).pad (pad_rep [] (.double 0) c)
  have cn7 := fun (t : State) (kt : Steps p.tables e below (T6.setTop (mkF m 20 #[.val (.ref AA3), .val (.int (Nat.toInt32 ft)), .val (.int (Nat.toInt32 (ft + c))), .val (.int (Nat.toInt32 c)), .val (.ref b6)] [(.ref AA3), (.int (0 : Int32)), (.ref b6), (.int (Nat.toInt32 ft)), (.ref AA3)])) t) => cn5 t (by
    refine st6 _ ?_
    show Steps p.tables e below (T6.setTop (mkF m 12 #[.val (.ref AA3), .val (.int (Nat.toInt32 ft)), .val (.int (Nat.toInt32 (ft + c))), .val (.int (Nat.toInt32 c)), .unset] [(.ref b6)])) _
    refine XS.astore X6.here hx rfl (hb hby d13_12) rfl rfl (l' := #[.val (.ref AA3), .val (.int (Nat.toInt32 ft)), .val (.int (Nat.toInt32 (ft + c))), .val (.int (Nat.toInt32 c)), .val (.ref b6)]) rfl ?_
    show Steps p.tables e below (T6.setTop (mkF m 14 #[.val (.ref AA3), .val (.int (Nat.toInt32 ft)), .val (.int (Nat.toInt32 (ft + c))), .val (.int (Nat.toInt32 c)), .val (.ref b6)] [])) _
    refine XS.aloadN X6.here hx rfl (hb hby d13_14) rfl rfl ?_
    show Steps p.tables e below (T6.setTop (mkF m 15 #[.val (.ref AA3), .val (.int (Nat.toInt32 ft)), .val (.int (Nat.toInt32 (ft + c))), .val (.int (Nat.toInt32 c)), .val (.ref b6)] [(.ref AA3)])) _
    refine XS.iloadN X6.here hx rfl (hb hby d13_15) rfl ?_
    show Steps p.tables e below (T6.setTop (mkF m 16 #[.val (.ref AA3), .val (.int (Nat.toInt32 ft)), .val (.int (Nat.toInt32 (ft + c))), .val (.int (Nat.toInt32 c)), .val (.ref b6)] [(.int (Nat.toInt32 ft)), (.ref AA3)])) _
    refine XS.aload X6.here hx rfl (hb hby d13_16) rfl rfl ?_
    show Steps p.tables e below (T6.setTop (mkF m 18 #[.val (.ref AA3), .val (.int (Nat.toInt32 ft)), .val (.int (Nat.toInt32 (ft + c))), .val (.int (Nat.toInt32 c)), .val (.ref b6)] [(.ref b6), (.int (Nat.toInt32 ft)), (.ref AA3)])) _
    refine XS.iconst X6.here hx rfl (hb hby d13_18) ?_
    show Steps p.tables e below (T6.setTop (mkF m 19 #[.val (.ref AA3), .val (.int (Nat.toInt32 ft)), .val (.int (Nat.toInt32 (ft + c))), .val (.int (Nat.toInt32 c)), .val (.ref b6)] [(.int (0 : Int32)), (.ref b6), (.int (Nat.toInt32 ft)), (.ref AA3)])) _
    refine XS.aloadN X6.here hx rfl (hb hby d13_19) rfl rfl ?_
    show Steps p.tables e below (T6.setTop (mkF m 20 #[.val (.ref AA3), .val (.int (Nat.toInt32 ft)), .val (.int (Nat.toInt32 (ft + c))), .val (.int (Nat.toInt32 c)), .val (.ref b6)] [(.ref AA3), (.int (0 : Int32)), (.ref b6), (.int (Nat.toInt32 ft)), (.ref AA3)])) _
    exact kt)
  have AFx8 := AF3_e6
  obtain ⟨cl8, Ar8, q8, S8, H8⟩ := AFx8
  have cn9 := fun (t : State) (kt : Steps p.tables e below (T6.setTop (mkF m 23 #[.val (.ref AA3), .val (.int (Nat.toInt32 ft)), .val (.int (Nat.toInt32 (ft + c))), .val (.int (Nat.toInt32 c)), .val (.ref b6)] [(.int ((Nat.toInt32 16) - (Nat.toInt32 ft))), (.int (0 : Int32)), (.ref b6), (.int (Nat.toInt32 ft)), (.ref AA3)])) t) => cn7 t (by
    refine X6.arraylength hx (by rw [e6]; exact Ar8.1) (State.isArrayOf_alike hZ.alike Ar8.2.1) (g := (mkF m 20 #[.val (.ref AA3), .val (.int (Nat.toInt32 ft)), .val (.int (Nat.toInt32 (ft + c))), .val (.int (Nat.toInt32 c)), .val (.ref b6)] [(.ref AA3), (.int (0 : Int32)), (.ref b6), (.int (Nat.toInt32 ft)), (.ref AA3)])) rfl rfl (hb hby d13_20) _ ?_
    rw [S8]
    show Steps p.tables e below (T6.setTop (mkF m 21 #[.val (.ref AA3), .val (.int (Nat.toInt32 ft)), .val (.int (Nat.toInt32 (ft + c))), .val (.int (Nat.toInt32 c)), .val (.ref b6)] [(.int (Nat.toInt32 16)), (.int (0 : Int32)), (.ref b6), (.int (Nat.toInt32 ft)), (.ref AA3)])) _
    refine XS.iloadN X6.here hx rfl (hb hby d13_21) rfl ?_
    show Steps p.tables e below (T6.setTop (mkF m 22 #[.val (.ref AA3), .val (.int (Nat.toInt32 ft)), .val (.int (Nat.toInt32 (ft + c))), .val (.int (Nat.toInt32 c)), .val (.ref b6)] [(.int (Nat.toInt32 ft)), (.int (Nat.toInt32 16)), (.int (0 : Int32)), (.ref b6), (.int (Nat.toInt32 ft)), (.ref AA3)])) _
    refine XS.isub X6.here hx rfl (hb hby d13_22) rfl ?_
    show Steps p.tables e below (T6.setTop (mkF m 23 #[.val (.ref AA3), .val (.int (Nat.toInt32 ft)), .val (.int (Nat.toInt32 (ft + c))), .val (.int (Nat.toInt32 c)), .val (.ref b6)] [(.int ((Nat.toInt32 16) - (Nat.toInt32 ft))), (.int (0 : Int32)), (.ref b6), (.int (Nat.toInt32 ft)), (.ref AA3)])) _
    exact kt)
  have cn10 : ∀ t, Steps p.tables e below (T6.setTop (mkF m 23 #[.val (.ref AA3), .val (.int (Nat.toInt32 ft)), .val (.int (Nat.toInt32 (ft + c))), .val (.int (Nat.toInt32 c)), .val (.ref b6)] [(.int (Nat.toInt32 (16 - ft))), (.int (0 : Int32)), (.ref b6), (.int (Nat.toInt32 ft)), (.ref AA3)])) t → Steps p.tables e below (s₁.setTop (entryFrame m #[(.ref AA3), (.int (Nat.toInt32 ft)), (.int (Nat.toInt32 (ft + c)))] 5)) t := by have q := cn9; rw [(id (own_s16 hfc) : ((Nat.toInt32 16) - (Nat.toInt32 ft)) = (Nat.toInt32 (16 - ft)))] at q; exact q
  have cn11 := fun (t : State) (kt : Steps p.tables e below (T6.setTop (mkF m 24 #[.val (.ref AA3), .val (.int (Nat.toInt32 ft)), .val (.int (Nat.toInt32 (ft + c))), .val (.int (Nat.toInt32 c)), .val (.ref b6)] [(.int (Nat.toInt32 c)), (.int (Nat.toInt32 (16 - ft))), (.int (0 : Int32)), (.ref b6), (.int (Nat.toInt32 ft)), (.ref AA3)])) t) => cn10 t (by
    refine XS.iloadN X6.here hx rfl (hb hby d13_23) rfl ?_
    show Steps p.tables e below (T6.setTop (mkF m 24 #[.val (.ref AA3), .val (.int (Nat.toInt32 ft)), .val (.int (Nat.toInt32 (ft + c))), .val (.int (Nat.toInt32 c)), .val (.ref b6)] [(.int (Nat.toInt32 c)), (.int (Nat.toInt32 (16 - ft))), (.int (0 : Int32)), (.ref b6), (.int (Nat.toInt32 ft)), (.ref AA3)])) _
    exact kt)
  obtain ⟨_, _, ⟨T12, L12, k12, n12⟩, -, X12, ⟨Lc12, hQ12, l12, y12, z12⟩, st12⟩ := Jvm.LawKit.callS X6 hx (y := (⟨"java/lang/Math", "min", "(II)I"⟩ : MethodName)) hown (mvT hZ (hw _ (List.mem_of_getElem? (i := 68) rfl))) (mvT hZ (hw _ (List.mem_of_getElem? (i := 69) rfl))) (mvT hZ (hw _ (List.mem_of_getElem? (i := 70) rfl))) (mvT hZ (hw _ (List.mem_of_getElem? (i := 71) rfl))) (by decide) (backOf (W := 4) (rm15 l Z a0 hw [] (Nat.toInt32 (16 - ft)) (Nat.toInt32 c) h6 n0 O6) hZ (hw _ (List.mem_of_getElem? (i := 71) rfl)) (hw _ (List.mem_of_getElem? (i := 70) rfl)) (by decide) (by decide)) (g := (mkF m 24 #[.val (.ref AA3), .val (.int (Nat.toInt32 ft)), .val (.int (Nat.toInt32 (ft + c))), .val (.int (Nat.toInt32 c)), .val (.ref b6)] [(.int (Nat.toInt32 c)), (.int (Nat.toInt32 (16 - ft))), (.int (0 : Int32)), (.ref b6), (.int (Nat.toInt32 ft)), (.ref AA3)])) rfl (by rw [hml]; rfl) (argsL := [(.int (Nat.toInt32 (16 - ft))), (.int (Nat.toInt32 c))]) (rest := [(.int (0 : Int32)), (.ref b6), (.int (Nat.toInt32 ft)), (.ref AA3)]) (lenOf pd_7 rfl) rfl (by show 2 * 0 + _ ≤ _; exact Nat.le_of_eq rfl) (hb hby d13_24) (fun _ _ => ⟨rfl, e6, (by decide : 1 + 0 ≤ _), (by decide : 4 + 0 ≤ _)⟩)
  dsimp only [Pt.U, Pt.locs, Pt.cells, Pt.slots] at X12 l12 y12 z12 st12 hQ12
  subst l12 y12 z12
  obtain ⟨rfl, Nq12, eh12⟩ := hQ12
  have N12 := Fr.app N2 Nq12
  have cn13 := fun (t : State) (kt : Steps p.tables e below (T12.setTop (mkF m 27 #[.val (.ref AA3), .val (.int (Nat.toInt32 ft)), .val (.int (Nat.toInt32 (ft + c))), .val (.int (Nat.toInt32 c)), .val (.ref b6)] [(.int (own_min (Nat.toInt32 (16 - ft)) (Nat.toInt32 c))), (.int (0 : Int32)), (.ref b6), (.int (Nat.toInt32 ft)), (.ref AA3)])) t) => cn11 t (by
    refine st12 _ ?_
    show Steps p.tables e below (T12.setTop (mkF m 27 #[.val (.ref AA3), .val (.int (Nat.toInt32 ft)), .val (.int (Nat.toInt32 (ft + c))), .val (.int (Nat.toInt32 c)), .val (.ref b6)] [(.int (own_min (Nat.toInt32 (16 - ft)) (Nat.toInt32 c))), (.int (0 : Int32)), (.ref b6), (.int (Nat.toInt32 ft)), (.ref AA3)])) _
    exact kt)
  have cn14 : ∀ t, Steps p.tables e below (T12.setTop (mkF m 27 #[.val (.ref AA3), .val (.int (Nat.toInt32 ft)), .val (.int (Nat.toInt32 (ft + c))), .val (.int (Nat.toInt32 c)), .val (.ref b6)] [(.int (Nat.toInt32 c)), (.int (0 : Int32)), (.ref b6), (.int (Nat.toInt32 ft)), (.ref AA3)])) t → Steps p.tables e below (s₁.setTop (entryFrame m #[(.ref AA3), (.int (Nat.toInt32 ft)), (.int (Nat.toInt32 (ft + c)))] 5)) t := by have q := cn13; rw [(id (own_minc (by omega) (by omega)) : (own_min (Nat.toInt32 (16 - ft)) (Nat.toInt32 c)) = (Nat.toInt32 c))] at q; exact q
  have VS := own_arvD AF3_e6 HT
  have hxf := own_ix (i := ft) (by omega)
  obtain ⟨T15, h15, L15, X15, e15, N15, Kq15, VD15, st15⟩ := cpA X12 hx hZ hown (hw _ (List.mem_of_getElem? (i := 72) rfl)) (hw _ (List.mem_of_getElem? (i := 75) rfl)) (hw _ (List.mem_of_getElem? (i := 73) rfl)) (hw _ (List.mem_of_getElem? (i := 74) rfl)) eh12 VS V6 (Or.inl ⟨rfl, rfl⟩) hxf.1 (by decide) hx2.1 (by rw [hxf.2, hx2.2]; show ft + c ≤ 16; omega) (by rw [hx2.2]; exact Nat.le_of_eq (Nat.zero_add c)) rfl (by rw [hx2.2]; simp) N12 g_b6 (g := (mkF m 27 #[.val (.ref AA3), .val (.int (Nat.toInt32 ft)), .val (.int (Nat.toInt32 (ft + c))), .val (.int (Nat.toInt32 c)), .val (.ref b6)] [(.int (Nat.toInt32 c)), (.int (0 : Int32)), (.ref b6), (.int (Nat.toInt32 ft)), (.ref AA3)])) rfl (by rw [hml]; rfl) rfl (hb hby d13_27) (by decide) (W := 0) (by show 2 * 0 + _ ≤ _; exact Nat.le_of_eq rfl) (by decide)
  have K15 := Kq15
  have AF3_e15 := AF3_e6.keep K15 (ninS ne_AA3_b6 nin0)
  have O15 := O6.keep K15 (allS g_b6 all0)
  have KK15 : Keep h0 h15 [] := K6.trans K15 (allS (Or.inr sz_b6) all0)
  have cn16 := fun (t : State) (kt : Steps p.tables e below (T15.setTop (mkF m 32 #[.val (.ref AA3), .val (.int (Nat.toInt32 ft)), .val (.int (Nat.toInt32 (ft + c))), .val (.int (Nat.toInt32 c)), .val (.ref b6)] [(.ref b6)])) t) => cn14 t (by
    refine st15 _ ?_
    show Steps p.tables e below (T15.setTop (mkF m 30 #[.val (.ref AA3), .val (.int (Nat.toInt32 ft)), .val (.int (Nat.toInt32 (ft + c))), .val (.int (Nat.toInt32 c)), .val (.ref b6)] [])) _
    refine XS.aload X15.here hx rfl (hb hby d13_30) rfl rfl ?_
    show Steps p.tables e below (T15.setTop (mkF m 32 #[.val (.ref AA3), .val (.int (Nat.toInt32 ft)), .val (.int (Nat.toInt32 (ft + c))), .val (.int (Nat.toInt32 c)), .val (.ref b6)] [(.ref b6)])) _
    exact kt)
  obtain ⟨frs, hr, hrun, hended, hW, hsame⟩ := X15.leave (v := some (.ref b6)) (fun h => by rw [Bd.returns] at h; cases h)
  refine ⟨_, _, cn16 _ ?_, hrun, hended, _, _, rfl, ?_, ⟨_, rfl⟩, hW, hsame.mono (by decide) (by decide)⟩
  · jvm_step X15.here [X15.here.top, hx, (hb hby d13_32), X15.method', Bd.returns, Value.isRef, FieldType.isReference]
    first | (intro acts; rw [hr _ acts rfl rfl rfl]) | rw [hr _ _ rfl rfl rfl]
    exact Steps.refl _
  · show QR Z M c h0 n0 _ T15.heap _
    rw [e15]
    exact ⟨b6, _, _, rfl, N15, KK15, sz_b6, (AF.of_arv VD15 hx2.2).congr (fun j hj => by simp only [hx2.2, hxf.2, show (0 : Int32).toNatClampNeg = 0 from rfl]; exact own_cpy hfc hj), fun j hj => HT (ft + j) (by omega)⟩

theorem d12_0 : decode jdk_65_method_144_code 0 = .ok (.iload_n 1, 1) := by decide +kernel
theorem d12_1 : decode jdk_65_method_144_code 1 = .ok (.ifCond .ne 9, 3) := by decide +kernel
theorem d12_4 : decode jdk_65_method_144_code 4 = .ok (.iload_n 2, 1) := by decide +kernel
theorem d12_5 : decode jdk_65_method_144_code 5 = .ok (.aload_n 0, 1) := by decide +kernel
theorem d12_6 : decode jdk_65_method_144_code 6 = .ok (.arraylength, 1) := by decide +kernel
theorem d12_7 : decode jdk_65_method_144_code 7 = .ok (.if_icmp .eq 10, 3) := by decide +kernel
theorem d12_10 : decode jdk_65_method_144_code 10 = .ok (.aload_n 0, 1) := by decide +kernel
theorem d12_11 : decode jdk_65_method_144_code 11 = .ok (.iload_n 1, 1) := by decide +kernel
theorem d12_12 : decode jdk_65_method_144_code 12 = .ok (.iload_n 2, 1) := by decide +kernel
theorem d12_13 : decode jdk_65_method_144_code 13 = .ok (.invokestatic 367, 3) := by decide +kernel
theorem d12_16 : decode jdk_65_method_144_code 16 = .ok (.areturn, 1) := by decide +kernel
theorem pd_8 : parseMethodDescriptor "([DII)[D" = some ⟨[(.array .double), .int, .int], some (.array .double)⟩ := by decide +kernel
theorem ef_12 (m : MethodId) (x0 : Addr) (x1 : Int32) (x2 : Int32) : entryFrame m #[(.ref x0), (.int x1), (.int x2)] 3 = mkF m 0 #[.val (.ref x0), .val (.int x1), .val (.int x2)] [] := by first | (simp [entryFrame, mkF, argsToLocals, Value.category]; done) | rfl
set_option maxRecDepth 65536 in
set_option maxHeartbeats 40000000 in
theorem rm12 (l : Launch) (Z : State) (a0 : Array Value) (hw : ∀ d ∈ tables_1, d.before a0 Z = true) (ws : List Jvm.Cond) (AA3 : Addr) (kA3 : ClassId) (f3 : Nat → Value) (ft c M : Nat) (h0 : Heap) (n0 : Nat) (O0 : Old Z n0 h0) (hc : c ≤ 4) (hfc : ft + c ≤ 15) (AF3 : AF Z h0 AA3 kA3 .double 16 f3) (HT : TP3 M f3) :
    MetFree l (⟨"java/util/Arrays", "copyOfRange", "([DII)[D"⟩ : MethodName) (head1 (Jvm.Cond.code (⟨"java/util/Arrays", "copyOfRange", "([DII)[D"⟩ : MethodName) jdk_65_method_144_code 3 (some (.array .double)) :: ws) ({ frames := 2, cells := 1, slots := 4, locals := 56 } : Room)) (fun aQ U => aQ = #[(.ref AA3), (.int (Nat.toInt32 ft)), (.int (Nat.toInt32 (ft + c)))] ∧ Z.Warmed39 U.vm ∧ U.heap = h0) (fun _ _ _ _ _ => True) (fun _ U o U' => ∃ v L, o = .returned v ∧ QR Z M c h0 n0 v U'.heap L ∧ FrameEnd U o U' L ({ frames := 2, cells := 1, slots := 4, locals := 56 } : Room).cells ({ frames := 2, cells := 1, slots := 4, locals := 56 } : Room).slots) := by
  refine MetFree.of_bodySF (plainFor_of_name pn_java_util_Arrays) hisR ?_
  intro p e s m args below meth kode s₁ Bd hml0 hP hK
  obtain ⟨rfl, hZ, hh⟩ := hP
  have hx := Bd.exec
  have hby := Bd.bytes
  have hml : kode.maxLocals = 3 := hml0
  have hown : s.vm.findClass "java/util/Arrays" = some m.cls := findClass_of_methodNamed Bd.named
  have hnm := (name_of_methodNamed Bd.named Bd.method).1
  have X0 : Stand p l e ({ frames := 2, cells := 1, slots := 4, locals := 56 } : Room) s m #[(.ref AA3), (.int (Nat.toInt32 ft)), (.int (Nat.toInt32 (ft + c)))] below meth kode s₁ [] 0 0 := Stand.of_body Bd
  have e0 : s₁.heap = h0 := by rw [← hh, Bd.state]; rfl
  have N0 := Fr.nil n0
  have pre0 : ∀ t, Steps p.tables e below (s₁.setTop (mkF m 0 #[.val (.ref AA3), .val (.int (Nat.toInt32 ft)), .val (.int (Nat.toInt32 (ft + c)))] [])) t → Steps p.tables e below (s₁.setTop (entryFrame m #[(.ref AA3), (.int (Nat.toInt32 ft)), (.int (Nat.toInt32 (ft + c)))] 3)) t := fun t k => castTop (ef_12 m AA3 (Nat.toInt32 ft) (Nat.toInt32 (ft + c))) k
  have cn1 := fun (t : State) (kt : Steps p.tables e below (s₁.setTop (mkF m 1 #[.val (.ref AA3), .val (.int (Nat.toInt32 ft)), .val (.int (Nat.toInt32 (ft + c)))] [(.int (Nat.toInt32 ft))])) t) => pre0 t (by
    refine XS.iloadN X0.here hx rfl (hb hby d12_0) rfl ?_
    show Steps p.tables e below (s₁.setTop (mkF m 1 #[.val (.ref AA3), .val (.int (Nat.toInt32 ft)), .val (.int (Nat.toInt32 (ft + c)))] [(.int (Nat.toInt32 ft))])) _
    exact kt)
  by_cases hc1_2 : (Nat.toInt32 ft) = (0 : Int32)
  · have cn3 := fun (t : State) (kt : Steps p.tables e below (s₁.setTop (mkF m 6 #[.val (.ref AA3), .val (.int (Nat.toInt32 ft)), .val (.int (Nat.toInt32 (ft + c)))] [(.ref AA3), (.int (Nat.toInt32 (ft + c)))])) t) => cn1 t (by
      refine XS.ifNo X0.here hx rfl (hb hby d12_1) rfl ((if0 _ _).trans (teq hc1_2).2) ?_
      show Steps p.tables e below (s₁.setTop (mkF m 4 #[.val (.ref AA3), .val (.int (Nat.toInt32 ft)), .val (.int (Nat.toInt32 (ft + c)))] [])) _
      refine XS.iloadN X0.here hx rfl (hb hby d12_4) rfl ?_
      show Steps p.tables e below (s₁.setTop (mkF m 5 #[.val (.ref AA3), .val (.int (Nat.toInt32 ft)), .val (.int (Nat.toInt32 (ft + c)))] [(.int (Nat.toInt32 (ft + c)))])) _
      refine XS.aloadN X0.here hx rfl (hb hby d12_5) rfl rfl ?_
      show Steps p.tables e below (s₁.setTop (mkF m 6 #[.val (.ref AA3), .val (.int (Nat.toInt32 ft)), .val (.int (Nat.toInt32 (ft + c)))] [(.ref AA3), (.int (Nat.toInt32 (ft + c)))])) _
      exact kt)
    have AFx4 := AF3
    obtain ⟨cl4, Ar4, q4, S4, H4⟩ := AFx4
    have cn5 := fun (t : State) (kt : Steps p.tables e below (s₁.setTop (mkF m 7 #[.val (.ref AA3), .val (.int (Nat.toInt32 ft)), .val (.int (Nat.toInt32 (ft + c)))] [(.int (Nat.toInt32 16)), (.int (Nat.toInt32 (ft + c)))])) t) => cn3 t (by
      refine X0.arraylength hx (by rw [e0]; exact Ar4.1) (State.isArrayOf_alike hZ.alike Ar4.2.1) (g := (mkF m 6 #[.val (.ref AA3), .val (.int (Nat.toInt32 ft)), .val (.int (Nat.toInt32 (ft + c)))] [(.ref AA3), (.int (Nat.toInt32 (ft + c)))])) rfl rfl (hb hby d12_6) _ ?_
      rw [S4]
      show Steps p.tables e below (s₁.setTop (mkF m 7 #[.val (.ref AA3), .val (.int (Nat.toInt32 ft)), .val (.int (Nat.toInt32 (ft + c)))] [(.int (Nat.toInt32 16)), (.int (Nat.toInt32 (ft + c)))])) _
      exact kt)
    have cn6 := fun (t : State) (kt : Steps p.tables e below (s₁.setTop (mkF m 13 #[.val (.ref AA3), .val (.int (Nat.toInt32 ft)), .val (.int (Nat.toInt32 (ft + c)))] [(.int (Nat.toInt32 (ft + c))), (.int (Nat.toInt32 ft)), (.ref AA3)])) t) => cn5 t (by
      refine XS.icmpNo X0.here hx rfl (hb hby d12_7) rfl (feq (fun q => absurd ((own_eqn (by omega) (by omega)).mp q) (by omega))).1 ?_
      show Steps p.tables e below (s₁.setTop (mkF m 10 #[.val (.ref AA3), .val (.int (Nat.toInt32 ft)), .val (.int (Nat.toInt32 (ft + c)))] [])) _
      refine XS.aloadN X0.here hx rfl (hb hby d12_10) rfl rfl ?_
      show Steps p.tables e below (s₁.setTop (mkF m 11 #[.val (.ref AA3), .val (.int (Nat.toInt32 ft)), .val (.int (Nat.toInt32 (ft + c)))] [(.ref AA3)])) _
      refine XS.iloadN X0.here hx rfl (hb hby d12_11) rfl ?_
      show Steps p.tables e below (s₁.setTop (mkF m 12 #[.val (.ref AA3), .val (.int (Nat.toInt32 ft)), .val (.int (Nat.toInt32 (ft + c)))] [(.int (Nat.toInt32 ft)), (.ref AA3)])) _
      refine XS.iloadN X0.here hx rfl (hb hby d12_12) rfl ?_
      show Steps p.tables e below (s₁.setTop (mkF m 13 #[.val (.ref AA3), .val (.int (Nat.toInt32 ft)), .val (.int (Nat.toInt32 (ft + c)))] [(.int (Nat.toInt32 (ft + c))), (.int (Nat.toInt32 ft)), (.ref AA3)])) _
      exact kt)
    obtain ⟨_, _, ⟨T7, L7, k7, n7⟩, -, X7, ⟨Lc7, hQ7, l7, y7, z7⟩, st7⟩ := Jvm.LawKit.callS X0 hx (y := (⟨"java/util/Arrays", "copyOfRangeDouble", "([DII)[D"⟩ : MethodName)) hown (mvT hZ (hw _ (List.mem_of_getElem? (i := 62) rfl))) (mvT hZ (hw _ (List.mem_of_getElem? (i := 63) rfl))) (mvT hZ (hw _ (List.mem_of_getElem? (i := 44) rfl))) (mvT hZ (hw _ (List.mem_of_getElem? (i := 64) rfl))) (by decide) (backOf (W := 0) (rm13 l Z a0 hw [] AA3 kA3 f3 ft c M h0 n0 O0 hc hfc AF3 HT) hZ (hw _ (List.mem_of_getElem? (i := 64) rfl)) (hw _ (List.mem_of_getElem? (i := 44) rfl)) (by decide) (by decide)) (g := (mkF m 13 #[.val (.ref AA3), .val (.int (Nat.toInt32 ft)), .val (.int (Nat.toInt32 (ft + c)))] [(.int (Nat.toInt32 (ft + c))), (.int (Nat.toInt32 ft)), (.ref AA3)])) rfl (by rw [hml]; rfl) (argsL := [(.ref AA3), (.int (Nat.toInt32 ft)), (.int (Nat.toInt32 (ft + c)))]) (rest := []) (lenOf pd_8 rfl) rfl (by show 2 * 0 + _ ≤ _; exact Nat.le_of_eq rfl) (hb hby d12_13) (fun _ _ => ⟨rfl, e0, (by decide : 0 + 1 ≤ _), (by decide : 0 + 4 ≤ _)⟩)
    dsimp only [Pt.U, Pt.locs, Pt.cells, Pt.slots] at X7 l7 y7 z7 st7 hQ7
    subst l7 y7 z7
    obtain ⟨r7x, kr7, fr7, rfl, Nq7, Kq7, szq7, Aq7, Hr7⟩ := hQ7
    have N7 := Fr.app N0 Nq7
    have ne_AA3_r7x : AA3 ≠ r7x := Nat.ne_of_lt (Nat.lt_of_lt_of_le AF3.lt szq7)
    have sz_r7x : h0.size ≤ r7x := Nat.le_trans (Keep.refl h0 []).1 szq7
    have K7 := Kq7
    have AF3_e7 := AF3.keep K7 nin0
    have O7 := O0.keep K7 all0
    have KK7 : Keep h0 T7.heap [] := (Keep.refl h0 []).trans K7 all0
    have cn8 := fun (t : State) (kt : Steps p.tables e below (T7.setTop (mkF m 16 #[.val (.ref AA3), .val (.int (Nat.toInt32 ft)), .val (.int (Nat.toInt32 (ft + c)))] [(.ref r7x)])) t) => cn6 t (by
      refine st7 _ ?_
      show Steps p.tables e below (T7.setTop (mkF m 16 #[.val (.ref AA3), .val (.int (Nat.toInt32 ft)), .val (.int (Nat.toInt32 (ft + c)))] [(.ref r7x)])) _
      exact kt)
    obtain ⟨frs, hr, hrun, hended, hW, hsame⟩ := X7.leave (v := some (.ref r7x)) (fun h => by rw [Bd.returns] at h; cases h)
    refine ⟨_, _, cn8 _ ?_, hrun, hended, _, _, rfl, ?_, ⟨_, rfl⟩, hW, hsame.mono (by decide) (by decide)⟩
    · jvm_step X7.here [X7.here.top, hx, (hb hby d12_16), X7.method', Bd.returns, Value.isRef, FieldType.isReference]
      first | (intro acts; rw [hr _ acts rfl rfl rfl]) | rw [hr _ _ rfl rfl rfl]
      exact Steps.refl _
    · show QR Z M c h0 n0 _ T7.heap _
      exact ⟨r7x, _, _, rfl, N7, KK7, sz_r7x, Aq7, Hr7⟩
  · have cn9 := fun (t : State) (kt : Steps p.tables e below (s₁.setTop (mkF m 13 #[.val (.ref AA3), .val (.int (Nat.toInt32 ft)), .val (.int (Nat.toInt32 (ft + c)))] [(.int (Nat.toInt32 (ft + c))), (.int (Nat.toInt32 ft)), (.ref AA3)])) t) => cn1 t (by
      refine XS.ifYes X0.here hx rfl (pc0 := 1) (pc' := 10) rfl (hb hby d12_1) rfl ((if0 _ _).trans (feq hc1_2).2) (by decide) (by decide) ?_
      show Steps p.tables e below (s₁.setTop (mkF m 10 #[.val (.ref AA3), .val (.int (Nat.toInt32 ft)), .val (.int (Nat.toInt32 (ft + c)))] [])) _
      refine XS.aloadN X0.here hx rfl (hb hby d12_10) rfl rfl ?_
      show Steps p.tables e below (s₁.setTop (mkF m 11 #[.val (.ref AA3), .val (.int (Nat.toInt32 ft)), .val (.int (Nat.toInt32 (ft + c)))] [(.ref AA3)])) _
      refine XS.iloadN X0.here hx rfl (hb hby d12_11) rfl ?_
      show Steps p.tables e below (s₁.setTop (mkF m 12 #[.val (.ref AA3), .val (.int (Nat.toInt32 ft)), .val (.int (Nat.toInt32 (ft + c)))] [(.int (Nat.toInt32 ft)), (.ref AA3)])) _
      refine XS.iloadN X0.here hx rfl (hb hby d12_12) rfl ?_
      show Steps p.tables e below (s₁.setTop (mkF m 13 #[.val (.ref AA3), .val (.int (Nat.toInt32 ft)), .val (.int (Nat.toInt32 (ft + c)))] [(.int (Nat.toInt32 (ft + c))), (.int (Nat.toInt32 ft)), (.ref AA3)])) _
      exact kt)
    obtain ⟨_, _, ⟨T10, L10, k10, n10⟩, -, X10, ⟨Lc10, hQ10, l10, y10, z10⟩, st10⟩ := Jvm.LawKit.callS X0 hx (y := (⟨"java/util/Arrays", "copyOfRangeDouble", "([DII)[D"⟩ : MethodName)) hown (mvT hZ (hw _ (List.mem_of_getElem? (i := 62) rfl))) (mvT hZ (hw _ (List.mem_of_getElem? (i := 63) rfl))) (mvT hZ (hw _ (List.mem_of_getElem? (i := 44) rfl))) (mvT hZ (hw _ (List.mem_of_getElem? (i := 64) rfl))) (by decide) (backOf (W := 0) (rm13 l Z a0 hw [] AA3 kA3 f3 ft c M h0 n0 O0 hc hfc AF3 HT) hZ (hw _ (List.mem_of_getElem? (i := 64) rfl)) (hw _ (List.mem_of_getElem? (i := 44) rfl)) (by decide) (by decide)) (g := (mkF m 13 #[.val (.ref AA3), .val (.int (Nat.toInt32 ft)), .val (.int (Nat.toInt32 (ft + c)))] [(.int (Nat.toInt32 (ft + c))), (.int (Nat.toInt32 ft)), (.ref AA3)])) rfl (by rw [hml]; rfl) (argsL := [(.ref AA3), (.int (Nat.toInt32 ft)), (.int (Nat.toInt32 (ft + c)))]) (rest := []) (lenOf pd_8 rfl) rfl (by show 2 * 0 + _ ≤ _; exact Nat.le_of_eq rfl) (hb hby d12_13) (fun _ _ => ⟨rfl, e0, (by decide : 0 + 1 ≤ _), (by decide : 0 + 4 ≤ _)⟩)
    dsimp only [Pt.U, Pt.locs, Pt.cells, Pt.slots] at X10 l10 y10 z10 st10 hQ10
    subst l10 y10 z10
    obtain ⟨r10x, kr10, fr10, rfl, Nq10, Kq10, szq10, Aq10, Hr10⟩ := hQ10
    have N10 := Fr.app N0 Nq10
    have ne_AA3_r10x : AA3 ≠ r10x := Nat.ne_of_lt (Nat.lt_of_lt_of_le AF3.lt szq10)
    have sz_r10x : h0.size ≤ r10x := Nat.le_trans (Keep.refl h0 []).1 szq10
    have K10 := Kq10
    have AF3_e10 := AF3.keep K10 nin0
    have O10 := O0.keep K10 all0
    have KK10 : Keep h0 T10.heap [] := (Keep.refl h0 []).trans K10 all0
    have cn11 := fun (t : State) (kt : Steps p.tables e below (T10.setTop (mkF m 16 #[.val (.ref AA3), .val (.int (Nat.toInt32 ft)), .val (.int (Nat.toInt32 (ft + c)))] [(.ref r10x)])) t) => cn9 t (by
      refine st10 _ ?_
      show Steps p.tables e below (T10.setTop (mkF m 16 #[.val (.ref AA3), .val (.int (Nat.toInt32 ft)), .val (.int (Nat.toInt32 (ft + c)))] [(.ref r10x)])) _
      exact kt)
    obtain ⟨frs, hr, hrun, hended, hW, hsame⟩ := X10.leave (v := some (.ref r10x)) (fun h => by rw [Bd.returns] at h; cases h)
    refine ⟨_, _, cn11 _ ?_, hrun, hended, _, _, rfl, ?_, ⟨_, rfl⟩, hW, hsame.mono (by decide) (by decide)⟩
    · jvm_step X10.here [X10.here.top, hx, (hb hby d12_16), X10.method', Bd.returns, Value.isRef, FieldType.isReference]
      first | (intro acts; rw [hr _ acts rfl rfl rfl]) | rw [hr _ _ rfl rfl rfl]
      exact Steps.refl _
    · show QR Z M c h0 n0 _ T10.heap _
      exact ⟨r10x, _, _, rfl, N10, KK10, sz_r10x, Aq10, Hr10⟩

def QM (Z : State) (AA2 AA3 AA4 : Addr) (kA2 kA3 kA4 : ClassId) (c M : Nat) (h0 : Heap) (n0 : Nat) (v : Option Value) (h : Heap) (L : List Loc) : Prop := ∃ (mq : Nat) (g2 g3 g4 : Nat → Value), v = some (.int (Nat.toInt32 mq)) ∧ Fr n0 L ∧ Keep h0 h [AA2, AA3, AA4] ∧ mq ≤ c ∧ AF Z h AA2 kA2 .int 16 g2 ∧ T2 g2 ∧ AF Z h AA3 kA3 .double 16 g3 ∧ TP3 (M * (c + 1)) g3 ∧ AF Z h AA4 kA4 .long 16 g4
theorem own_m0 {mq : Nat} (h : mq < 2147483648) (q : (0 : Int32) < (Nat.toInt32 mq)) : 0 < mq := (own_lt (i := 0) (by decide) h).mp q

theorem d6_0 : decode prog_142_method_16_code 0 = .ok (.iload_n 2, 1) := by decide +kernel
theorem d6_1 : decode prog_142_method_16_code 1 = .ok (.iload_n 1, 1) := by decide +kernel
theorem d6_2 : decode prog_142_method_16_code 2 = .ok (.isub, 1) := by decide +kernel
theorem d6_3 : decode prog_142_method_16_code 3 = .ok (.istore_n 3, 1) := by decide +kernel
theorem d6_4 : decode prog_142_method_16_code 4 = .ok (.aload_n 0, 1) := by decide +kernel
theorem d6_5 : decode prog_142_method_16_code 5 = .ok (.getfield 20, 3) := by decide +kernel
theorem d6_8 : decode prog_142_method_16_code 8 = .ok (.arraylength, 1) := by decide +kernel
theorem d6_9 : decode prog_142_method_16_code 9 = .ok (.iload_n 3, 1) := by decide +kernel
theorem d6_10 : decode prog_142_method_16_code 10 = .ok (.if_icmp .ge 20, 3) := by decide +kernel
theorem d6_30 : decode prog_142_method_16_code 30 = .ok (.iconst 0, 1) := by decide +kernel
theorem d6_31 : decode prog_142_method_16_code 31 = .ok (.istore 4, 2) := by decide +kernel
theorem d6_33 : decode prog_142_method_16_code 33 = .ok (.iload 4, 2) := by decide +kernel
theorem d6_35 : decode prog_142_method_16_code 35 = .ok (.iload_n 3, 1) := by decide +kernel
theorem d6_36 : decode prog_142_method_16_code 36 = .ok (.if_icmp .ge 33, 3) := by decide +kernel
theorem d6_39 : decode prog_142_method_16_code 39 = .ok (.aload_n 0, 1) := by decide +kernel
theorem d6_40 : decode prog_142_method_16_code 40 = .ok (.getfield 20, 3) := by decide +kernel
theorem d6_43 : decode prog_142_method_16_code 43 = .ok (.iload 4, 2) := by decide +kernel
theorem d6_45 : decode prog_142_method_16_code 45 = .ok (.aload_n 0, 1) := by decide +kernel
theorem d6_46 : decode prog_142_method_16_code 46 = .ok (.getfield 13, 3) := by decide +kernel
theorem d6_49 : decode prog_142_method_16_code 49 = .ok (.iload_n 1, 1) := by decide +kernel
theorem d6_50 : decode prog_142_method_16_code 50 = .ok (.iload 4, 2) := by decide +kernel
theorem d6_52 : decode prog_142_method_16_code 52 = .ok (.iadd, 1) := by decide +kernel
theorem d6_53 : decode prog_142_method_16_code 53 = .ok (.iaload, 1) := by decide +kernel
theorem d6_54 : decode prog_142_method_16_code 54 = .ok (.i2l, 1) := by decide +kernel
theorem d6_55 : decode prog_142_method_16_code 55 = .ok (.bipush 32, 2) := by decide +kernel
theorem d6_57 : decode prog_142_method_16_code 57 = .ok (.lshl, 1) := by decide +kernel
theorem d6_58 : decode prog_142_method_16_code 58 = .ok (.iload 4, 2) := by decide +kernel
theorem d6_60 : decode prog_142_method_16_code 60 = .ok (.i2l, 1) := by decide +kernel
theorem d6_61 : decode prog_142_method_16_code 61 = .ok (.lor, 1) := by decide +kernel
theorem d6_62 : decode prog_142_method_16_code 62 = .ok (.lastore, 1) := by decide +kernel
theorem d6_63 : decode prog_142_method_16_code 63 = .ok (.iinc 4 1, 3) := by decide +kernel
theorem d6_66 : decode prog_142_method_16_code 66 = .ok (.goto (-33), 3) := by decide +kernel
theorem d6_69 : decode prog_142_method_16_code 69 = .ok (.aload_n 0, 1) := by decide +kernel
theorem d6_70 : decode prog_142_method_16_code 70 = .ok (.getfield 20, 3) := by decide +kernel
theorem d6_73 : decode prog_142_method_16_code 73 = .ok (.iconst 0, 1) := by decide +kernel
theorem d6_74 : decode prog_142_method_16_code 74 = .ok (.iload_n 3, 1) := by decide +kernel
theorem d6_75 : decode prog_142_method_16_code 75 = .ok (.invokestatic 132, 3) := by decide +kernel
theorem d6_78 : decode prog_142_method_16_code 78 = .ok (.aload_n 0, 1) := by decide +kernel
theorem d6_79 : decode prog_142_method_16_code 79 = .ok (.getfield 16, 3) := by decide +kernel
theorem d6_82 : decode prog_142_method_16_code 82 = .ok (.iload_n 1, 1) := by decide +kernel
theorem d6_83 : decode prog_142_method_16_code 83 = .ok (.iload_n 2, 1) := by decide +kernel
theorem d6_84 : decode prog_142_method_16_code 84 = .ok (.invokestatic 136, 3) := by decide +kernel
theorem d6_87 : decode prog_142_method_16_code 87 = .ok (.astore 4, 2) := by decide +kernel
theorem d6_89 : decode prog_142_method_16_code 89 = .ok (.aload_n 0, 1) := by decide +kernel
theorem d6_90 : decode prog_142_method_16_code 90 = .ok (.getfield 40, 3) := by decide +kernel
theorem d6_93 : decode prog_142_method_16_code 93 = .ok (.ifnonnull 7, 3) := by decide +kernel
theorem d6_96 : decode prog_142_method_16_code 96 = .ok (.aconst_null, 1) := by decide +kernel
theorem d6_97 : decode prog_142_method_16_code 97 = .ok (.goto 15, 3) := by decide +kernel
theorem d6_112 : decode prog_142_method_16_code 112 = .ok (.astore 5, 2) := by decide +kernel
theorem d6_114 : decode prog_142_method_16_code 114 = .ok (.iconst 0, 1) := by decide +kernel
theorem d6_115 : decode prog_142_method_16_code 115 = .ok (.istore 6, 2) := by decide +kernel
theorem d6_117 : decode prog_142_method_16_code 117 = .ok (.iconst 0, 1) := by decide +kernel
theorem d6_118 : decode prog_142_method_16_code 118 = .ok (.istore 7, 2) := by decide +kernel
theorem d6_120 : decode prog_142_method_16_code 120 = .ok (.iload 7, 2) := by decide +kernel
theorem d6_122 : decode prog_142_method_16_code 122 = .ok (.iload_n 3, 1) := by decide +kernel
theorem d6_123 : decode prog_142_method_16_code 123 = .ok (.if_icmp .ge 170, 3) := by decide +kernel
theorem d6_126 : decode prog_142_method_16_code 126 = .ok (.aload_n 0, 1) := by decide +kernel
theorem d6_127 : decode prog_142_method_16_code 127 = .ok (.getfield 20, 3) := by decide +kernel
theorem d6_130 : decode prog_142_method_16_code 130 = .ok (.iload 7, 2) := by decide +kernel
theorem d6_132 : decode prog_142_method_16_code 132 = .ok (.laload, 1) := by decide +kernel
theorem d6_133 : decode prog_142_method_16_code 133 = .ok (.bipush 32, 2) := by decide +kernel
theorem d6_135 : decode prog_142_method_16_code 135 = .ok (.lushr, 1) := by decide +kernel
theorem d6_136 : decode prog_142_method_16_code 136 = .ok (.l2i, 1) := by decide +kernel
theorem d6_137 : decode prog_142_method_16_code 137 = .ok (.istore 8, 2) := by decide +kernel
theorem d6_139 : decode prog_142_method_16_code 139 = .ok (.aload_n 0, 1) := by decide +kernel
theorem d6_140 : decode prog_142_method_16_code 140 = .ok (.getfield 20, 3) := by decide +kernel
theorem d6_143 : decode prog_142_method_16_code 143 = .ok (.iload 7, 2) := by decide +kernel
theorem d6_145 : decode prog_142_method_16_code 145 = .ok (.laload, 1) := by decide +kernel
theorem d6_146 : decode prog_142_method_16_code 146 = .ok (.l2i, 1) := by decide +kernel
theorem d6_147 : decode prog_142_method_16_code 147 = .ok (.istore 9, 2) := by decide +kernel
theorem d6_149 : decode prog_142_method_16_code 149 = .ok (.iload 6, 2) := by decide +kernel
theorem d6_151 : decode prog_142_method_16_code 151 = .ok (.ifCond .le 89, 3) := by decide +kernel
theorem d6_154 : decode prog_142_method_16_code 154 = .ok (.aload_n 0, 1) := by decide +kernel
theorem d6_155 : decode prog_142_method_16_code 155 = .ok (.getfield 13, 3) := by decide +kernel
theorem d6_158 : decode prog_142_method_16_code 158 = .ok (.iload_n 1, 1) := by decide +kernel
theorem d6_159 : decode prog_142_method_16_code 159 = .ok (.iload 6, 2) := by decide +kernel
theorem d6_161 : decode prog_142_method_16_code 161 = .ok (.iadd, 1) := by decide +kernel
theorem d6_162 : decode prog_142_method_16_code 162 = .ok (.iconst 1, 1) := by decide +kernel
theorem d6_163 : decode prog_142_method_16_code 163 = .ok (.isub, 1) := by decide +kernel
theorem d6_164 : decode prog_142_method_16_code 164 = .ok (.iaload, 1) := by decide +kernel
theorem d6_165 : decode prog_142_method_16_code 165 = .ok (.iload 8, 2) := by decide +kernel
theorem d6_167 : decode prog_142_method_16_code 167 = .ok (.if_icmp .ne 73, 3) := by decide +kernel
theorem d6_170 : decode prog_142_method_16_code 170 = .ok (.iload_n 1, 1) := by decide +kernel
theorem d6_171 : decode prog_142_method_16_code 171 = .ok (.iload 6, 2) := by decide +kernel
theorem d6_173 : decode prog_142_method_16_code 173 = .ok (.iadd, 1) := by decide +kernel
theorem d6_174 : decode prog_142_method_16_code 174 = .ok (.iconst 1, 1) := by decide +kernel
theorem d6_175 : decode prog_142_method_16_code 175 = .ok (.isub, 1) := by decide +kernel
theorem d6_176 : decode prog_142_method_16_code 176 = .ok (.istore 10, 2) := by decide +kernel
theorem d6_178 : decode prog_142_method_16_code 178 = .ok (.aload_n 0, 1) := by decide +kernel
theorem d6_179 : decode prog_142_method_16_code 179 = .ok (.getfield 16, 3) := by decide +kernel
theorem d6_182 : decode prog_142_method_16_code 182 = .ok (.iload 10, 2) := by decide +kernel
theorem d6_184 : decode prog_142_method_16_code 184 = .ok (.dup2, 1) := by decide +kernel
theorem d6_185 : decode prog_142_method_16_code 185 = .ok (.daload, 1) := by decide +kernel
theorem d6_186 : decode prog_142_method_16_code 186 = .ok (.aload 4, 2) := by decide +kernel
theorem d6_188 : decode prog_142_method_16_code 188 = .ok (.iload 9, 2) := by decide +kernel
theorem d6_190 : decode prog_142_method_16_code 190 = .ok (.daload, 1) := by decide +kernel
theorem d6_191 : decode prog_142_method_16_code 191 = .ok (.dadd, 1) := by decide +kernel
theorem d6_192 : decode prog_142_method_16_code 192 = .ok (.dastore, 1) := by decide +kernel
theorem d6_193 : decode prog_142_method_16_code 193 = .ok (.aload 5, 2) := by decide +kernel
theorem d6_195 : decode prog_142_method_16_code 195 = .ok (.ifnull 42, 3) := by decide +kernel
theorem d6_237 : decode prog_142_method_16_code 237 = .ok (.goto 50, 3) := by decide +kernel
theorem d6_240 : decode prog_142_method_16_code 240 = .ok (.aload_n 0, 1) := by decide +kernel
theorem d6_241 : decode prog_142_method_16_code 241 = .ok (.getfield 13, 3) := by decide +kernel
theorem d6_244 : decode prog_142_method_16_code 244 = .ok (.iload_n 1, 1) := by decide +kernel
theorem d6_245 : decode prog_142_method_16_code 245 = .ok (.iload 6, 2) := by decide +kernel
theorem d6_247 : decode prog_142_method_16_code 247 = .ok (.iadd, 1) := by decide +kernel
theorem d6_248 : decode prog_142_method_16_code 248 = .ok (.iload 8, 2) := by decide +kernel
theorem d6_250 : decode prog_142_method_16_code 250 = .ok (.iastore, 1) := by decide +kernel
theorem d6_251 : decode prog_142_method_16_code 251 = .ok (.aload_n 0, 1) := by decide +kernel
theorem d6_252 : decode prog_142_method_16_code 252 = .ok (.getfield 16, 3) := by decide +kernel
theorem d6_255 : decode prog_142_method_16_code 255 = .ok (.iload_n 1, 1) := by decide +kernel
theorem d6_256 : decode prog_142_method_16_code 256 = .ok (.iload 6, 2) := by decide +kernel
theorem d6_258 : decode prog_142_method_16_code 258 = .ok (.iadd, 1) := by decide +kernel
theorem d6_259 : decode prog_142_method_16_code 259 = .ok (.aload 4, 2) := by decide +kernel
theorem d6_261 : decode prog_142_method_16_code 261 = .ok (.iload 9, 2) := by decide +kernel
theorem d6_263 : decode prog_142_method_16_code 263 = .ok (.daload, 1) := by decide +kernel
theorem d6_264 : decode prog_142_method_16_code 264 = .ok (.dastore, 1) := by decide +kernel
theorem d6_265 : decode prog_142_method_16_code 265 = .ok (.aload 5, 2) := by decide +kernel
theorem d6_267 : decode prog_142_method_16_code 267 = .ok (.ifnull 17, 3) := by decide +kernel
theorem d6_284 : decode prog_142_method_16_code 284 = .ok (.iinc 6 1, 3) := by decide +kernel
theorem d6_287 : decode prog_142_method_16_code 287 = .ok (.iinc 7 1, 3) := by decide +kernel
theorem d6_290 : decode prog_142_method_16_code 290 = .ok (.goto (-170), 3) := by decide +kernel
theorem d6_293 : decode prog_142_method_16_code 293 = .ok (.iload 6, 2) := by decide +kernel
theorem d6_295 : decode prog_142_method_16_code 295 = .ok (.ireturn, 1) := by decide +kernel
theorem ef_6 (m : MethodId) (x0 : Addr) (x1 : Int32) (x2 : Int32) : entryFrame m #[(.ref x0), (.int x1), (.int x2)] 11 = mkF m 0 #[.val (.ref x0), .val (.int x1), .val (.int x2), .unset, .unset, .unset, .unset, .unset, .unset, .unset, .unset] [] := by first | (simp [entryFrame, mkF, argsToLocals, Value.category]; done) | rfl
set_option maxRecDepth 65536 in
set_option maxHeartbeats 40000000 in
theorem rm6 (l : Launch) (Z : State) (a0 : Array Value) (hw : ∀ d ∈ tables_1, d.before a0 Z = true) (ws : List Jvm.Cond) (a AA1 AA2 AA3 AA4 : Addr) (kA1 kA2 kA3 kA4 : ClassId) (f1 f2 f3 f4 : Nat → Value) (rc tc : Nat) (ft c M : Nat) (h0 : Heap) (n0 : Nat) (O0 : Old Z n0 h0) (TNh : TN n0 a AA1 AA2 AA3 AA4) (B : TR Z h0 a AA1 AA2 AA3 AA4 kA1 kA2 kA3 kA4 f1 f2 f3 f4 rc tc) (hc : c ≤ 4) (hfc : ft + c ≤ 15) (H2 : T2 f2) (HT : TP3 M f3) (hM : M * 5 < 4503599627370496) :
    MetFree l (⟨"com/example/probver/probver/model/TransitionRows", "mergeSuccessors", "(II)I"⟩ : MethodName) (head1 (Jvm.Cond.code (⟨"com/example/probver/probver/model/TransitionRows", "mergeSuccessors", "(II)I"⟩ : MethodName) prog_142_method_16_code 11 (some .int) :: ws) ({ frames := 4, cells := 1, slots := 4, locals := 86 } : Room)) (fun aQ U => aQ = #[(.ref a), (.int (Nat.toInt32 ft)), (.int (Nat.toInt32 (ft + c)))] ∧ Z.Warmed39 U.vm ∧ U.heap = h0) (fun _ _ _ _ _ => True) (fun _ U o U' => ∃ v L, o = .returned v ∧ QM Z AA2 AA3 AA4 kA2 kA3 kA4 c M h0 n0 v U'.heap L ∧ FrameEnd U o U' L ({ frames := 4, cells := 1, slots := 4, locals := 86 } : Room).cells ({ frames := 4, cells := 1, slots := 4, locals := 86 } : Room).slots) := by
  refine MetFree.of_bodySF (plainFor_of_name pn_com_example_probver_probver_model_TransitionRows) hisR ?_
  intro p e s m args below meth kode s₁ Bd hml0 hP hK
  obtain ⟨rfl, hZ, hh⟩ := hP
  have hx := Bd.exec
  have hby := Bd.bytes
  have hml : kode.maxLocals = 11 := hml0
  have hown : s.vm.findClass "com/example/probver/probver/model/TransitionRows" = some m.cls := findClass_of_methodNamed Bd.named
  have hnm := (name_of_methodNamed Bd.named Bd.method).1
  have X0 : Stand p l e ({ frames := 4, cells := 1, slots := 4, locals := 86 } : Room) s m #[(.ref a), (.int (Nat.toInt32 ft)), (.int (Nat.toInt32 (ft + c)))] below meth kode s₁ [] 0 0 := Stand.of_body Bd
  have e0 : s₁.heap = h0 := by rw [← hh, Bd.state]; rfl
  have N0 := Fr.nil n0
  have pre0 : ∀ t, Steps p.tables e below (s₁.setTop (mkF m 0 #[.val (.ref a), .val (.int (Nat.toInt32 ft)), .val (.int (Nat.toInt32 (ft + c))), .unset, .unset, .unset, .unset, .unset, .unset, .unset, .unset] [])) t → Steps p.tables e below (s₁.setTop (entryFrame m #[(.ref a), (.int (Nat.toInt32 ft)), (.int (Nat.toInt32 (ft + c)))] 11)) t := fun t k => castTop (ef_6 m a (Nat.toInt32 ft) (Nat.toInt32 (ft + c))) k
  obtain ⟨⟨g_a, g_AA1, g_AA2, g_AA3, g_AA4⟩, ne_a_AA1, ne_a_AA2, ne_a_AA3, ne_a_AA4, ne_AA1_AA2, ne_AA1_AA3, ne_AA1_AA4, ne_AA2_AA3, ne_AA2_AA4, ne_AA3_AA4⟩ := TNh
  obtain ⟨E_a, FfirstTransitions, FrowCount, Fsuccessors, Fprobabilities, FexactProbabilities, FtransitionCount, FsortKeys, AF1, AF2, AF3, AF4⟩ := B
  have cn1 := fun (t : State) (kt : Steps p.tables e below (s₁.setTop (mkF m 4 #[.val (.ref a), .val (.int (Nat.toInt32 ft)), .val (.int (Nat.toInt32 (ft + c))), .val (.int ((Nat.toInt32 (ft + c)) - (Nat.toInt32 ft))), .unset, .unset, .unset, .unset, .unset, .unset, .unset] [])) t) => pre0 t (by
    refine XS.iloadN X0.here hx rfl (hb hby d6_0) rfl ?_
    show Steps p.tables e below (s₁.setTop (mkF m 1 #[.val (.ref a), .val (.int (Nat.toInt32 ft)), .val (.int (Nat.toInt32 (ft + c))), .unset, .unset, .unset, .unset, .unset, .unset, .unset, .unset] [(.int (Nat.toInt32 (ft + c)))])) _
    refine XS.iloadN X0.here hx rfl (hb hby d6_1) rfl ?_
    show Steps p.tables e below (s₁.setTop (mkF m 2 #[.val (.ref a), .val (.int (Nat.toInt32 ft)), .val (.int (Nat.toInt32 (ft + c))), .unset, .unset, .unset, .unset, .unset, .unset, .unset, .unset] [(.int (Nat.toInt32 ft)), (.int (Nat.toInt32 (ft + c)))])) _
    refine XS.isub X0.here hx rfl (hb hby d6_2) rfl ?_
    show Steps p.tables e below (s₁.setTop (mkF m 3 #[.val (.ref a), .val (.int (Nat.toInt32 ft)), .val (.int (Nat.toInt32 (ft + c))), .unset, .unset, .unset, .unset, .unset, .unset, .unset, .unset] [(.int ((Nat.toInt32 (ft + c)) - (Nat.toInt32 ft)))])) _
    refine XS.istoreN X0.here hx rfl (hb hby d6_3) rfl (l' := #[.val (.ref a), .val (.int (Nat.toInt32 ft)), .val (.int (Nat.toInt32 (ft + c))), .val (.int ((Nat.toInt32 (ft + c)) - (Nat.toInt32 ft))), .unset, .unset, .unset, .unset, .unset, .unset, .unset]) rfl ?_
    show Steps p.tables e below (s₁.setTop (mkF m 4 #[.val (.ref a), .val (.int (Nat.toInt32 ft)), .val (.int (Nat.toInt32 (ft + c))), .val (.int ((Nat.toInt32 (ft + c)) - (Nat.toInt32 ft))), .unset, .unset, .unset, .unset, .unset, .unset, .unset] [])) _
    exact kt)
  have cn2 : ∀ t, Steps p.tables e below (s₁.setTop (mkF m 4 #[.val (.ref a), .val (.int (Nat.toInt32 ft)), .val (.int (Nat.toInt32 (ft + c))), .val (.int (Nat.toInt32 c)), .unset, .unset, .unset, .unset, .unset, .unset, .unset] [])) t → Steps p.tables e below (s₁.setTop (entryFrame m #[(.ref a), (.int (Nat.toInt32 ft)), (.int (Nat.toInt32 (ft + c)))] 11)) t := by have q := cn1; rw [(id (own_sub (by omega)) : ((Nat.toInt32 (ft + c)) - (Nat.toInt32 ft)) = (Nat.toInt32 c))] at q; exact q
  have cn3 := fun (t : State) (kt : Steps p.tables e below (s₁.setTop (mkF m 5 #[.val (.ref a), .val (.int (Nat.toInt32 ft)), .val (.int (Nat.toInt32 (ft + c))), .val (.int (Nat.toInt32 c)), .unset, .unset, .unset, .unset, .unset, .unset, .unset] [(.ref a)])) t) => cn2 t (by
    refine XS.aloadN X0.here hx rfl (hb hby d6_4) rfl rfl ?_
    show Steps p.tables e below (s₁.setTop (mkF m 5 #[.val (.ref a), .val (.int (Nat.toInt32 ft)), .val (.int (Nat.toInt32 (ft + c))), .val (.int (Nat.toInt32 c)), .unset, .unset, .unset, .unset, .unset, .unset, .unset] [(.ref a)])) _
    exact kt)
  obtain ⟨T4, X4, e4, st4⟩ := getF X0 hx hZ hown (host := "") (Or.inl (hw _ (List.mem_of_getElem? (i := 18) rfl))) Via.refl e0 FsortKeys (g := (mkF m 5 #[.val (.ref a), .val (.int (Nat.toInt32 ft)), .val (.int (Nat.toInt32 (ft + c))), .val (.int (Nat.toInt32 c)), .unset, .unset, .unset, .unset, .unset, .unset, .unset] [(.ref a)])) rfl rfl (hb hby d6_5)
  have cn5 := fun (t : State) (kt : Steps p.tables e below (T4.setTop (mkF m 8 #[.val (.ref a), .val (.int (Nat.toInt32 ft)), .val (.int (Nat.toInt32 (ft + c))), .val (.int (Nat.toInt32 c)), .unset, .unset, .unset, .unset, .unset, .unset, .unset] [(.ref AA4)])) t) => cn3 t (by
    refine st4 _ ?_
    show Steps p.tables e below (T4.setTop (mkF m 8 #[.val (.ref a), .val (.int (Nat.toInt32 ft)), .val (.int (Nat.toInt32 (ft + c))), .val (.int (Nat.toInt32 c)), .unset, .unset, .unset, .unset, .unset, .unset, .unset] [(.ref AA4)])) _
    exact kt)
  have AFx6 := AF4
  obtain ⟨cl6, Ar6, q6, S6, H6⟩ := AFx6
  have cn7 := fun (t : State) (kt : Steps p.tables e below (T4.setTop (mkF m 10 #[.val (.ref a), .val (.int (Nat.toInt32 ft)), .val (.int (Nat.toInt32 (ft + c))), .val (.int (Nat.toInt32 c)), .unset, .unset, .unset, .unset, .unset, .unset, .unset] [(.int (Nat.toInt32 c)), (.int (Nat.toInt32 16))])) t) => cn5 t (by
    refine X4.arraylength hx (by rw [e4]; exact Ar6.1) (State.isArrayOf_alike hZ.alike Ar6.2.1) (g := (mkF m 8 #[.val (.ref a), .val (.int (Nat.toInt32 ft)), .val (.int (Nat.toInt32 (ft + c))), .val (.int (Nat.toInt32 c)), .unset, .unset, .unset, .unset, .unset, .unset, .unset] [(.ref AA4)])) rfl rfl (hb hby d6_8) _ ?_
    rw [S6]
    show Steps p.tables e below (T4.setTop (mkF m 9 #[.val (.ref a), .val (.int (Nat.toInt32 ft)), .val (.int (Nat.toInt32 (ft + c))), .val (.int (Nat.toInt32 c)), .unset, .unset, .unset, .unset, .unset, .unset, .unset] [(.int (Nat.toInt32 16))])) _
    refine XS.iloadN X4.here hx rfl (hb hby d6_9) rfl ?_
    show Steps p.tables e below (T4.setTop (mkF m 10 #[.val (.ref a), .val (.int (Nat.toInt32 ft)), .val (.int (Nat.toInt32 (ft + c))), .val (.int (Nat.toInt32 c)), .unset, .unset, .unset, .unset, .unset, .unset, .unset] [(.int (Nat.toInt32 c)), (.int (Nat.toInt32 16))])) _
    exact kt)
  have cn8 := fun (t : State) (kt : Steps p.tables e below (T4.setTop (mkF m 33 #[.val (.ref a), .val (.int (Nat.toInt32 ft)), .val (.int (Nat.toInt32 (ft + c))), .val (.int (Nat.toInt32 c)), .val (.int (0 : Int32)), .unset, .unset, .unset, .unset, .unset, .unset] [])) t) => cn7 t (by
    refine XS.icmpYes X4.here hx rfl (pc0 := 10) (pc' := 30) rfl (hb hby d6_10) rfl (flt (fun q => absurd ((own_lt (by omega) (by omega)).mp q) (by omega))).2.1 (by decide) (by decide) ?_
    show Steps p.tables e below (T4.setTop (mkF m 30 #[.val (.ref a), .val (.int (Nat.toInt32 ft)), .val (.int (Nat.toInt32 (ft + c))), .val (.int (Nat.toInt32 c)), .unset, .unset, .unset, .unset, .unset, .unset, .unset] [])) _
    refine XS.iconst X4.here hx rfl (hb hby d6_30) ?_
    show Steps p.tables e below (T4.setTop (mkF m 31 #[.val (.ref a), .val (.int (Nat.toInt32 ft)), .val (.int (Nat.toInt32 (ft + c))), .val (.int (Nat.toInt32 c)), .unset, .unset, .unset, .unset, .unset, .unset, .unset] [(.int (0 : Int32))])) _
    refine XS.istore X4.here hx rfl (hb hby d6_31) rfl (l' := #[.val (.ref a), .val (.int (Nat.toInt32 ft)), .val (.int (Nat.toInt32 (ft + c))), .val (.int (Nat.toInt32 c)), .val (.int (0 : Int32)), .unset, .unset, .unset, .unset, .unset, .unset]) rfl ?_
    show Steps p.tables e below (T4.setTop (mkF m 33 #[.val (.ref a), .val (.int (Nat.toInt32 ft)), .val (.int (Nat.toInt32 (ft + c))), .val (.int (Nat.toInt32 c)), .val (.int (0 : Int32)), .unset, .unset, .unset, .unset, .unset, .unset] [])) _
    exact kt)
  refine own_loop (A := fun kk => ∃ (TJ : State) (hJ : Heap) (lJ : List Loc) (i : Nat) (g4 : Nat → Value), Stand p l e ({ frames := 4, cells := 1, slots := 4, locals := 86 } : Room) s m #[(.ref a), (.int (Nat.toInt32 ft)), (.int (Nat.toInt32 (ft + c)))] below meth kode TJ lJ 0 0 ∧ TJ.heap = hJ ∧ Fr n0 lJ ∧ Old Z n0 hJ ∧ Keep h0 hJ [AA2, AA3, AA4] ∧ (i + kk = c) ∧ (Exa Z hJ a "com/example/probver/probver/model/TransitionRows") ∧ (Fld Z hJ a "com/example/probver/probver/model/TransitionRows" "firstTransitions" "[I" (.ref AA1)) ∧ (Fld Z hJ a "com/example/probver/probver/model/TransitionRows" "rowCount" "I" (.int (Nat.toInt32 rc))) ∧ (Fld Z hJ a "com/example/probver/probver/model/TransitionRows" "successors" "[I" (.ref AA2)) ∧ (Fld Z hJ a "com/example/probver/probver/model/TransitionRows" "probabilities" "[D" (.ref AA3)) ∧ (Fld Z hJ a "com/example/probver/probver/model/TransitionRows" "exactProbabilities" "[Lcom/example/probver/probver/util/Rational;" .null) ∧ (Fld Z hJ a "com/example/probver/probver/model/TransitionRows" "transitionCount" "I" (.int (Nat.toInt32 tc))) ∧ (Fld Z hJ a "com/example/probver/probver/model/TransitionRows" "sortKeys" "[J" (.ref AA4)) ∧ (AF Z hJ AA1 kA1 .int 16 f1) ∧ (AF Z hJ AA2 kA2 .int 16 f2) ∧ (AF Z hJ AA3 kA3 .double 16 f3) ∧ (AF Z hJ AA4 kA4 .long 16 g4) ∧ (TP4 c i g4) ∧ ∀ t, Steps p.tables e below (TJ.setTop (mkF m 33 #[.val (.ref a), .val (.int (Nat.toInt32 ft)), .val (.int (Nat.toInt32 (ft + c))), .val (.int (Nat.toInt32 c)), .val (.int (Nat.toInt32 i)), .unset, .unset, .unset, .unset, .unset, .unset] [])) t → Steps p.tables e below (s₁.setTop (entryFrame m #[(.ref a), (.int (Nat.toInt32 ft)), (.int (Nat.toInt32 (ft + c)))] 11)) t) ?_ ?_ (c) ?_
  · intro kk9 IH9
    rintro ⟨TJ10, hJ10, lJ10, i, g4, XJ10, eJ10, NJ10, OJ10, KJ10, hik, E_a, FfirstTransitions, FrowCount, Fsuccessors, Fprobabilities, FexactProbabilities, FtransitionCount, FsortKeys, AF1, AF2, AF3, Ag4, H4, kJ_10⟩
    have hil : i < c := by omega
    obtain ⟨xs, hxs⟩ := H2 (ft + i) (by omega)
    have cn11 := fun (t : State) (kt : Steps p.tables e below (TJ10.setTop (mkF m 36 #[.val (.ref a), .val (.int (Nat.toInt32 ft)), .val (.int (Nat.toInt32 (ft + c))), .val (.int (Nat.toInt32 c)), .val (.int (Nat.toInt32 i)), .unset, .unset, .unset, .unset, .unset, .unset] [(.int (Nat.toInt32 c)), (.int (Nat.toInt32 i))])) t) => kJ_10 t (by
      refine XS.iload XJ10.here hx rfl (hb hby d6_33) rfl ?_
      show Steps p.tables e below (TJ10.setTop (mkF m 35 #[.val (.ref a), .val (.int (Nat.toInt32 ft)), .val (.int (Nat.toInt32 (ft + c))), .val (.int (Nat.toInt32 c)), .val (.int (Nat.toInt32 i)), .unset, .unset, .unset, .unset, .unset, .unset] [(.int (Nat.toInt32 i))])) _
      refine XS.iloadN XJ10.here hx rfl (hb hby d6_35) rfl ?_
      show Steps p.tables e below (TJ10.setTop (mkF m 36 #[.val (.ref a), .val (.int (Nat.toInt32 ft)), .val (.int (Nat.toInt32 (ft + c))), .val (.int (Nat.toInt32 c)), .val (.int (Nat.toInt32 i)), .unset, .unset, .unset, .unset, .unset, .unset] [(.int (Nat.toInt32 c)), (.int (Nat.toInt32 i))])) _
      exact kt)
    have cn12 := fun (t : State) (kt : Steps p.tables e below (TJ10.setTop (mkF m 40 #[.val (.ref a), .val (.int (Nat.toInt32 ft)), .val (.int (Nat.toInt32 (ft + c))), .val (.int (Nat.toInt32 c)), .val (.int (Nat.toInt32 i)), .unset, .unset, .unset, .unset, .unset, .unset] [(.ref a)])) t) => cn11 t (by
      refine XS.icmpNo XJ10.here hx rfl (hb hby d6_36) rfl (tlt ((own_lt (by omega) (by omega)).mpr hil)).2.1 ?_
      show Steps p.tables e below (TJ10.setTop (mkF m 39 #[.val (.ref a), .val (.int (Nat.toInt32 ft)), .val (.int (Nat.toInt32 (ft + c))), .val (.int (Nat.toInt32 c)), .val (.int (Nat.toInt32 i)), .unset, .unset, .unset, .unset, .unset, .unset] [])) _
      refine XS.aloadN XJ10.here hx rfl (hb hby d6_39) rfl rfl ?_
      show Steps p.tables e below (TJ10.setTop (mkF m 40 #[.val (.ref a), .val (.int (Nat.toInt32 ft)), .val (.int (Nat.toInt32 (ft + c))), .val (.int (Nat.toInt32 c)), .val (.int (Nat.toInt32 i)), .unset, .unset, .unset, .unset, .unset, .unset] [(.ref a)])) _
      exact kt)
    obtain ⟨T13, X13, e13, st13⟩ := getF XJ10 hx hZ hown (host := "") (Or.inl (hw _ (List.mem_of_getElem? (i := 18) rfl))) Via.refl eJ10 FsortKeys (g := (mkF m 40 #[.val (.ref a), .val (.int (Nat.toInt32 ft)), .val (.int (Nat.toInt32 (ft + c))), .val (.int (Nat.toInt32 c)), .val (.int (Nat.toInt32 i)), .unset, .unset, .unset, .unset, .unset, .unset] [(.ref a)])) rfl rfl (hb hby d6_40)
    have cn14 := fun (t : State) (kt : Steps p.tables e below (T13.setTop (mkF m 46 #[.val (.ref a), .val (.int (Nat.toInt32 ft)), .val (.int (Nat.toInt32 (ft + c))), .val (.int (Nat.toInt32 c)), .val (.int (Nat.toInt32 i)), .unset, .unset, .unset, .unset, .unset, .unset] [(.ref a), (.int (Nat.toInt32 i)), (.ref AA4)])) t) => cn12 t (by
      refine st13 _ ?_
      show Steps p.tables e below (T13.setTop (mkF m 43 #[.val (.ref a), .val (.int (Nat.toInt32 ft)), .val (.int (Nat.toInt32 (ft + c))), .val (.int (Nat.toInt32 c)), .val (.int (Nat.toInt32 i)), .unset, .unset, .unset, .unset, .unset, .unset] [(.ref AA4)])) _
      refine XS.iload X13.here hx rfl (hb hby d6_43) rfl ?_
      show Steps p.tables e below (T13.setTop (mkF m 45 #[.val (.ref a), .val (.int (Nat.toInt32 ft)), .val (.int (Nat.toInt32 (ft + c))), .val (.int (Nat.toInt32 c)), .val (.int (Nat.toInt32 i)), .unset, .unset, .unset, .unset, .unset, .unset] [(.int (Nat.toInt32 i)), (.ref AA4)])) _
      refine XS.aloadN X13.here hx rfl (hb hby d6_45) rfl rfl ?_
      show Steps p.tables e below (T13.setTop (mkF m 46 #[.val (.ref a), .val (.int (Nat.toInt32 ft)), .val (.int (Nat.toInt32 (ft + c))), .val (.int (Nat.toInt32 c)), .val (.int (Nat.toInt32 i)), .unset, .unset, .unset, .unset, .unset, .unset] [(.ref a), (.int (Nat.toInt32 i)), (.ref AA4)])) _
      exact kt)
    obtain ⟨T15, X15, e15, st15⟩ := getF X13 hx hZ hown (host := "") (Or.inl (hw _ (List.mem_of_getElem? (i := 12) rfl))) Via.refl e13 Fsuccessors (g := (mkF m 46 #[.val (.ref a), .val (.int (Nat.toInt32 ft)), .val (.int (Nat.toInt32 (ft + c))), .val (.int (Nat.toInt32 c)), .val (.int (Nat.toInt32 i)), .unset, .unset, .unset, .unset, .unset, .unset] [(.ref a), (.int (Nat.toInt32 i)), (.ref AA4)])) rfl rfl (hb hby d6_46)
    have cn16 := fun (t : State) (kt : Steps p.tables e below (T15.setTop (mkF m 53 #[.val (.ref a), .val (.int (Nat.toInt32 ft)), .val (.int (Nat.toInt32 (ft + c))), .val (.int (Nat.toInt32 c)), .val (.int (Nat.toInt32 i)), .unset, .unset, .unset, .unset, .unset, .unset] [(.int ((Nat.toInt32 ft) + (Nat.toInt32 i))), (.ref AA2), (.int (Nat.toInt32 i)), (.ref AA4)])) t) => cn14 t (by
      refine st15 _ ?_
      show Steps p.tables e below (T15.setTop (mkF m 49 #[.val (.ref a), .val (.int (Nat.toInt32 ft)), .val (.int (Nat.toInt32 (ft + c))), .val (.int (Nat.toInt32 c)), .val (.int (Nat.toInt32 i)), .unset, .unset, .unset, .unset, .unset, .unset] [(.ref AA2), (.int (Nat.toInt32 i)), (.ref AA4)])) _
      refine XS.iloadN X15.here hx rfl (hb hby d6_49) rfl ?_
      show Steps p.tables e below (T15.setTop (mkF m 50 #[.val (.ref a), .val (.int (Nat.toInt32 ft)), .val (.int (Nat.toInt32 (ft + c))), .val (.int (Nat.toInt32 c)), .val (.int (Nat.toInt32 i)), .unset, .unset, .unset, .unset, .unset, .unset] [(.int (Nat.toInt32 ft)), (.ref AA2), (.int (Nat.toInt32 i)), (.ref AA4)])) _
      refine XS.iload X15.here hx rfl (hb hby d6_50) rfl ?_
      show Steps p.tables e below (T15.setTop (mkF m 52 #[.val (.ref a), .val (.int (Nat.toInt32 ft)), .val (.int (Nat.toInt32 (ft + c))), .val (.int (Nat.toInt32 c)), .val (.int (Nat.toInt32 i)), .unset, .unset, .unset, .unset, .unset, .unset] [(.int (Nat.toInt32 i)), (.int (Nat.toInt32 ft)), (.ref AA2), (.int (Nat.toInt32 i)), (.ref AA4)])) _
      refine XS.iadd X15.here hx rfl (hb hby d6_52) rfl ?_
      show Steps p.tables e below (T15.setTop (mkF m 53 #[.val (.ref a), .val (.int (Nat.toInt32 ft)), .val (.int (Nat.toInt32 (ft + c))), .val (.int (Nat.toInt32 c)), .val (.int (Nat.toInt32 i)), .unset, .unset, .unset, .unset, .unset, .unset] [(.int ((Nat.toInt32 ft) + (Nat.toInt32 i))), (.ref AA2), (.int (Nat.toInt32 i)), (.ref AA4)])) _
      exact kt)
    have cn17 : ∀ t, Steps p.tables e below (T15.setTop (mkF m 53 #[.val (.ref a), .val (.int (Nat.toInt32 ft)), .val (.int (Nat.toInt32 (ft + c))), .val (.int (Nat.toInt32 c)), .val (.int (Nat.toInt32 i)), .unset, .unset, .unset, .unset, .unset, .unset] [(.int (Nat.toInt32 (ft + i))), (.ref AA2), (.int (Nat.toInt32 i)), (.ref AA4)])) t → Steps p.tables e below (s₁.setTop (entryFrame m #[(.ref a), (.int (Nat.toInt32 ft)), (.int (Nat.toInt32 (ft + c)))] 11)) t := by have q := cn16; rw [(id (own_add (by omega)) : ((Nat.toInt32 ft) + (Nat.toInt32 i)) = (Nat.toInt32 (ft + i)))] at q; exact q
    have AFx18 := AF2
    obtain ⟨cl18, Ar18, q18, S18, H18⟩ := AFx18
    have hin18 : ¬ ((Nat.toInt32 (ft + i)) < 0 ∨ cl18.slots.size ≤ ((Nat.toInt32 (ft + i))).toNatClampNeg) := AF.inb S18 (own_ix (by omega)) (by omega)
    have hat18 : cl18.slots[((Nat.toInt32 (ft + i))).toNatClampNeg]? = some (.int xs) := AF.at H18 (own_ix (by omega)) (by omega) hxs
    have cn19 := fun (t : State) (kt : Steps p.tables e below (T15.setTop (mkF m 62 #[.val (.ref a), .val (.int (Nat.toInt32 ft)), .val (.int (Nat.toInt32 (ft + c))), .val (.int (Nat.toInt32 c)), .val (.int (Nat.toInt32 i)), .unset, .unset, .unset, .unset, .unset, .unset] [(.long (((xs.toInt64) <<< ((32 : Int32) &&& 0x3f).toInt64) ||| ((Nat.toInt32 i).toInt64))), (.int (Nat.toInt32 i)), (.ref AA4)])) t) => cn17 t (by
      refine X15.iaload hx (j := (Nat.toInt32 (ft + i))) (v := (.int xs)) (by rw [e15]; exact Ar18.1) (State.isArrayOf_alike hZ.alike Ar18.2.1) Ar18.2.2 hin18 hat18 (g := (mkF m 53 #[.val (.ref a), .val (.int (Nat.toInt32 ft)), .val (.int (Nat.toInt32 (ft + c))), .val (.int (Nat.toInt32 c)), .val (.int (Nat.toInt32 i)), .unset, .unset, .unset, .unset, .unset, .unset] [(.int (Nat.toInt32 (ft + i))), (.ref AA2), (.int (Nat.toInt32 i)), (.ref AA4)])) rfl rfl (hb hby d6_53) _ ?_
      show Steps p.tables e below (T15.setTop (mkF m 54 #[.val (.ref a), .val (.int (Nat.toInt32 ft)), .val (.int (Nat.toInt32 (ft + c))), .val (.int (Nat.toInt32 c)), .val (.int (Nat.toInt32 i)), .unset, .unset, .unset, .unset, .unset, .unset] [(.int xs), (.int (Nat.toInt32 i)), (.ref AA4)])) _
      refine XS.i2l X15.here hx rfl (hb hby d6_54) rfl ?_
      show Steps p.tables e below (T15.setTop (mkF m 55 #[.val (.ref a), .val (.int (Nat.toInt32 ft)), .val (.int (Nat.toInt32 (ft + c))), .val (.int (Nat.toInt32 c)), .val (.int (Nat.toInt32 i)), .unset, .unset, .unset, .unset, .unset, .unset] [(.long (xs.toInt64)), (.int (Nat.toInt32 i)), (.ref AA4)])) _
      refine XS.bipush X15.here hx rfl (hb hby d6_55) ?_
      show Steps p.tables e below (T15.setTop (mkF m 57 #[.val (.ref a), .val (.int (Nat.toInt32 ft)), .val (.int (Nat.toInt32 (ft + c))), .val (.int (Nat.toInt32 c)), .val (.int (Nat.toInt32 i)), .unset, .unset, .unset, .unset, .unset, .unset] [(.int (32 : Int32)), (.long (xs.toInt64)), (.int (Nat.toInt32 i)), (.ref AA4)])) _
      refine XS.lshl X15.here hx rfl (hb hby d6_57) rfl ?_
      show Steps p.tables e below (T15.setTop (mkF m 58 #[.val (.ref a), .val (.int (Nat.toInt32 ft)), .val (.int (Nat.toInt32 (ft + c))), .val (.int (Nat.toInt32 c)), .val (.int (Nat.toInt32 i)), .unset, .unset, .unset, .unset, .unset, .unset] [(.long ((xs.toInt64) <<< ((32 : Int32) &&& 0x3f).toInt64)), (.int (Nat.toInt32 i)), (.ref AA4)])) _
      refine XS.iload X15.here hx rfl (hb hby d6_58) rfl ?_
      show Steps p.tables e below (T15.setTop (mkF m 60 #[.val (.ref a), .val (.int (Nat.toInt32 ft)), .val (.int (Nat.toInt32 (ft + c))), .val (.int (Nat.toInt32 c)), .val (.int (Nat.toInt32 i)), .unset, .unset, .unset, .unset, .unset, .unset] [(.int (Nat.toInt32 i)), (.long ((xs.toInt64) <<< ((32 : Int32) &&& 0x3f).toInt64)), (.int (Nat.toInt32 i)), (.ref AA4)])) _
      refine XS.i2l X15.here hx rfl (hb hby d6_60) rfl ?_
      show Steps p.tables e below (T15.setTop (mkF m 61 #[.val (.ref a), .val (.int (Nat.toInt32 ft)), .val (.int (Nat.toInt32 (ft + c))), .val (.int (Nat.toInt32 c)), .val (.int (Nat.toInt32 i)), .unset, .unset, .unset, .unset, .unset, .unset] [(.long ((Nat.toInt32 i).toInt64)), (.long ((xs.toInt64) <<< ((32 : Int32) &&& 0x3f).toInt64)), (.int (Nat.toInt32 i)), (.ref AA4)])) _
      refine XS.lor X15.here hx rfl (hb hby d6_61) rfl ?_
      show Steps p.tables e below (T15.setTop (mkF m 62 #[.val (.ref a), .val (.int (Nat.toInt32 ft)), .val (.int (Nat.toInt32 (ft + c))), .val (.int (Nat.toInt32 c)), .val (.int (Nat.toInt32 i)), .unset, .unset, .unset, .unset, .unset, .unset] [(.long (((xs.toInt64) <<< ((32 : Int32) &&& 0x3f).toInt64) ||| ((Nat.toInt32 i).toInt64))), (.int (Nat.toInt32 i)), (.ref AA4)])) _
      exact kt)
    have AFx20 := Ag4
    obtain ⟨cl20, Ar20, q20, S20, H20⟩ := AFx20
    have hin20 : ¬ ((Nat.toInt32 i) < 0 ∨ cl20.slots.size ≤ ((Nat.toInt32 i)).toNatClampNeg) := AF.inb S20 (own_ix (by omega)) (by omega)
    obtain ⟨T21, h21, X21, e21, W21, st21⟩ := stJ X15 hx hZ e15 Ar20 (j := (Nat.toInt32 i)) hin20 (g := (mkF m 62 #[.val (.ref a), .val (.int (Nat.toInt32 ft)), .val (.int (Nat.toInt32 (ft + c))), .val (.int (Nat.toInt32 c)), .val (.int (Nat.toInt32 i)), .unset, .unset, .unset, .unset, .unset, .unset] [(.long (((xs.toInt64) <<< ((32 : Int32) &&& 0x3f).toInt64) ||| ((Nat.toInt32 i).toInt64))), (.int (Nat.toInt32 i)), (.ref AA4)])) rfl rfl (hb hby d6_62)
    have E_a_e21 := E_a.wr W21
    have FfirstTransitions_e21 := FfirstTransitions.other W21 (Or.inl ne_a_AA4)
    have FrowCount_e21 := FrowCount.other W21 (Or.inl ne_a_AA4)
    have Fsuccessors_e21 := Fsuccessors.other W21 (Or.inl ne_a_AA4)
    have Fprobabilities_e21 := Fprobabilities.other W21 (Or.inl ne_a_AA4)
    have FexactProbabilities_e21 := FexactProbabilities.other W21 (Or.inl ne_a_AA4)
    have FtransitionCount_e21 := FtransitionCount.other W21 (Or.inl ne_a_AA4)
    have FsortKeys_e21 := FsortKeys.other W21 (Or.inl ne_a_AA4)
    have AF1_e21 := AF1.other W21 ne_AA1_AA4
    have AF2_e21 := AF2.other W21 ne_AA2_AA4
    have AF3_e21 := AF3.other W21 ne_AA3_AA4
    have AF21 : AF Z h21 AA4 kA4 .long 16 (own_upd g4 i (.long (((xs.toInt64) <<< ((32 : Int32) &&& 0x3f).toInt64) ||| ((Nat.toInt32 i).toInt64)))) := AF.set Ar20 q20 S20 H20 W21 (own_ix (by omega)) (by omega)
    have N21 := Fr.snoc X21 NJ10 g_AA4
    have O21 := OJ10.wr W21 g_AA4
    have K21 : Keep h0 h21 [AA2, AA3, AA4] := KJ10.wr W21 (Or.inl (List.mem_of_getElem? (i := 2) rfl))
    have cn22 := fun (t : State) (kt : Steps p.tables e below (T21.setTop (mkF m 66 #[.val (.ref a), .val (.int (Nat.toInt32 ft)), .val (.int (Nat.toInt32 (ft + c))), .val (.int (Nat.toInt32 c)), .val (.int ((Nat.toInt32 i) + (1 : Int32))), .unset, .unset, .unset, .unset, .unset, .unset] [])) t) => cn19 t (by
      refine st21 _ ?_
      show Steps p.tables e below (T21.setTop (mkF m 63 #[.val (.ref a), .val (.int (Nat.toInt32 ft)), .val (.int (Nat.toInt32 (ft + c))), .val (.int (Nat.toInt32 c)), .val (.int (Nat.toInt32 i)), .unset, .unset, .unset, .unset, .unset, .unset] [])) _
      refine XS.iinc X21.here hx rfl (hb hby d6_63) rfl (l' := #[.val (.ref a), .val (.int (Nat.toInt32 ft)), .val (.int (Nat.toInt32 (ft + c))), .val (.int (Nat.toInt32 c)), .val (.int ((Nat.toInt32 i) + (1 : Int32))), .unset, .unset, .unset, .unset, .unset, .unset]) rfl ?_
      show Steps p.tables e below (T21.setTop (mkF m 66 #[.val (.ref a), .val (.int (Nat.toInt32 ft)), .val (.int (Nat.toInt32 (ft + c))), .val (.int (Nat.toInt32 c)), .val (.int ((Nat.toInt32 i) + (1 : Int32))), .unset, .unset, .unset, .unset, .unset, .unset] [])) _
      exact kt)
    have cn23 : ∀ t, Steps p.tables e below (T21.setTop (mkF m 66 #[.val (.ref a), .val (.int (Nat.toInt32 ft)), .val (.int (Nat.toInt32 (ft + c))), .val (.int (Nat.toInt32 c)), .val (.int (Nat.toInt32 (i + 1))), .unset, .unset, .unset, .unset, .unset, .unset] [])) t → Steps p.tables e below (s₁.setTop (entryFrame m #[(.ref a), (.int (Nat.toInt32 ft)), (.int (Nat.toInt32 (ft + c)))] 11)) t := by have q := cn22; rw [(id (own_inc (by omega)) : ((Nat.toInt32 i) + (1 : Int32)) = (Nat.toInt32 (i + 1)))] at q; exact q
    have cn24 := fun (t : State) (kt : Steps p.tables e below (T21.setTop (mkF m 33 #[.val (.ref a), .val (.int (Nat.toInt32 ft)), .val (.int (Nat.toInt32 (ft + c))), .val (.int (Nat.toInt32 c)), .val (.int (Nat.toInt32 (i + 1))), .unset, .unset, .unset, .unset, .unset, .unset] [])) t) => cn23 t (by
      refine XS.goto X21.here hx rfl (pc0 := 66) (pc' := 33) rfl (hb hby d6_66) (by decide) (by decide) ?_
      show Steps p.tables e below (T21.setTop (mkF m 33 #[.val (.ref a), .val (.int (Nat.toInt32 ft)), .val (.int (Nat.toInt32 (ft + c))), .val (.int (Nat.toInt32 c)), .val (.int (Nat.toInt32 (i + 1))), .unset, .unset, .unset, .unset, .unset, .unset] [])) _
      exact kt)
    exact IH9 ⟨T21, h21, _, i + 1, (own_upd g4 i (.long (((xs.toInt64) <<< ((32 : Int32) &&& 0x3f).toInt64) ||| ((Nat.toInt32 i).toInt64)))), own_up X21 (by decide) (by decide), e21, N21, O21, K21, (by omega), E_a_e21, FfirstTransitions_e21, FrowCount_e21, Fsuccessors_e21, Fprobabilities_e21, FexactProbabilities_e21, FtransitionCount_e21, FsortKeys_e21, AF1_e21, AF2_e21, AF3_e21, AF21, (TP4.step H4 (own_key hil hc xs)), cn24⟩
  · rintro ⟨TJ25, hJ25, lJ25, i, g4, XJ25, eJ25, NJ25, OJ25, KJ25, hik, E_a, FfirstTransitions, FrowCount, Fsuccessors, Fprobabilities, FexactProbabilities, FtransitionCount, FsortKeys, AF1, AF2, AF3, Ag4, H4, kJ_25⟩
    obtain rfl : c = i := by omega
    have cn26 := fun (t : State) (kt : Steps p.tables e below (TJ25.setTop (mkF m 36 #[.val (.ref a), .val (.int (Nat.toInt32 ft)), .val (.int (Nat.toInt32 (ft + c))), .val (.int (Nat.toInt32 c)), .val (.int (Nat.toInt32 c)), .unset, .unset, .unset, .unset, .unset, .unset] [(.int (Nat.toInt32 c)), (.int (Nat.toInt32 c))])) t) => kJ_25 t (by
      refine XS.iload XJ25.here hx rfl (hb hby d6_33) rfl ?_
      show Steps p.tables e below (TJ25.setTop (mkF m 35 #[.val (.ref a), .val (.int (Nat.toInt32 ft)), .val (.int (Nat.toInt32 (ft + c))), .val (.int (Nat.toInt32 c)), .val (.int (Nat.toInt32 c)), .unset, .unset, .unset, .unset, .unset, .unset] [(.int (Nat.toInt32 c))])) _
      refine XS.iloadN XJ25.here hx rfl (hb hby d6_35) rfl ?_
      show Steps p.tables e below (TJ25.setTop (mkF m 36 #[.val (.ref a), .val (.int (Nat.toInt32 ft)), .val (.int (Nat.toInt32 (ft + c))), .val (.int (Nat.toInt32 c)), .val (.int (Nat.toInt32 c)), .unset, .unset, .unset, .unset, .unset, .unset] [(.int (Nat.toInt32 c)), (.int (Nat.toInt32 c))])) _
      exact kt)
    have cn27 := fun (t : State) (kt : Steps p.tables e below (TJ25.setTop (mkF m 70 #[.val (.ref a), .val (.int (Nat.toInt32 ft)), .val (.int (Nat.toInt32 (ft + c))), .val (.int (Nat.toInt32 c)), .val (.int (Nat.toInt32 c)), .unset, .unset, .unset, .unset, .unset, .unset] [(.ref a)])) t) => cn26 t (by
      refine XS.icmpYes XJ25.here hx rfl (pc0 := 36) (pc' := 69) rfl (hb hby d6_36) rfl (flt (fun q => Nat.lt_irrefl _ ((own_lt (by omega) (by omega)).mp q))).2.1 (by decide) (by decide) ?_
      show Steps p.tables e below (TJ25.setTop (mkF m 69 #[.val (.ref a), .val (.int (Nat.toInt32 ft)), .val (.int (Nat.toInt32 (ft + c))), .val (.int (Nat.toInt32 c)), .val (.int (Nat.toInt32 c)), .unset, .unset, .unset, .unset, .unset, .unset] [])) _
      refine XS.aloadN XJ25.here hx rfl (hb hby d6_69) rfl rfl ?_
      show Steps p.tables e below (TJ25.setTop (mkF m 70 #[.val (.ref a), .val (.int (Nat.toInt32 ft)), .val (.int (Nat.toInt32 (ft + c))), .val (.int (Nat.toInt32 c)), .val (.int (Nat.toInt32 c)), .unset, .unset, .unset, .unset, .unset, .unset] [(.ref a)])) _
      exact kt)
    obtain ⟨T28, X28, e28, st28⟩ := getF XJ25 hx hZ hown (host := "") (Or.inl (hw _ (List.mem_of_getElem? (i := 18) rfl))) Via.refl eJ25 FsortKeys (g := (mkF m 70 #[.val (.ref a), .val (.int (Nat.toInt32 ft)), .val (.int (Nat.toInt32 (ft + c))), .val (.int (Nat.toInt32 c)), .val (.int (Nat.toInt32 c)), .unset, .unset, .unset, .unset, .unset, .unset] [(.ref a)])) rfl rfl (hb hby d6_70)
    have cn29 := fun (t : State) (kt : Steps p.tables e below (T28.setTop (mkF m 75 #[.val (.ref a), .val (.int (Nat.toInt32 ft)), .val (.int (Nat.toInt32 (ft + c))), .val (.int (Nat.toInt32 c)), .val (.int (Nat.toInt32 c)), .unset, .unset, .unset, .unset, .unset, .unset] [(.int (Nat.toInt32 c)), (.int (0 : Int32)), (.ref AA4)])) t) => cn27 t (by
      refine st28 _ ?_
      show Steps p.tables e below (T28.setTop (mkF m 73 #[.val (.ref a), .val (.int (Nat.toInt32 ft)), .val (.int (Nat.toInt32 (ft + c))), .val (.int (Nat.toInt32 c)), .val (.int (Nat.toInt32 c)), .unset, .unset, .unset, .unset, .unset, .unset] [(.ref AA4)])) _
      refine XS.iconst X28.here hx rfl (hb hby d6_73) ?_
      show Steps p.tables e below (T28.setTop (mkF m 74 #[.val (.ref a), .val (.int (Nat.toInt32 ft)), .val (.int (Nat.toInt32 (ft + c))), .val (.int (Nat.toInt32 c)), .val (.int (Nat.toInt32 c)), .unset, .unset, .unset, .unset, .unset, .unset] [(.int (0 : Int32)), (.ref AA4)])) _
      refine XS.iloadN X28.here hx rfl (hb hby d6_74) rfl ?_
      show Steps p.tables e below (T28.setTop (mkF m 75 #[.val (.ref a), .val (.int (Nat.toInt32 ft)), .val (.int (Nat.toInt32 (ft + c))), .val (.int (Nat.toInt32 c)), .val (.int (Nat.toInt32 c)), .unset, .unset, .unset, .unset, .unset, .unset] [(.int (Nat.toInt32 c)), (.int (0 : Int32)), (.ref AA4)])) _
      exact kt)
    obtain ⟨_, _, ⟨T30, L30, k30, n30⟩, -, X30, ⟨Lc30, hQ30, l30, y30, z30⟩, st30⟩ := Jvm.LawKit.callS X28 hx (y := (⟨"java/util/Arrays", "sort", "([JII)V"⟩ : MethodName)) hown (mvT hZ (hw _ (List.mem_of_getElem? (i := 42) rfl))) (mvT hZ (hw _ (List.mem_of_getElem? (i := 43) rfl))) (mvT hZ (hw _ (List.mem_of_getElem? (i := 44) rfl))) (mvT hZ (hw _ (List.mem_of_getElem? (i := 45) rfl))) (by decide) (backOf (W := 0) (rm7 l Z a0 hw [] AA4 kA4 c g4 hJ25 n0 OJ25 g_AA4 hc Ag4 H4) hZ (hw _ (List.mem_of_getElem? (i := 45) rfl)) (hw _ (List.mem_of_getElem? (i := 44) rfl)) (by decide) (by decide)) (g := (mkF m 75 #[.val (.ref a), .val (.int (Nat.toInt32 ft)), .val (.int (Nat.toInt32 (ft + c))), .val (.int (Nat.toInt32 c)), .val (.int (Nat.toInt32 c)), .unset, .unset, .unset, .unset, .unset, .unset] [(.int (Nat.toInt32 c)), (.int (0 : Int32)), (.ref AA4)])) rfl (by rw [hml]; rfl) (argsL := [(.ref AA4), (.int (0 : Int32)), (.int (Nat.toInt32 c))]) (rest := []) (lenOf pd_2 rfl) rfl (by show 2 * 0 + _ ≤ _; exact Nat.le_of_eq rfl) (hb hby d6_75) (fun _ _ => ⟨rfl, e28, (by decide : 0 + 0 ≤ _), (by decide : 0 + 0 ≤ _)⟩)
    dsimp only [Pt.U, Pt.locs, Pt.cells, Pt.slots] at X30 l30 y30 z30 st30 hQ30
    subst l30 y30 z30
    obtain ⟨gq30, rfl, Nq30, Kq30, Aq30, Hq30⟩ := hQ30
    have N30 := Fr.app NJ25 Nq30
    have K30 := Kq30
    have E_a_e30 := E_a.keep K30
    have FfirstTransitions_e30 := FfirstTransitions.keep K30 (ninS ne_a_AA4 nin0)
    have FrowCount_e30 := FrowCount.keep K30 (ninS ne_a_AA4 nin0)
    have Fsuccessors_e30 := Fsuccessors.keep K30 (ninS ne_a_AA4 nin0)
    have Fprobabilities_e30 := Fprobabilities.keep K30 (ninS ne_a_AA4 nin0)
    have FexactProbabilities_e30 := FexactProbabilities.keep K30 (ninS ne_a_AA4 nin0)
    have FtransitionCount_e30 := FtransitionCount.keep K30 (ninS ne_a_AA4 nin0)
    have FsortKeys_e30 := FsortKeys.keep K30 (ninS ne_a_AA4 nin0)
    have AF1_e30 := AF1.keep K30 (ninS ne_AA1_AA4 nin0)
    have AF2_e30 := AF2.keep K30 (ninS ne_AA2_AA4 nin0)
    have AF3_e30 := AF3.keep K30 (ninS ne_AA3_AA4 nin0)
    have O30 := OJ25.keep K30 (allS g_AA4 all0)
    have KK30 : Keep h0 T30.heap [AA2, AA3, AA4] := KJ25.trans K30 (allS (Or.inl (List.mem_of_getElem? (i := 2) rfl)) all0)
    have cn31 := fun (t : State) (kt : Steps p.tables e below (T30.setTop (mkF m 79 #[.val (.ref a), .val (.int (Nat.toInt32 ft)), .val (.int (Nat.toInt32 (ft + c))), .val (.int (Nat.toInt32 c)), .val (.int (Nat.toInt32 c)), .unset, .unset, .unset, .unset, .unset, .unset] [(.ref a)])) t) => cn29 t (by
      refine st30 _ ?_
      show Steps p.tables e below (T30.setTop (mkF m 78 #[.val (.ref a), .val (.int (Nat.toInt32 ft)), .val (.int (Nat.toInt32 (ft + c))), .val (.int (Nat.toInt32 c)), .val (.int (Nat.toInt32 c)), .unset, .unset, .unset, .unset, .unset, .unset] [])) _
      refine XS.aloadN X30.here hx rfl (hb hby d6_78) rfl rfl ?_
      show Steps p.tables e below (T30.setTop (mkF m 79 #[.val (.ref a), .val (.int (Nat.toInt32 ft)), .val (.int (Nat.toInt32 (ft + c))), .val (.int (Nat.toInt32 c)), .val (.int (Nat.toInt32 c)), .unset, .unset, .unset, .unset, .unset, .unset] [(.ref a)])) _
      exact kt)
    obtain ⟨T32, X32, e32, st32⟩ := getF X30 hx hZ hown (host := "") (Or.inl (hw _ (List.mem_of_getElem? (i := 15) rfl))) Via.refl rfl Fprobabilities_e30 (g := (mkF m 79 #[.val (.ref a), .val (.int (Nat.toInt32 ft)), .val (.int (Nat.toInt32 (ft + c))), .val (.int (Nat.toInt32 c)), .val (.int (Nat.toInt32 c)), .unset, .unset, .unset, .unset, .unset, .unset] [(.ref a)])) rfl rfl (hb hby d6_79)
    have cn33 := fun (t : State) (kt : Steps p.tables e below (T32.setTop (mkF m 84 #[.val (.ref a), .val (.int (Nat.toInt32 ft)), .val (.int (Nat.toInt32 (ft + c))), .val (.int (Nat.toInt32 c)), .val (.int (Nat.toInt32 c)), .unset, .unset, .unset, .unset, .unset, .unset] [(.int (Nat.toInt32 (ft + c))), (.int (Nat.toInt32 ft)), (.ref AA3)])) t) => cn31 t (by
      refine st32 _ ?_
      show Steps p.tables e below (T32.setTop (mkF m 82 #[.val (.ref a), .val (.int (Nat.toInt32 ft)), .val (.int (Nat.toInt32 (ft + c))), .val (.int (Nat.toInt32 c)), .val (.int (Nat.toInt32 c)), .unset, .unset, .unset, .unset, .unset, .unset] [(.ref AA3)])) _
      refine XS.iloadN X32.here hx rfl (hb hby d6_82) rfl ?_
      show Steps p.tables e below (T32.setTop (mkF m 83 #[.val (.ref a), .val (.int (Nat.toInt32 ft)), .val (.int (Nat.toInt32 (ft + c))), .val (.int (Nat.toInt32 c)), .val (.int (Nat.toInt32 c)), .unset, .unset, .unset, .unset, .unset, .unset] [(.int (Nat.toInt32 ft)), (.ref AA3)])) _
      refine XS.iloadN X32.here hx rfl (hb hby d6_83) rfl ?_
      show Steps p.tables e below (T32.setTop (mkF m 84 #[.val (.ref a), .val (.int (Nat.toInt32 ft)), .val (.int (Nat.toInt32 (ft + c))), .val (.int (Nat.toInt32 c)), .val (.int (Nat.toInt32 c)), .unset, .unset, .unset, .unset, .unset, .unset] [(.int (Nat.toInt32 (ft + c))), (.int (Nat.toInt32 ft)), (.ref AA3)])) _
      exact kt)
    obtain ⟨_, _, ⟨T34, L34, k34, n34⟩, -, X34, ⟨Lc34, hQ34, l34, y34, z34⟩, st34⟩ := Jvm.LawKit.callS X32 hx (y := (⟨"java/util/Arrays", "copyOfRange", "([DII)[D"⟩ : MethodName)) hown (mvT hZ (hw _ (List.mem_of_getElem? (i := 59) rfl))) (mvT hZ (hw _ (List.mem_of_getElem? (i := 60) rfl))) (mvT hZ (hw _ (List.mem_of_getElem? (i := 44) rfl))) (mvT hZ (hw _ (List.mem_of_getElem? (i := 61) rfl))) (by decide) (backOf (W := 0) (rm12 l Z a0 hw [] AA3 kA3 f3 ft c M T30.heap n0 O30 hc hfc AF3_e30 HT) hZ (hw _ (List.mem_of_getElem? (i := 61) rfl)) (hw _ (List.mem_of_getElem? (i := 44) rfl)) (by decide) (by decide)) (g := (mkF m 84 #[.val (.ref a), .val (.int (Nat.toInt32 ft)), .val (.int (Nat.toInt32 (ft + c))), .val (.int (Nat.toInt32 c)), .val (.int (Nat.toInt32 c)), .unset, .unset, .unset, .unset, .unset, .unset] [(.int (Nat.toInt32 (ft + c))), (.int (Nat.toInt32 ft)), (.ref AA3)])) rfl (by rw [hml]; rfl) (argsL := [(.ref AA3), (.int (Nat.toInt32 ft)), (.int (Nat.toInt32 (ft + c)))]) (rest := []) (lenOf pd_8 rfl) rfl (by show 2 * 0 + _ ≤ _; exact Nat.le_of_eq rfl) (hb hby d6_84) (fun _ _ => ⟨rfl, e32, (by decide : 0 + 1 ≤ _), (by decide : 0 + 4 ≤ _)⟩)
    dsimp only [Pt.U, Pt.locs, Pt.cells, Pt.slots] at X34 l34 y34 z34 st34 hQ34
    subst l34 y34 z34
    obtain ⟨r34x, kr34, fr34, rfl, Nq34, Kq34, szq34, Aq34, Hr34⟩ := hQ34
    have N34 := Fr.app N30 Nq34
    have ne_a_r34x : a ≠ r34x := Nat.ne_of_lt (Nat.lt_of_lt_of_le E_a_e30.lt szq34)
    have ne_AA1_r34x : AA1 ≠ r34x := Nat.ne_of_lt (Nat.lt_of_lt_of_le AF1_e30.lt szq34)
    have ne_AA2_r34x : AA2 ≠ r34x := Nat.ne_of_lt (Nat.lt_of_lt_of_le AF2_e30.lt szq34)
    have ne_AA3_r34x : AA3 ≠ r34x := Nat.ne_of_lt (Nat.lt_of_lt_of_le AF3_e30.lt szq34)
    have ne_AA4_r34x : AA4 ≠ r34x := Nat.ne_of_lt (Nat.lt_of_lt_of_le Aq30.lt szq34)
    have sz_r34x : h0.size ≤ r34x := Nat.le_trans KK30.1 szq34
    have K34 := Kq34
    have E_a_e34 := E_a_e30.keep K34
    have FfirstTransitions_e34 := FfirstTransitions_e30.keep K34 nin0
    have FrowCount_e34 := FrowCount_e30.keep K34 nin0
    have Fsuccessors_e34 := Fsuccessors_e30.keep K34 nin0
    have Fprobabilities_e34 := Fprobabilities_e30.keep K34 nin0
    have FexactProbabilities_e34 := FexactProbabilities_e30.keep K34 nin0
    have FtransitionCount_e34 := FtransitionCount_e30.keep K34 nin0
    have FsortKeys_e34 := FsortKeys_e30.keep K34 nin0
    have AF1_e34 := AF1_e30.keep K34 nin0
    have AF2_e34 := AF2_e30.keep K34 nin0
    have AF3_e34 := AF3_e30.keep K34 nin0
    have Aq30_e34 := Aq30.keep K34 nin0
    have O34 := O30.keep K34 all0
    have KK34 : Keep h0 T34.heap [AA2, AA3, AA4] := KK30.trans K34 all0
    have cn35 := fun (t : State) (kt : Steps p.tables e below (T34.setTop (mkF m 90 #[.val (.ref a), .val (.int (Nat.toInt32 ft)), .val (.int (Nat.toInt32 (ft + c))), .val (.int (Nat.toInt32 c)), .val (.ref r34x), .unset, .unset, .unset, .unset, .unset, .unset] [(.ref a)])) t) => cn33 t (by
      refine st34 _ ?_
      show Steps p.tables e below (T34.setTop (mkF m 87 #[.val (.ref a), .val (.int (Nat.toInt32 ft)), .val (.int (Nat.toInt32 (ft + c))), .val (.int (Nat.toInt32 c)), .val (.int (Nat.toInt32 c)), .unset, .unset, .unset, .unset, .unset, .unset] [(.ref r34x)])) _
      refine XS.astore X34.here hx rfl (hb hby d6_87) rfl rfl (l' := #[.val (.ref a), .val (.int (Nat.toInt32 ft)), .val (.int (Nat.toInt32 (ft + c))), .val (.int (Nat.toInt32 c)), .val (.ref r34x), .unset, .unset, .unset, .unset, .unset, .unset]) rfl ?_
      show Steps p.tables e below (T34.setTop (mkF m 89 #[.val (.ref a), .val (.int (Nat.toInt32 ft)), .val (.int (Nat.toInt32 (ft + c))), .val (.int (Nat.toInt32 c)), .val (.ref r34x), .unset, .unset, .unset, .unset, .unset, .unset] [])) _
      refine XS.aloadN X34.here hx rfl (hb hby d6_89) rfl rfl ?_
      show Steps p.tables e below (T34.setTop (mkF m 90 #[.val (.ref a), .val (.int (Nat.toInt32 ft)), .val (.int (Nat.toInt32 (ft + c))), .val (.int (Nat.toInt32 c)), .val (.ref r34x), .unset, .unset, .unset, .unset, .unset, .unset] [(.ref a)])) _
      exact kt)
    obtain ⟨T36, X36, e36, st36⟩ := getF X34 hx hZ hown (host := "") (Or.inl (hw _ (List.mem_of_getElem? (i := 76) rfl))) Via.refl rfl FexactProbabilities_e34 (g := (mkF m 90 #[.val (.ref a), .val (.int (Nat.toInt32 ft)), .val (.int (Nat.toInt32 (ft + c))), .val (.int (Nat.toInt32 c)), .val (.ref r34x), .unset, .unset, .unset, .unset, .unset, .unset] [(.ref a)])) rfl rfl (hb hby d6_90)
    have cn37 := fun (t : State) (kt : Steps p.tables e below (T36.setTop (mkF m 120 #[.val (.ref a), .val (.int (Nat.toInt32 ft)), .val (.int (Nat.toInt32 (ft + c))), .val (.int (Nat.toInt32 c)), .val (.ref r34x), .val .null, .val (.int (0 : Int32)), .val (.int (0 : Int32)), .unset, .unset, .unset] [])) t) => cn35 t (by
      refine st36 _ ?_
      show Steps p.tables e below (T36.setTop (mkF m 93 #[.val (.ref a), .val (.int (Nat.toInt32 ft)), .val (.int (Nat.toInt32 (ft + c))), .val (.int (Nat.toInt32 c)), .val (.ref r34x), .unset, .unset, .unset, .unset, .unset, .unset] [.null])) _
      refine XS.ifnonnullNo X36.here hx rfl (hb hby d6_93) rfl ?_
      show Steps p.tables e below (T36.setTop (mkF m 96 #[.val (.ref a), .val (.int (Nat.toInt32 ft)), .val (.int (Nat.toInt32 (ft + c))), .val (.int (Nat.toInt32 c)), .val (.ref r34x), .unset, .unset, .unset, .unset, .unset, .unset] [])) _
      refine XS.aconstNull X36.here hx rfl (hb hby d6_96) ?_
      show Steps p.tables e below (T36.setTop (mkF m 97 #[.val (.ref a), .val (.int (Nat.toInt32 ft)), .val (.int (Nat.toInt32 (ft + c))), .val (.int (Nat.toInt32 c)), .val (.ref r34x), .unset, .unset, .unset, .unset, .unset, .unset] [.null])) _
      refine XS.goto X36.here hx rfl (pc0 := 97) (pc' := 112) rfl (hb hby d6_97) (by decide) (by decide) ?_
      show Steps p.tables e below (T36.setTop (mkF m 112 #[.val (.ref a), .val (.int (Nat.toInt32 ft)), .val (.int (Nat.toInt32 (ft + c))), .val (.int (Nat.toInt32 c)), .val (.ref r34x), .unset, .unset, .unset, .unset, .unset, .unset] [.null])) _
      refine XS.astore X36.here hx rfl (hb hby d6_112) rfl rfl (l' := #[.val (.ref a), .val (.int (Nat.toInt32 ft)), .val (.int (Nat.toInt32 (ft + c))), .val (.int (Nat.toInt32 c)), .val (.ref r34x), .val .null, .unset, .unset, .unset, .unset, .unset]) rfl ?_
      show Steps p.tables e below (T36.setTop (mkF m 114 #[.val (.ref a), .val (.int (Nat.toInt32 ft)), .val (.int (Nat.toInt32 (ft + c))), .val (.int (Nat.toInt32 c)), .val (.ref r34x), .val .null, .unset, .unset, .unset, .unset, .unset] [])) _
      refine XS.iconst X36.here hx rfl (hb hby d6_114) ?_
      show Steps p.tables e below (T36.setTop (mkF m 115 #[.val (.ref a), .val (.int (Nat.toInt32 ft)), .val (.int (Nat.toInt32 (ft + c))), .val (.int (Nat.toInt32 c)), .val (.ref r34x), .val .null, .unset, .unset, .unset, .unset, .unset] [(.int (0 : Int32))])) _
      refine XS.istore X36.here hx rfl (hb hby d6_115) rfl (l' := #[.val (.ref a), .val (.int (Nat.toInt32 ft)), .val (.int (Nat.toInt32 (ft + c))), .val (.int (Nat.toInt32 c)), .val (.ref r34x), .val .null, .val (.int (0 : Int32)), .unset, .unset, .unset, .unset]) rfl ?_
      show Steps p.tables e below (T36.setTop (mkF m 117 #[.val (.ref a), .val (.int (Nat.toInt32 ft)), .val (.int (Nat.toInt32 (ft + c))), .val (.int (Nat.toInt32 c)), .val (.ref r34x), .val .null, .val (.int (0 : Int32)), .unset, .unset, .unset, .unset] [])) _
      refine XS.iconst X36.here hx rfl (hb hby d6_117) ?_
      show Steps p.tables e below (T36.setTop (mkF m 118 #[.val (.ref a), .val (.int (Nat.toInt32 ft)), .val (.int (Nat.toInt32 (ft + c))), .val (.int (Nat.toInt32 c)), .val (.ref r34x), .val .null, .val (.int (0 : Int32)), .unset, .unset, .unset, .unset] [(.int (0 : Int32))])) _
      refine XS.istore X36.here hx rfl (hb hby d6_118) rfl (l' := #[.val (.ref a), .val (.int (Nat.toInt32 ft)), .val (.int (Nat.toInt32 (ft + c))), .val (.int (Nat.toInt32 c)), .val (.ref r34x), .val .null, .val (.int (0 : Int32)), .val (.int (0 : Int32)), .unset, .unset, .unset]) rfl ?_
      show Steps p.tables e below (T36.setTop (mkF m 120 #[.val (.ref a), .val (.int (Nat.toInt32 ft)), .val (.int (Nat.toInt32 (ft + c))), .val (.int (Nat.toInt32 c)), .val (.ref r34x), .val .null, .val (.int (0 : Int32)), .val (.int (0 : Int32)), .unset, .unset, .unset] [])) _
      exact kt)
    refine own_loop (A := fun kk => ∃ (TJ : State) (hJ : Heap) (lJ : List Loc) (i : Nat) (mq : Nat) (g2 : Nat → Value) (g3 : Nat → Value) (s8 : Slot) (s9 : Slot) (s10 : Slot), Stand p l e ({ frames := 4, cells := 1, slots := 4, locals := 86 } : Room) s m #[(.ref a), (.int (Nat.toInt32 ft)), (.int (Nat.toInt32 (ft + c)))] below meth kode TJ lJ 1 4 ∧ TJ.heap = hJ ∧ Fr n0 lJ ∧ Old Z n0 hJ ∧ Keep h0 hJ [AA2, AA3, AA4] ∧ (i + kk = c) ∧ (mq ≤ i) ∧ (One s8) ∧ (One s9) ∧ (One s10) ∧ (Exa Z hJ a "com/example/probver/probver/model/TransitionRows") ∧ (Fld Z hJ a "com/example/probver/probver/model/TransitionRows" "firstTransitions" "[I" (.ref AA1)) ∧ (Fld Z hJ a "com/example/probver/probver/model/TransitionRows" "rowCount" "I" (.int (Nat.toInt32 rc))) ∧ (Fld Z hJ a "com/example/probver/probver/model/TransitionRows" "successors" "[I" (.ref AA2)) ∧ (Fld Z hJ a "com/example/probver/probver/model/TransitionRows" "probabilities" "[D" (.ref AA3)) ∧ (Fld Z hJ a "com/example/probver/probver/model/TransitionRows" "exactProbabilities" "[Lcom/example/probver/probver/util/Rational;" .null) ∧ (Fld Z hJ a "com/example/probver/probver/model/TransitionRows" "transitionCount" "I" (.int (Nat.toInt32 tc))) ∧ (Fld Z hJ a "com/example/probver/probver/model/TransitionRows" "sortKeys" "[J" (.ref AA4)) ∧ (AF Z hJ AA1 kA1 .int 16 f1) ∧ (AF Z hJ AA2 kA2 .int 16 g2) ∧ (AF Z hJ AA3 kA3 .double 16 g3) ∧ (AF Z hJ AA4 kA4 .long 16 gq30) ∧ (AF Z hJ r34x kr34 .double c fr34) ∧ (T2 g2) ∧ (TP3 (M * (i + 1)) g3) ∧ ∀ t, Steps p.tables e below (TJ.setTop (mkF m 120 #[.val (.ref a), .val (.int (Nat.toInt32 ft)), .val (.int (Nat.toInt32 (ft + c))), .val (.int (Nat.toInt32 c)), .val (.ref r34x), .val .null, .val (.int (Nat.toInt32 mq)), .val (.int (Nat.toInt32 i)), s8, s9, s10] [])) t → Steps p.tables e below (s₁.setTop (entryFrame m #[(.ref a), (.int (Nat.toInt32 ft)), (.int (Nat.toInt32 (ft + c)))] 11)) t) ?_ ?_ (c) ?_
    · intro kk38 IH38
      rintro ⟨TJ39, hJ39, lJ39, i, mq, g2, g3, s8, s9, s10, XJ39, eJ39, NJ39, OJ39, KJ39, hik, hmi, ho8, ho9, ho10, E_a, FfirstTransitions, FrowCount, Fsuccessors, Fprobabilities, FexactProbabilities, FtransitionCount, FsortKeys, AF1, Ag2, Ag3, Ag4, Afr, H2g, H3g, kJ_39⟩
      have hil : i < c := by omega
      obtain ⟨key, hkey, jf, hjf, hkj⟩ := Hq30 i hil
      obtain ⟨vu, hvu, hvu0, hvu1⟩ := Hr34 jf hjf
      have hMi : M * (i + 1) + M = M * (i + 1 + 1) := by rw [Nat.mul_add M (i + 1) 1, Nat.mul_one]
      have hMb : M * (i + 1 + 1) ≤ M * 5 := Nat.mul_le_mul_left M (by omega)
      have cn40 := fun (t : State) (kt : Steps p.tables e below (TJ39.setTop (mkF m 123 #[.val (.ref a), .val (.int (Nat.toInt32 ft)), .val (.int (Nat.toInt32 (ft + c))), .val (.int (Nat.toInt32 c)), .val (.ref r34x), .val .null, .val (.int (Nat.toInt32 mq)), .val (.int (Nat.toInt32 i)), s8, s9, s10] [(.int (Nat.toInt32 c)), (.int (Nat.toInt32 i))])) t) => kJ_39 t (by
        refine XS.iload XJ39.here hx rfl (hb hby d6_120) rfl ?_
        show Steps p.tables e below (TJ39.setTop (mkF m 122 #[.val (.ref a), .val (.int (Nat.toInt32 ft)), .val (.int (Nat.toInt32 (ft + c))), .val (.int (Nat.toInt32 c)), .val (.ref r34x), .val .null, .val (.int (Nat.toInt32 mq)), .val (.int (Nat.toInt32 i)), s8, s9, s10] [(.int (Nat.toInt32 i))])) _
        refine XS.iloadN XJ39.here hx rfl (hb hby d6_122) rfl ?_
        show Steps p.tables e below (TJ39.setTop (mkF m 123 #[.val (.ref a), .val (.int (Nat.toInt32 ft)), .val (.int (Nat.toInt32 (ft + c))), .val (.int (Nat.toInt32 c)), .val (.ref r34x), .val .null, .val (.int (Nat.toInt32 mq)), .val (.int (Nat.toInt32 i)), s8, s9, s10] [(.int (Nat.toInt32 c)), (.int (Nat.toInt32 i))])) _
        exact kt)
      have cn41 := fun (t : State) (kt : Steps p.tables e below (TJ39.setTop (mkF m 127 #[.val (.ref a), .val (.int (Nat.toInt32 ft)), .val (.int (Nat.toInt32 (ft + c))), .val (.int (Nat.toInt32 c)), .val (.ref r34x), .val .null, .val (.int (Nat.toInt32 mq)), .val (.int (Nat.toInt32 i)), s8, s9, s10] [(.ref a)])) t) => cn40 t (by
        refine XS.icmpNo XJ39.here hx rfl (hb hby d6_123) rfl (tlt ((own_lt (by omega) (by omega)).mpr hil)).2.1 ?_
        show Steps p.tables e below (TJ39.setTop (mkF m 126 #[.val (.ref a), .val (.int (Nat.toInt32 ft)), .val (.int (Nat.toInt32 (ft + c))), .val (.int (Nat.toInt32 c)), .val (.ref r34x), .val .null, .val (.int (Nat.toInt32 mq)), .val (.int (Nat.toInt32 i)), s8, s9, s10] [])) _
        refine XS.aloadN XJ39.here hx rfl (hb hby d6_126) rfl rfl ?_
        show Steps p.tables e below (TJ39.setTop (mkF m 127 #[.val (.ref a), .val (.int (Nat.toInt32 ft)), .val (.int (Nat.toInt32 (ft + c))), .val (.int (Nat.toInt32 c)), .val (.ref r34x), .val .null, .val (.int (Nat.toInt32 mq)), .val (.int (Nat.toInt32 i)), s8, s9, s10] [(.ref a)])) _
        exact kt)
      obtain ⟨T42, X42, e42, st42⟩ := getF XJ39 hx hZ hown (host := "") (Or.inl (hw _ (List.mem_of_getElem? (i := 18) rfl))) Via.refl eJ39 FsortKeys (g := (mkF m 127 #[.val (.ref a), .val (.int (Nat.toInt32 ft)), .val (.int (Nat.toInt32 (ft + c))), .val (.int (Nat.toInt32 c)), .val (.ref r34x), .val .null, .val (.int (Nat.toInt32 mq)), .val (.int (Nat.toInt32 i)), s8, s9, s10] [(.ref a)])) rfl rfl (hb hby d6_127)
      have cn43 := fun (t : State) (kt : Steps p.tables e below (T42.setTop (mkF m 132 #[.val (.ref a), .val (.int (Nat.toInt32 ft)), .val (.int (Nat.toInt32 (ft + c))), .val (.int (Nat.toInt32 c)), .val (.ref r34x), .val .null, .val (.int (Nat.toInt32 mq)), .val (.int (Nat.toInt32 i)), s8, s9, s10] [(.int (Nat.toInt32 i)), (.ref AA4)])) t) => cn41 t (by
        refine st42 _ ?_
        show Steps p.tables e below (T42.setTop (mkF m 130 #[.val (.ref a), .val (.int (Nat.toInt32 ft)), .val (.int (Nat.toInt32 (ft + c))), .val (.int (Nat.toInt32 c)), .val (.ref r34x), .val .null, .val (.int (Nat.toInt32 mq)), .val (.int (Nat.toInt32 i)), s8, s9, s10] [(.ref AA4)])) _
        refine XS.iload X42.here hx rfl (hb hby d6_130) rfl ?_
        show Steps p.tables e below (T42.setTop (mkF m 132 #[.val (.ref a), .val (.int (Nat.toInt32 ft)), .val (.int (Nat.toInt32 (ft + c))), .val (.int (Nat.toInt32 c)), .val (.ref r34x), .val .null, .val (.int (Nat.toInt32 mq)), .val (.int (Nat.toInt32 i)), s8, s9, s10] [(.int (Nat.toInt32 i)), (.ref AA4)])) _
        exact kt)
      have AFx44 := Ag4
      obtain ⟨cl44, Ar44, q44, S44, H44⟩ := AFx44
      have hin44 : ¬ ((Nat.toInt32 i) < 0 ∨ cl44.slots.size ≤ ((Nat.toInt32 i)).toNatClampNeg) := AF.inb S44 (own_ix (by omega)) (by omega)
      have hat44 : cl44.slots[((Nat.toInt32 i)).toNatClampNeg]? = some (.long key) := AF.at H44 (own_ix (by omega)) (by omega) hkey
      have cn45 := fun (t : State) (kt : Steps p.tables e below (T42.setTop (mkF m 140 #[.val (.ref a), .val (.int (Nat.toInt32 ft)), .val (.int (Nat.toInt32 (ft + c))), .val (.int (Nat.toInt32 c)), .val (.ref r34x), .val .null, .val (.int (Nat.toInt32 mq)), .val (.int (Nat.toInt32 i)), .val (.int (((key.toUInt64 >>> ((32 : Int32) &&& 0x3f).toInt64.toUInt64).toInt64).toInt32)), s9, s10] [(.ref a)])) t) => cn43 t (by
        refine X42.laload hx (j := (Nat.toInt32 i)) (v := (.long key)) (by rw [e42]; exact Ar44.1) (State.isArrayOf_alike hZ.alike Ar44.2.1) Ar44.2.2 hin44 hat44 (g := (mkF m 132 #[.val (.ref a), .val (.int (Nat.toInt32 ft)), .val (.int (Nat.toInt32 (ft + c))), .val (.int (Nat.toInt32 c)), .val (.ref r34x), .val .null, .val (.int (Nat.toInt32 mq)), .val (.int (Nat.toInt32 i)), s8, s9, s10] [(.int (Nat.toInt32 i)), (.ref AA4)])) rfl rfl (hb hby d6_132) _ ?_
        show Steps p.tables e below (T42.setTop (mkF m 133 #[.val (.ref a), .val (.int (Nat.toInt32 ft)), .val (.int (Nat.toInt32 (ft + c))), .val (.int (Nat.toInt32 c)), .val (.ref r34x), .val .null, .val (.int (Nat.toInt32 mq)), .val (.int (Nat.toInt32 i)), s8, s9, s10] [(.long key)])) _
        refine XS.bipush X42.here hx rfl (hb hby d6_133) ?_
        show Steps p.tables e below (T42.setTop (mkF m 135 #[.val (.ref a), .val (.int (Nat.toInt32 ft)), .val (.int (Nat.toInt32 (ft + c))), .val (.int (Nat.toInt32 c)), .val (.ref r34x), .val .null, .val (.int (Nat.toInt32 mq)), .val (.int (Nat.toInt32 i)), s8, s9, s10] [(.int (32 : Int32)), (.long key)])) _
        refine XS.lushr X42.here hx rfl (hb hby d6_135) rfl ?_
        show Steps p.tables e below (T42.setTop (mkF m 136 #[.val (.ref a), .val (.int (Nat.toInt32 ft)), .val (.int (Nat.toInt32 (ft + c))), .val (.int (Nat.toInt32 c)), .val (.ref r34x), .val .null, .val (.int (Nat.toInt32 mq)), .val (.int (Nat.toInt32 i)), s8, s9, s10] [(.long ((key.toUInt64 >>> ((32 : Int32) &&& 0x3f).toInt64.toUInt64).toInt64))])) _
        refine XS.l2i X42.here hx rfl (hb hby d6_136) rfl ?_
        show Steps p.tables e below (T42.setTop (mkF m 137 #[.val (.ref a), .val (.int (Nat.toInt32 ft)), .val (.int (Nat.toInt32 (ft + c))), .val (.int (Nat.toInt32 c)), .val (.ref r34x), .val .null, .val (.int (Nat.toInt32 mq)), .val (.int (Nat.toInt32 i)), s8, s9, s10] [(.int (((key.toUInt64 >>> ((32 : Int32) &&& 0x3f).toInt64.toUInt64).toInt64).toInt32))])) _
        refine XS.istoreS X42.here hx rfl (hb hby d6_137) rfl rfl ho8 ?_
        show Steps p.tables e below (T42.setTop (mkF m 139 #[.val (.ref a), .val (.int (Nat.toInt32 ft)), .val (.int (Nat.toInt32 (ft + c))), .val (.int (Nat.toInt32 c)), .val (.ref r34x), .val .null, .val (.int (Nat.toInt32 mq)), .val (.int (Nat.toInt32 i)), .val (.int (((key.toUInt64 >>> ((32 : Int32) &&& 0x3f).toInt64.toUInt64).toInt64).toInt32)), s9, s10] [])) _
        refine XS.aloadN X42.here hx rfl (hb hby d6_139) rfl rfl ?_
        show Steps p.tables e below (T42.setTop (mkF m 140 #[.val (.ref a), .val (.int (Nat.toInt32 ft)), .val (.int (Nat.toInt32 (ft + c))), .val (.int (Nat.toInt32 c)), .val (.ref r34x), .val .null, .val (.int (Nat.toInt32 mq)), .val (.int (Nat.toInt32 i)), .val (.int (((key.toUInt64 >>> ((32 : Int32) &&& 0x3f).toInt64.toUInt64).toInt64).toInt32)), s9, s10] [(.ref a)])) _
        exact kt)
      obtain ⟨T46, X46, e46, st46⟩ := getF X42 hx hZ hown (host := "") (Or.inl (hw _ (List.mem_of_getElem? (i := 18) rfl))) Via.refl e42 FsortKeys (g := (mkF m 140 #[.val (.ref a), .val (.int (Nat.toInt32 ft)), .val (.int (Nat.toInt32 (ft + c))), .val (.int (Nat.toInt32 c)), .val (.ref r34x), .val .null, .val (.int (Nat.toInt32 mq)), .val (.int (Nat.toInt32 i)), .val (.int (((key.toUInt64 >>> ((32 : Int32) &&& 0x3f).toInt64.toUInt64).toInt64).toInt32)), s9, s10] [(.ref a)])) rfl rfl (hb hby d6_140)
      have cn47 := fun (t : State) (kt : Steps p.tables e below (T46.setTop (mkF m 145 #[.val (.ref a), .val (.int (Nat.toInt32 ft)), .val (.int (Nat.toInt32 (ft + c))), .val (.int (Nat.toInt32 c)), .val (.ref r34x), .val .null, .val (.int (Nat.toInt32 mq)), .val (.int (Nat.toInt32 i)), .val (.int (((key.toUInt64 >>> ((32 : Int32) &&& 0x3f).toInt64.toUInt64).toInt64).toInt32)), s9, s10] [(.int (Nat.toInt32 i)), (.ref AA4)])) t) => cn45 t (by
        refine st46 _ ?_
        show Steps p.tables e below (T46.setTop (mkF m 143 #[.val (.ref a), .val (.int (Nat.toInt32 ft)), .val (.int (Nat.toInt32 (ft + c))), .val (.int (Nat.toInt32 c)), .val (.ref r34x), .val .null, .val (.int (Nat.toInt32 mq)), .val (.int (Nat.toInt32 i)), .val (.int (((key.toUInt64 >>> ((32 : Int32) &&& 0x3f).toInt64.toUInt64).toInt64).toInt32)), s9, s10] [(.ref AA4)])) _
        refine XS.iload X46.here hx rfl (hb hby d6_143) rfl ?_
        show Steps p.tables e below (T46.setTop (mkF m 145 #[.val (.ref a), .val (.int (Nat.toInt32 ft)), .val (.int (Nat.toInt32 (ft + c))), .val (.int (Nat.toInt32 c)), .val (.ref r34x), .val .null, .val (.int (Nat.toInt32 mq)), .val (.int (Nat.toInt32 i)), .val (.int (((key.toUInt64 >>> ((32 : Int32) &&& 0x3f).toInt64.toUInt64).toInt64).toInt32)), s9, s10] [(.int (Nat.toInt32 i)), (.ref AA4)])) _
        exact kt)
      have AFx48 := Ag4
      obtain ⟨cl48, Ar48, q48, S48, H48⟩ := AFx48
      have hin48 : ¬ ((Nat.toInt32 i) < 0 ∨ cl48.slots.size ≤ ((Nat.toInt32 i)).toNatClampNeg) := AF.inb S48 (own_ix (by omega)) (by omega)
      have hat48 : cl48.slots[((Nat.toInt32 i)).toNatClampNeg]? = some (.long key) := AF.at H48 (own_ix (by omega)) (by omega) hkey
      have cn49 := fun (t : State) (kt : Steps p.tables e below (T46.setTop (mkF m 147 #[.val (.ref a), .val (.int (Nat.toInt32 ft)), .val (.int (Nat.toInt32 (ft + c))), .val (.int (Nat.toInt32 c)), .val (.ref r34x), .val .null, .val (.int (Nat.toInt32 mq)), .val (.int (Nat.toInt32 i)), .val (.int (((key.toUInt64 >>> ((32 : Int32) &&& 0x3f).toInt64.toUInt64).toInt64).toInt32)), s9, s10] [(.int (key.toInt32))])) t) => cn47 t (by
        refine X46.laload hx (j := (Nat.toInt32 i)) (v := (.long key)) (by rw [e46]; exact Ar48.1) (State.isArrayOf_alike hZ.alike Ar48.2.1) Ar48.2.2 hin48 hat48 (g := (mkF m 145 #[.val (.ref a), .val (.int (Nat.toInt32 ft)), .val (.int (Nat.toInt32 (ft + c))), .val (.int (Nat.toInt32 c)), .val (.ref r34x), .val .null, .val (.int (Nat.toInt32 mq)), .val (.int (Nat.toInt32 i)), .val (.int (((key.toUInt64 >>> ((32 : Int32) &&& 0x3f).toInt64.toUInt64).toInt64).toInt32)), s9, s10] [(.int (Nat.toInt32 i)), (.ref AA4)])) rfl rfl (hb hby d6_145) _ ?_
        show Steps p.tables e below (T46.setTop (mkF m 146 #[.val (.ref a), .val (.int (Nat.toInt32 ft)), .val (.int (Nat.toInt32 (ft + c))), .val (.int (Nat.toInt32 c)), .val (.ref r34x), .val .null, .val (.int (Nat.toInt32 mq)), .val (.int (Nat.toInt32 i)), .val (.int (((key.toUInt64 >>> ((32 : Int32) &&& 0x3f).toInt64.toUInt64).toInt64).toInt32)), s9, s10] [(.long key)])) _
        refine XS.l2i X46.here hx rfl (hb hby d6_146) rfl ?_
        show Steps p.tables e below (T46.setTop (mkF m 147 #[.val (.ref a), .val (.int (Nat.toInt32 ft)), .val (.int (Nat.toInt32 (ft + c))), .val (.int (Nat.toInt32 c)), .val (.ref r34x), .val .null, .val (.int (Nat.toInt32 mq)), .val (.int (Nat.toInt32 i)), .val (.int (((key.toUInt64 >>> ((32 : Int32) &&& 0x3f).toInt64.toUInt64).toInt64).toInt32)), s9, s10] [(.int (key.toInt32))])) _
        exact kt)
      have cn50 : ∀ t, Steps p.tables e below (T46.setTop (mkF m 147 #[.val (.ref a), .val (.int (Nat.toInt32 ft)), .val (.int (Nat.toInt32 (ft + c))), .val (.int (Nat.toInt32 c)), .val (.ref r34x), .val .null, .val (.int (Nat.toInt32 mq)), .val (.int (Nat.toInt32 i)), .val (.int (((key.toUInt64 >>> ((32 : Int32) &&& 0x3f).toInt64.toUInt64).toInt64).toInt32)), s9, s10] [(.int (Nat.toInt32 jf))])) t → Steps p.tables e below (s₁.setTop (entryFrame m #[(.ref a), (.int (Nat.toInt32 ft)), (.int (Nat.toInt32 (ft + c)))] 11)) t := by have q := cn49; rw [(id (hkj) : (key.toInt32) = (Nat.toInt32 jf))] at q; exact q
      have cn51 := fun (t : State) (kt : Steps p.tables e below (T46.setTop (mkF m 151 #[.val (.ref a), .val (.int (Nat.toInt32 ft)), .val (.int (Nat.toInt32 (ft + c))), .val (.int (Nat.toInt32 c)), .val (.ref r34x), .val .null, .val (.int (Nat.toInt32 mq)), .val (.int (Nat.toInt32 i)), .val (.int (((key.toUInt64 >>> ((32 : Int32) &&& 0x3f).toInt64.toUInt64).toInt64).toInt32)), .val (.int (Nat.toInt32 jf)), s10] [(.int (Nat.toInt32 mq))])) t) => cn50 t (by
        refine XS.istoreS X46.here hx rfl (hb hby d6_147) rfl rfl ho9 ?_
        show Steps p.tables e below (T46.setTop (mkF m 149 #[.val (.ref a), .val (.int (Nat.toInt32 ft)), .val (.int (Nat.toInt32 (ft + c))), .val (.int (Nat.toInt32 c)), .val (.ref r34x), .val .null, .val (.int (Nat.toInt32 mq)), .val (.int (Nat.toInt32 i)), .val (.int (((key.toUInt64 >>> ((32 : Int32) &&& 0x3f).toInt64.toUInt64).toInt64).toInt32)), .val (.int (Nat.toInt32 jf)), s10] [])) _
        refine XS.iload X46.here hx rfl (hb hby d6_149) rfl ?_
        show Steps p.tables e below (T46.setTop (mkF m 151 #[.val (.ref a), .val (.int (Nat.toInt32 ft)), .val (.int (Nat.toInt32 (ft + c))), .val (.int (Nat.toInt32 c)), .val (.ref r34x), .val .null, .val (.int (Nat.toInt32 mq)), .val (.int (Nat.toInt32 i)), .val (.int (((key.toUInt64 >>> ((32 : Int32) &&& 0x3f).toInt64.toUInt64).toInt64).toInt32)), .val (.int (Nat.toInt32 jf)), s10] [(.int (Nat.toInt32 mq))])) _
        exact kt)
      by_cases hc151_52 : (0 : Int32) < (Nat.toInt32 mq)
      · have cn53 := fun (t : State) (kt : Steps p.tables e below (T46.setTop (mkF m 155 #[.val (.ref a), .val (.int (Nat.toInt32 ft)), .val (.int (Nat.toInt32 (ft + c))), .val (.int (Nat.toInt32 c)), .val (.ref r34x), .val .null, .val (.int (Nat.toInt32 mq)), .val (.int (Nat.toInt32 i)), .val (.int (((key.toUInt64 >>> ((32 : Int32) &&& 0x3f).toInt64.toUInt64).toInt64).toInt32)), .val (.int (Nat.toInt32 jf)), s10] [(.ref a)])) t) => cn51 t (by
          refine XS.ifNo X46.here hx rfl (hb hby d6_151) rfl ((if0 _ _).trans (tlt hc151_52).2.2.2) ?_
          show Steps p.tables e below (T46.setTop (mkF m 154 #[.val (.ref a), .val (.int (Nat.toInt32 ft)), .val (.int (Nat.toInt32 (ft + c))), .val (.int (Nat.toInt32 c)), .val (.ref r34x), .val .null, .val (.int (Nat.toInt32 mq)), .val (.int (Nat.toInt32 i)), .val (.int (((key.toUInt64 >>> ((32 : Int32) &&& 0x3f).toInt64.toUInt64).toInt64).toInt32)), .val (.int (Nat.toInt32 jf)), s10] [])) _
          refine XS.aloadN X46.here hx rfl (hb hby d6_154) rfl rfl ?_
          show Steps p.tables e below (T46.setTop (mkF m 155 #[.val (.ref a), .val (.int (Nat.toInt32 ft)), .val (.int (Nat.toInt32 (ft + c))), .val (.int (Nat.toInt32 c)), .val (.ref r34x), .val .null, .val (.int (Nat.toInt32 mq)), .val (.int (Nat.toInt32 i)), .val (.int (((key.toUInt64 >>> ((32 : Int32) &&& 0x3f).toInt64.toUInt64).toInt64).toInt32)), .val (.int (Nat.toInt32 jf)), s10] [(.ref a)])) _
          exact kt)
        obtain ⟨T54, X54, e54, st54⟩ := getF X46 hx hZ hown (host := "") (Or.inl (hw _ (List.mem_of_getElem? (i := 12) rfl))) Via.refl e46 Fsuccessors (g := (mkF m 155 #[.val (.ref a), .val (.int (Nat.toInt32 ft)), .val (.int (Nat.toInt32 (ft + c))), .val (.int (Nat.toInt32 c)), .val (.ref r34x), .val .null, .val (.int (Nat.toInt32 mq)), .val (.int (Nat.toInt32 i)), .val (.int (((key.toUInt64 >>> ((32 : Int32) &&& 0x3f).toInt64.toUInt64).toInt64).toInt32)), .val (.int (Nat.toInt32 jf)), s10] [(.ref a)])) rfl rfl (hb hby d6_155)
        have hm0 : 0 < mq := own_m0 (by omega) hc151_52
        have cn55 := fun (t : State) (kt : Steps p.tables e below (T54.setTop (mkF m 162 #[.val (.ref a), .val (.int (Nat.toInt32 ft)), .val (.int (Nat.toInt32 (ft + c))), .val (.int (Nat.toInt32 c)), .val (.ref r34x), .val .null, .val (.int (Nat.toInt32 mq)), .val (.int (Nat.toInt32 i)), .val (.int (((key.toUInt64 >>> ((32 : Int32) &&& 0x3f).toInt64.toUInt64).toInt64).toInt32)), .val (.int (Nat.toInt32 jf)), s10] [(.int ((Nat.toInt32 ft) + (Nat.toInt32 mq))), (.ref AA2)])) t) => cn53 t (by
          refine st54 _ ?_
          show Steps p.tables e below (T54.setTop (mkF m 158 #[.val (.ref a), .val (.int (Nat.toInt32 ft)), .val (.int (Nat.toInt32 (ft + c))), .val (.int (Nat.toInt32 c)), .val (.ref r34x), .val .null, .val (.int (Nat.toInt32 mq)), .val (.int (Nat.toInt32 i)), .val (.int (((key.toUInt64 >>> ((32 : Int32) &&& 0x3f).toInt64.toUInt64).toInt64).toInt32)), .val (.int (Nat.toInt32 jf)), s10] [(.ref AA2)])) _
          refine XS.iloadN X54.here hx rfl (hb hby d6_158) rfl ?_
          show Steps p.tables e below (T54.setTop (mkF m 159 #[.val (.ref a), .val (.int (Nat.toInt32 ft)), .val (.int (Nat.toInt32 (ft + c))), .val (.int (Nat.toInt32 c)), .val (.ref r34x), .val .null, .val (.int (Nat.toInt32 mq)), .val (.int (Nat.toInt32 i)), .val (.int (((key.toUInt64 >>> ((32 : Int32) &&& 0x3f).toInt64.toUInt64).toInt64).toInt32)), .val (.int (Nat.toInt32 jf)), s10] [(.int (Nat.toInt32 ft)), (.ref AA2)])) _
          refine XS.iload X54.here hx rfl (hb hby d6_159) rfl ?_
          show Steps p.tables e below (T54.setTop (mkF m 161 #[.val (.ref a), .val (.int (Nat.toInt32 ft)), .val (.int (Nat.toInt32 (ft + c))), .val (.int (Nat.toInt32 c)), .val (.ref r34x), .val .null, .val (.int (Nat.toInt32 mq)), .val (.int (Nat.toInt32 i)), .val (.int (((key.toUInt64 >>> ((32 : Int32) &&& 0x3f).toInt64.toUInt64).toInt64).toInt32)), .val (.int (Nat.toInt32 jf)), s10] [(.int (Nat.toInt32 mq)), (.int (Nat.toInt32 ft)), (.ref AA2)])) _
          refine XS.iadd X54.here hx rfl (hb hby d6_161) rfl ?_
          show Steps p.tables e below (T54.setTop (mkF m 162 #[.val (.ref a), .val (.int (Nat.toInt32 ft)), .val (.int (Nat.toInt32 (ft + c))), .val (.int (Nat.toInt32 c)), .val (.ref r34x), .val .null, .val (.int (Nat.toInt32 mq)), .val (.int (Nat.toInt32 i)), .val (.int (((key.toUInt64 >>> ((32 : Int32) &&& 0x3f).toInt64.toUInt64).toInt64).toInt32)), .val (.int (Nat.toInt32 jf)), s10] [(.int ((Nat.toInt32 ft) + (Nat.toInt32 mq))), (.ref AA2)])) _
          exact kt)
        have cn56 : ∀ t, Steps p.tables e below (T54.setTop (mkF m 162 #[.val (.ref a), .val (.int (Nat.toInt32 ft)), .val (.int (Nat.toInt32 (ft + c))), .val (.int (Nat.toInt32 c)), .val (.ref r34x), .val .null, .val (.int (Nat.toInt32 mq)), .val (.int (Nat.toInt32 i)), .val (.int (((key.toUInt64 >>> ((32 : Int32) &&& 0x3f).toInt64.toUInt64).toInt64).toInt32)), .val (.int (Nat.toInt32 jf)), s10] [(.int (Nat.toInt32 (ft + mq))), (.ref AA2)])) t → Steps p.tables e below (s₁.setTop (entryFrame m #[(.ref a), (.int (Nat.toInt32 ft)), (.int (Nat.toInt32 (ft + c)))] 11)) t := by have q := cn55; rw [(id (own_add (by omega)) : ((Nat.toInt32 ft) + (Nat.toInt32 mq)) = (Nat.toInt32 (ft + mq)))] at q; exact q
        have cn57 := fun (t : State) (kt : Steps p.tables e below (T54.setTop (mkF m 164 #[.val (.ref a), .val (.int (Nat.toInt32 ft)), .val (.int (Nat.toInt32 (ft + c))), .val (.int (Nat.toInt32 c)), .val (.ref r34x), .val .null, .val (.int (Nat.toInt32 mq)), .val (.int (Nat.toInt32 i)), .val (.int (((key.toUInt64 >>> ((32 : Int32) &&& 0x3f).toInt64.toUInt64).toInt64).toInt32)), .val (.int (Nat.toInt32 jf)), s10] [(.int ((Nat.toInt32 (ft + mq)) - (1 : Int32))), (.ref AA2)])) t) => cn56 t (by
          refine XS.iconst X54.here hx rfl (hb hby d6_162) ?_
          show Steps p.tables e below (T54.setTop (mkF m 163 #[.val (.ref a), .val (.int (Nat.toInt32 ft)), .val (.int (Nat.toInt32 (ft + c))), .val (.int (Nat.toInt32 c)), .val (.ref r34x), .val .null, .val (.int (Nat.toInt32 mq)), .val (.int (Nat.toInt32 i)), .val (.int (((key.toUInt64 >>> ((32 : Int32) &&& 0x3f).toInt64.toUInt64).toInt64).toInt32)), .val (.int (Nat.toInt32 jf)), s10] [(.int (1 : Int32)), (.int (Nat.toInt32 (ft + mq))), (.ref AA2)])) _
          refine XS.isub X54.here hx rfl (hb hby d6_163) rfl ?_
          show Steps p.tables e below (T54.setTop (mkF m 164 #[.val (.ref a), .val (.int (Nat.toInt32 ft)), .val (.int (Nat.toInt32 (ft + c))), .val (.int (Nat.toInt32 c)), .val (.ref r34x), .val .null, .val (.int (Nat.toInt32 mq)), .val (.int (Nat.toInt32 i)), .val (.int (((key.toUInt64 >>> ((32 : Int32) &&& 0x3f).toInt64.toUInt64).toInt64).toInt32)), .val (.int (Nat.toInt32 jf)), s10] [(.int ((Nat.toInt32 (ft + mq)) - (1 : Int32))), (.ref AA2)])) _
          exact kt)
        have cn58 : ∀ t, Steps p.tables e below (T54.setTop (mkF m 164 #[.val (.ref a), .val (.int (Nat.toInt32 ft)), .val (.int (Nat.toInt32 (ft + c))), .val (.int (Nat.toInt32 c)), .val (.ref r34x), .val .null, .val (.int (Nat.toInt32 mq)), .val (.int (Nat.toInt32 i)), .val (.int (((key.toUInt64 >>> ((32 : Int32) &&& 0x3f).toInt64.toUInt64).toInt64).toInt32)), .val (.int (Nat.toInt32 jf)), s10] [(.int (Nat.toInt32 (ft + mq - 1))), (.ref AA2)])) t → Steps p.tables e below (s₁.setTop (entryFrame m #[(.ref a), (.int (Nat.toInt32 ft)), (.int (Nat.toInt32 (ft + c)))] 11)) t := by have q := cn57; rw [(id (own_pre (by omega) (by omega)) : ((Nat.toInt32 (ft + mq)) - (1 : Int32)) = (Nat.toInt32 (ft + mq - 1)))] at q; exact q
        obtain ⟨xs, hxs⟩ := H2g (ft + mq - 1) (by omega)
        have AFx59 := Ag2
        obtain ⟨cl59, Ar59, q59, S59, H59⟩ := AFx59
        have hin59 : ¬ ((Nat.toInt32 (ft + mq - 1)) < 0 ∨ cl59.slots.size ≤ ((Nat.toInt32 (ft + mq - 1))).toNatClampNeg) := AF.inb S59 (own_ix (by omega)) (by omega)
        have hat59 : cl59.slots[((Nat.toInt32 (ft + mq - 1))).toNatClampNeg]? = some (.int xs) := AF.at H59 (own_ix (by omega)) (by omega) hxs
        have cn60 := fun (t : State) (kt : Steps p.tables e below (T54.setTop (mkF m 167 #[.val (.ref a), .val (.int (Nat.toInt32 ft)), .val (.int (Nat.toInt32 (ft + c))), .val (.int (Nat.toInt32 c)), .val (.ref r34x), .val .null, .val (.int (Nat.toInt32 mq)), .val (.int (Nat.toInt32 i)), .val (.int (((key.toUInt64 >>> ((32 : Int32) &&& 0x3f).toInt64.toUInt64).toInt64).toInt32)), .val (.int (Nat.toInt32 jf)), s10] [(.int (((key.toUInt64 >>> ((32 : Int32) &&& 0x3f).toInt64.toUInt64).toInt64).toInt32)), (.int xs)])) t) => cn58 t (by
          refine X54.iaload hx (j := (Nat.toInt32 (ft + mq - 1))) (v := (.int xs)) (by rw [e54]; exact Ar59.1) (State.isArrayOf_alike hZ.alike Ar59.2.1) Ar59.2.2 hin59 hat59 (g := (mkF m 164 #[.val (.ref a), .val (.int (Nat.toInt32 ft)), .val (.int (Nat.toInt32 (ft + c))), .val (.int (Nat.toInt32 c)), .val (.ref r34x), .val .null, .val (.int (Nat.toInt32 mq)), .val (.int (Nat.toInt32 i)), .val (.int (((key.toUInt64 >>> ((32 : Int32) &&& 0x3f).toInt64.toUInt64).toInt64).toInt32)), .val (.int (Nat.toInt32 jf)), s10] [(.int (Nat.toInt32 (ft + mq - 1))), (.ref AA2)])) rfl rfl (hb hby d6_164) _ ?_
          show Steps p.tables e below (T54.setTop (mkF m 165 #[.val (.ref a), .val (.int (Nat.toInt32 ft)), .val (.int (Nat.toInt32 (ft + c))), .val (.int (Nat.toInt32 c)), .val (.ref r34x), .val .null, .val (.int (Nat.toInt32 mq)), .val (.int (Nat.toInt32 i)), .val (.int (((key.toUInt64 >>> ((32 : Int32) &&& 0x3f).toInt64.toUInt64).toInt64).toInt32)), .val (.int (Nat.toInt32 jf)), s10] [(.int xs)])) _
          refine XS.iload X54.here hx rfl (hb hby d6_165) rfl ?_
          show Steps p.tables e below (T54.setTop (mkF m 167 #[.val (.ref a), .val (.int (Nat.toInt32 ft)), .val (.int (Nat.toInt32 (ft + c))), .val (.int (Nat.toInt32 c)), .val (.ref r34x), .val .null, .val (.int (Nat.toInt32 mq)), .val (.int (Nat.toInt32 i)), .val (.int (((key.toUInt64 >>> ((32 : Int32) &&& 0x3f).toInt64.toUInt64).toInt64).toInt32)), .val (.int (Nat.toInt32 jf)), s10] [(.int (((key.toUInt64 >>> ((32 : Int32) &&& 0x3f).toInt64.toUInt64).toInt64).toInt32)), (.int xs)])) _
          exact kt)
        by_cases hc167_61 : xs = (((key.toUInt64 >>> ((32 : Int32) &&& 0x3f).toInt64.toUInt64).toInt64).toInt32)
        · have cn62 := fun (t : State) (kt : Steps p.tables e below (T54.setTop (mkF m 174 #[.val (.ref a), .val (.int (Nat.toInt32 ft)), .val (.int (Nat.toInt32 (ft + c))), .val (.int (Nat.toInt32 c)), .val (.ref r34x), .val .null, .val (.int (Nat.toInt32 mq)), .val (.int (Nat.toInt32 i)), .val (.int (((key.toUInt64 >>> ((32 : Int32) &&& 0x3f).toInt64.toUInt64).toInt64).toInt32)), .val (.int (Nat.toInt32 jf)), s10] [(.int ((Nat.toInt32 ft) + (Nat.toInt32 mq)))])) t) => cn60 t (by
            refine XS.icmpNo X54.here hx rfl (hb hby d6_167) rfl (teq hc167_61).2 ?_
            show Steps p.tables e below (T54.setTop (mkF m 170 #[.val (.ref a), .val (.int (Nat.toInt32 ft)), .val (.int (Nat.toInt32 (ft + c))), .val (.int (Nat.toInt32 c)), .val (.ref r34x), .val .null, .val (.int (Nat.toInt32 mq)), .val (.int (Nat.toInt32 i)), .val (.int (((key.toUInt64 >>> ((32 : Int32) &&& 0x3f).toInt64.toUInt64).toInt64).toInt32)), .val (.int (Nat.toInt32 jf)), s10] [])) _
            refine XS.iloadN X54.here hx rfl (hb hby d6_170) rfl ?_
            show Steps p.tables e below (T54.setTop (mkF m 171 #[.val (.ref a), .val (.int (Nat.toInt32 ft)), .val (.int (Nat.toInt32 (ft + c))), .val (.int (Nat.toInt32 c)), .val (.ref r34x), .val .null, .val (.int (Nat.toInt32 mq)), .val (.int (Nat.toInt32 i)), .val (.int (((key.toUInt64 >>> ((32 : Int32) &&& 0x3f).toInt64.toUInt64).toInt64).toInt32)), .val (.int (Nat.toInt32 jf)), s10] [(.int (Nat.toInt32 ft))])) _
            refine XS.iload X54.here hx rfl (hb hby d6_171) rfl ?_
            show Steps p.tables e below (T54.setTop (mkF m 173 #[.val (.ref a), .val (.int (Nat.toInt32 ft)), .val (.int (Nat.toInt32 (ft + c))), .val (.int (Nat.toInt32 c)), .val (.ref r34x), .val .null, .val (.int (Nat.toInt32 mq)), .val (.int (Nat.toInt32 i)), .val (.int (((key.toUInt64 >>> ((32 : Int32) &&& 0x3f).toInt64.toUInt64).toInt64).toInt32)), .val (.int (Nat.toInt32 jf)), s10] [(.int (Nat.toInt32 mq)), (.int (Nat.toInt32 ft))])) _
            refine XS.iadd X54.here hx rfl (hb hby d6_173) rfl ?_
            show Steps p.tables e below (T54.setTop (mkF m 174 #[.val (.ref a), .val (.int (Nat.toInt32 ft)), .val (.int (Nat.toInt32 (ft + c))), .val (.int (Nat.toInt32 c)), .val (.ref r34x), .val .null, .val (.int (Nat.toInt32 mq)), .val (.int (Nat.toInt32 i)), .val (.int (((key.toUInt64 >>> ((32 : Int32) &&& 0x3f).toInt64.toUInt64).toInt64).toInt32)), .val (.int (Nat.toInt32 jf)), s10] [(.int ((Nat.toInt32 ft) + (Nat.toInt32 mq)))])) _
            exact kt)
          have cn63 : ∀ t, Steps p.tables e below (T54.setTop (mkF m 174 #[.val (.ref a), .val (.int (Nat.toInt32 ft)), .val (.int (Nat.toInt32 (ft + c))), .val (.int (Nat.toInt32 c)), .val (.ref r34x), .val .null, .val (.int (Nat.toInt32 mq)), .val (.int (Nat.toInt32 i)), .val (.int (((key.toUInt64 >>> ((32 : Int32) &&& 0x3f).toInt64.toUInt64).toInt64).toInt32)), .val (.int (Nat.toInt32 jf)), s10] [(.int (Nat.toInt32 (ft + mq)))])) t → Steps p.tables e below (s₁.setTop (entryFrame m #[(.ref a), (.int (Nat.toInt32 ft)), (.int (Nat.toInt32 (ft + c)))] 11)) t := by have q := cn62; rw [(id (own_add (by omega)) : ((Nat.toInt32 ft) + (Nat.toInt32 mq)) = (Nat.toInt32 (ft + mq)))] at q; exact q
          have cn64 := fun (t : State) (kt : Steps p.tables e below (T54.setTop (mkF m 176 #[.val (.ref a), .val (.int (Nat.toInt32 ft)), .val (.int (Nat.toInt32 (ft + c))), .val (.int (Nat.toInt32 c)), .val (.ref r34x), .val .null, .val (.int (Nat.toInt32 mq)), .val (.int (Nat.toInt32 i)), .val (.int (((key.toUInt64 >>> ((32 : Int32) &&& 0x3f).toInt64.toUInt64).toInt64).toInt32)), .val (.int (Nat.toInt32 jf)), s10] [(.int ((Nat.toInt32 (ft + mq)) - (1 : Int32)))])) t) => cn63 t (by
            refine XS.iconst X54.here hx rfl (hb hby d6_174) ?_
            show Steps p.tables e below (T54.setTop (mkF m 175 #[.val (.ref a), .val (.int (Nat.toInt32 ft)), .val (.int (Nat.toInt32 (ft + c))), .val (.int (Nat.toInt32 c)), .val (.ref r34x), .val .null, .val (.int (Nat.toInt32 mq)), .val (.int (Nat.toInt32 i)), .val (.int (((key.toUInt64 >>> ((32 : Int32) &&& 0x3f).toInt64.toUInt64).toInt64).toInt32)), .val (.int (Nat.toInt32 jf)), s10] [(.int (1 : Int32)), (.int (Nat.toInt32 (ft + mq)))])) _
            refine XS.isub X54.here hx rfl (hb hby d6_175) rfl ?_
            show Steps p.tables e below (T54.setTop (mkF m 176 #[.val (.ref a), .val (.int (Nat.toInt32 ft)), .val (.int (Nat.toInt32 (ft + c))), .val (.int (Nat.toInt32 c)), .val (.ref r34x), .val .null, .val (.int (Nat.toInt32 mq)), .val (.int (Nat.toInt32 i)), .val (.int (((key.toUInt64 >>> ((32 : Int32) &&& 0x3f).toInt64.toUInt64).toInt64).toInt32)), .val (.int (Nat.toInt32 jf)), s10] [(.int ((Nat.toInt32 (ft + mq)) - (1 : Int32)))])) _
            exact kt)
          have cn65 : ∀ t, Steps p.tables e below (T54.setTop (mkF m 176 #[.val (.ref a), .val (.int (Nat.toInt32 ft)), .val (.int (Nat.toInt32 (ft + c))), .val (.int (Nat.toInt32 c)), .val (.ref r34x), .val .null, .val (.int (Nat.toInt32 mq)), .val (.int (Nat.toInt32 i)), .val (.int (((key.toUInt64 >>> ((32 : Int32) &&& 0x3f).toInt64.toUInt64).toInt64).toInt32)), .val (.int (Nat.toInt32 jf)), s10] [(.int (Nat.toInt32 (ft + mq - 1)))])) t → Steps p.tables e below (s₁.setTop (entryFrame m #[(.ref a), (.int (Nat.toInt32 ft)), (.int (Nat.toInt32 (ft + c)))] 11)) t := by have q := cn64; rw [(id (own_pre (by omega) (by omega)) : ((Nat.toInt32 (ft + mq)) - (1 : Int32)) = (Nat.toInt32 (ft + mq - 1)))] at q; exact q
          obtain ⟨vp, hvp, hvp0, hvp1⟩ := H3g (ft + mq - 1) (by omega)
          have hsum := own_sum hvp0 hvp1 hvu0 hvu1 (by omega)
          have cn66 := fun (t : State) (kt : Steps p.tables e below (T54.setTop (mkF m 179 #[.val (.ref a), .val (.int (Nat.toInt32 ft)), .val (.int (Nat.toInt32 (ft + c))), .val (.int (Nat.toInt32 c)), .val (.ref r34x), .val .null, .val (.int (Nat.toInt32 mq)), .val (.int (Nat.toInt32 i)), .val (.int (((key.toUInt64 >>> ((32 : Int32) &&& 0x3f).toInt64.toUInt64).toInt64).toInt32)), .val (.int (Nat.toInt32 jf)), .val (.int (Nat.toInt32 (ft + mq - 1)))] [(.ref a)])) t) => cn65 t (by
            refine XS.istoreS X54.here hx rfl (hb hby d6_176) rfl rfl ho10 ?_
            show Steps p.tables e below (T54.setTop (mkF m 178 #[.val (.ref a), .val (.int (Nat.toInt32 ft)), .val (.int (Nat.toInt32 (ft + c))), .val (.int (Nat.toInt32 c)), .val (.ref r34x), .val .null, .val (.int (Nat.toInt32 mq)), .val (.int (Nat.toInt32 i)), .val (.int (((key.toUInt64 >>> ((32 : Int32) &&& 0x3f).toInt64.toUInt64).toInt64).toInt32)), .val (.int (Nat.toInt32 jf)), .val (.int (Nat.toInt32 (ft + mq - 1)))] [])) _
            refine XS.aloadN X54.here hx rfl (hb hby d6_178) rfl rfl ?_
            show Steps p.tables e below (T54.setTop (mkF m 179 #[.val (.ref a), .val (.int (Nat.toInt32 ft)), .val (.int (Nat.toInt32 (ft + c))), .val (.int (Nat.toInt32 c)), .val (.ref r34x), .val .null, .val (.int (Nat.toInt32 mq)), .val (.int (Nat.toInt32 i)), .val (.int (((key.toUInt64 >>> ((32 : Int32) &&& 0x3f).toInt64.toUInt64).toInt64).toInt32)), .val (.int (Nat.toInt32 jf)), .val (.int (Nat.toInt32 (ft + mq - 1)))] [(.ref a)])) _
            exact kt)
          obtain ⟨T67, X67, e67, st67⟩ := getF X54 hx hZ hown (host := "") (Or.inl (hw _ (List.mem_of_getElem? (i := 15) rfl))) Via.refl e54 Fprobabilities (g := (mkF m 179 #[.val (.ref a), .val (.int (Nat.toInt32 ft)), .val (.int (Nat.toInt32 (ft + c))), .val (.int (Nat.toInt32 c)), .val (.ref r34x), .val .null, .val (.int (Nat.toInt32 mq)), .val (.int (Nat.toInt32 i)), .val (.int (((key.toUInt64 >>> ((32 : Int32) &&& 0x3f).toInt64.toUInt64).toInt64).toInt32)), .val (.int (Nat.toInt32 jf)), .val (.int (Nat.toInt32 (ft + mq - 1)))] [(.ref a)])) rfl rfl (hb hby d6_179)
          have cn68 := fun (t : State) (kt : Steps p.tables e below (T67.setTop (mkF m 185 #[.val (.ref a), .val (.int (Nat.toInt32 ft)), .val (.int (Nat.toInt32 (ft + c))), .val (.int (Nat.toInt32 c)), .val (.ref r34x), .val .null, .val (.int (Nat.toInt32 mq)), .val (.int (Nat.toInt32 i)), .val (.int (((key.toUInt64 >>> ((32 : Int32) &&& 0x3f).toInt64.toUInt64).toInt64).toInt32)), .val (.int (Nat.toInt32 jf)), .val (.int (Nat.toInt32 (ft + mq - 1)))] [(.int (Nat.toInt32 (ft + mq - 1))), (.ref AA3), (.int (Nat.toInt32 (ft + mq - 1))), (.ref AA3)])) t) => cn66 t (by
            refine st67 _ ?_
            show Steps p.tables e below (T67.setTop (mkF m 182 #[.val (.ref a), .val (.int (Nat.toInt32 ft)), .val (.int (Nat.toInt32 (ft + c))), .val (.int (Nat.toInt32 c)), .val (.ref r34x), .val .null, .val (.int (Nat.toInt32 mq)), .val (.int (Nat.toInt32 i)), .val (.int (((key.toUInt64 >>> ((32 : Int32) &&& 0x3f).toInt64.toUInt64).toInt64).toInt32)), .val (.int (Nat.toInt32 jf)), .val (.int (Nat.toInt32 (ft + mq - 1)))] [(.ref AA3)])) _
            refine XS.iload X67.here hx rfl (hb hby d6_182) rfl ?_
            show Steps p.tables e below (T67.setTop (mkF m 184 #[.val (.ref a), .val (.int (Nat.toInt32 ft)), .val (.int (Nat.toInt32 (ft + c))), .val (.int (Nat.toInt32 c)), .val (.ref r34x), .val .null, .val (.int (Nat.toInt32 mq)), .val (.int (Nat.toInt32 i)), .val (.int (((key.toUInt64 >>> ((32 : Int32) &&& 0x3f).toInt64.toUInt64).toInt64).toInt32)), .val (.int (Nat.toInt32 jf)), .val (.int (Nat.toInt32 (ft + mq - 1)))] [(.int (Nat.toInt32 (ft + mq - 1))), (.ref AA3)])) _
            refine own_dup2 X67 hx (hb hby d6_184) rfl rfl ?_
            show Steps p.tables e below (T67.setTop (mkF m 185 #[.val (.ref a), .val (.int (Nat.toInt32 ft)), .val (.int (Nat.toInt32 (ft + c))), .val (.int (Nat.toInt32 c)), .val (.ref r34x), .val .null, .val (.int (Nat.toInt32 mq)), .val (.int (Nat.toInt32 i)), .val (.int (((key.toUInt64 >>> ((32 : Int32) &&& 0x3f).toInt64.toUInt64).toInt64).toInt32)), .val (.int (Nat.toInt32 jf)), .val (.int (Nat.toInt32 (ft + mq - 1)))] [(.int (Nat.toInt32 (ft + mq - 1))), (.ref AA3), (.int (Nat.toInt32 (ft + mq - 1))), (.ref AA3)])) _
            exact kt)
          have AFx69 := Ag3
          obtain ⟨cl69, Ar69, q69, S69, H69⟩ := AFx69
          have hin69 : ¬ ((Nat.toInt32 (ft + mq - 1)) < 0 ∨ cl69.slots.size ≤ ((Nat.toInt32 (ft + mq - 1))).toNatClampNeg) := AF.inb S69 (own_ix (by omega)) (by omega)
          have hat69 : cl69.slots[((Nat.toInt32 (ft + mq - 1))).toNatClampNeg]? = some (.double (FP.l2d vp)) := AF.at H69 (own_ix (by omega)) (by omega) hvp
          have cn70 := fun (t : State) (kt : Steps p.tables e below (T67.setTop (mkF m 190 #[.val (.ref a), .val (.int (Nat.toInt32 ft)), .val (.int (Nat.toInt32 (ft + c))), .val (.int (Nat.toInt32 c)), .val (.ref r34x), .val .null, .val (.int (Nat.toInt32 mq)), .val (.int (Nat.toInt32 i)), .val (.int (((key.toUInt64 >>> ((32 : Int32) &&& 0x3f).toInt64.toUInt64).toInt64).toInt32)), .val (.int (Nat.toInt32 jf)), .val (.int (Nat.toInt32 (ft + mq - 1)))] [(.int (Nat.toInt32 jf)), (.ref r34x), (.double (FP.l2d vp)), (.int (Nat.toInt32 (ft + mq - 1))), (.ref AA3)])) t) => cn68 t (by
            refine X67.daload hx (j := (Nat.toInt32 (ft + mq - 1))) (v := (.double (FP.l2d vp))) (by rw [e67]; exact Ar69.1) (State.isArrayOf_alike hZ.alike Ar69.2.1) Ar69.2.2 hin69 hat69 (g := (mkF m 185 #[.val (.ref a), .val (.int (Nat.toInt32 ft)), .val (.int (Nat.toInt32 (ft + c))), .val (.int (Nat.toInt32 c)), .val (.ref r34x), .val .null, .val (.int (Nat.toInt32 mq)), .val (.int (Nat.toInt32 i)), .val (.int (((key.toUInt64 >>> ((32 : Int32) &&& 0x3f).toInt64.toUInt64).toInt64).toInt32)), .val (.int (Nat.toInt32 jf)), .val (.int (Nat.toInt32 (ft + mq - 1)))] [(.int (Nat.toInt32 (ft + mq - 1))), (.ref AA3), (.int (Nat.toInt32 (ft + mq - 1))), (.ref AA3)])) rfl rfl (hb hby d6_185) _ ?_
            show Steps p.tables e below (T67.setTop (mkF m 186 #[.val (.ref a), .val (.int (Nat.toInt32 ft)), .val (.int (Nat.toInt32 (ft + c))), .val (.int (Nat.toInt32 c)), .val (.ref r34x), .val .null, .val (.int (Nat.toInt32 mq)), .val (.int (Nat.toInt32 i)), .val (.int (((key.toUInt64 >>> ((32 : Int32) &&& 0x3f).toInt64.toUInt64).toInt64).toInt32)), .val (.int (Nat.toInt32 jf)), .val (.int (Nat.toInt32 (ft + mq - 1)))] [(.double (FP.l2d vp)), (.int (Nat.toInt32 (ft + mq - 1))), (.ref AA3)])) _
            refine XS.aload X67.here hx rfl (hb hby d6_186) rfl rfl ?_
            show Steps p.tables e below (T67.setTop (mkF m 188 #[.val (.ref a), .val (.int (Nat.toInt32 ft)), .val (.int (Nat.toInt32 (ft + c))), .val (.int (Nat.toInt32 c)), .val (.ref r34x), .val .null, .val (.int (Nat.toInt32 mq)), .val (.int (Nat.toInt32 i)), .val (.int (((key.toUInt64 >>> ((32 : Int32) &&& 0x3f).toInt64.toUInt64).toInt64).toInt32)), .val (.int (Nat.toInt32 jf)), .val (.int (Nat.toInt32 (ft + mq - 1)))] [(.ref r34x), (.double (FP.l2d vp)), (.int (Nat.toInt32 (ft + mq - 1))), (.ref AA3)])) _
            refine XS.iload X67.here hx rfl (hb hby d6_188) rfl ?_
            show Steps p.tables e below (T67.setTop (mkF m 190 #[.val (.ref a), .val (.int (Nat.toInt32 ft)), .val (.int (Nat.toInt32 (ft + c))), .val (.int (Nat.toInt32 c)), .val (.ref r34x), .val .null, .val (.int (Nat.toInt32 mq)), .val (.int (Nat.toInt32 i)), .val (.int (((key.toUInt64 >>> ((32 : Int32) &&& 0x3f).toInt64.toUInt64).toInt64).toInt32)), .val (.int (Nat.toInt32 jf)), .val (.int (Nat.toInt32 (ft + mq - 1)))] [(.int (Nat.toInt32 jf)), (.ref r34x), (.double (FP.l2d vp)), (.int (Nat.toInt32 (ft + mq - 1))), (.ref AA3)])) _
            exact kt)
          have AFx71 := Afr
          obtain ⟨cl71, Ar71, q71, S71, H71⟩ := AFx71
          have hin71 : ¬ ((Nat.toInt32 jf) < 0 ∨ cl71.slots.size ≤ ((Nat.toInt32 jf)).toNatClampNeg) := AF.inb S71 (own_ix (by omega)) hjf
          have hat71 : cl71.slots[((Nat.toInt32 jf)).toNatClampNeg]? = some (.double (FP.l2d vu)) := AF.at H71 (own_ix (by omega)) hjf hvu
          have cn72 := fun (t : State) (kt : Steps p.tables e below (T67.setTop (mkF m 192 #[.val (.ref a), .val (.int (Nat.toInt32 ft)), .val (.int (Nat.toInt32 (ft + c))), .val (.int (Nat.toInt32 c)), .val (.ref r34x), .val .null, .val (.int (Nat.toInt32 mq)), .val (.int (Nat.toInt32 i)), .val (.int (((key.toUInt64 >>> ((32 : Int32) &&& 0x3f).toInt64.toUInt64).toInt64).toInt32)), .val (.int (Nat.toInt32 jf)), .val (.int (Nat.toInt32 (ft + mq - 1)))] [(.double (FP.l2d (vp + vu))), (.int (Nat.toInt32 (ft + mq - 1))), (.ref AA3)])) t) => cn70 t (by
            refine X67.daload hx (j := (Nat.toInt32 jf)) (v := (.double (FP.l2d vu))) (by rw [e67]; exact Ar71.1) (State.isArrayOf_alike hZ.alike Ar71.2.1) Ar71.2.2 hin71 hat71 (g := (mkF m 190 #[.val (.ref a), .val (.int (Nat.toInt32 ft)), .val (.int (Nat.toInt32 (ft + c))), .val (.int (Nat.toInt32 c)), .val (.ref r34x), .val .null, .val (.int (Nat.toInt32 mq)), .val (.int (Nat.toInt32 i)), .val (.int (((key.toUInt64 >>> ((32 : Int32) &&& 0x3f).toInt64.toUInt64).toInt64).toInt32)), .val (.int (Nat.toInt32 jf)), .val (.int (Nat.toInt32 (ft + mq - 1)))] [(.int (Nat.toInt32 jf)), (.ref r34x), (.double (FP.l2d vp)), (.int (Nat.toInt32 (ft + mq - 1))), (.ref AA3)])) rfl rfl (hb hby d6_190) _ ?_
            show Steps p.tables e below (T67.setTop (mkF m 191 #[.val (.ref a), .val (.int (Nat.toInt32 ft)), .val (.int (Nat.toInt32 (ft + c))), .val (.int (Nat.toInt32 c)), .val (.ref r34x), .val .null, .val (.int (Nat.toInt32 mq)), .val (.int (Nat.toInt32 i)), .val (.int (((key.toUInt64 >>> ((32 : Int32) &&& 0x3f).toInt64.toUInt64).toInt64).toInt32)), .val (.int (Nat.toInt32 jf)), .val (.int (Nat.toInt32 (ft + mq - 1)))] [(.double (FP.l2d vu)), (.double (FP.l2d vp)), (.int (Nat.toInt32 (ft + mq - 1))), (.ref AA3)])) _
            refine XS.daddS X67.here hx rfl (hb hby d6_191) rfl (nn_w hsum.1) (v := (FP.l2d (vp + vu))) hsum.1 ?_
            show Steps p.tables e below (T67.setTop (mkF m 192 #[.val (.ref a), .val (.int (Nat.toInt32 ft)), .val (.int (Nat.toInt32 (ft + c))), .val (.int (Nat.toInt32 c)), .val (.ref r34x), .val .null, .val (.int (Nat.toInt32 mq)), .val (.int (Nat.toInt32 i)), .val (.int (((key.toUInt64 >>> ((32 : Int32) &&& 0x3f).toInt64.toUInt64).toInt64).toInt32)), .val (.int (Nat.toInt32 jf)), .val (.int (Nat.toInt32 (ft + mq - 1)))] [(.double (FP.l2d (vp + vu))), (.int (Nat.toInt32 (ft + mq - 1))), (.ref AA3)])) _
            exact kt)
          have AFx73 := Ag3
          obtain ⟨cl73, Ar73, q73, S73, H73⟩ := AFx73
          have hin73 : ¬ ((Nat.toInt32 (ft + mq - 1)) < 0 ∨ cl73.slots.size ≤ ((Nat.toInt32 (ft + mq - 1))).toNatClampNeg) := AF.inb S73 (own_ix (by omega)) (by omega)
          obtain ⟨T74, h74, X74, e74, W74, st74⟩ := stD X67 hx hZ e67 Ar73 (j := (Nat.toInt32 (ft + mq - 1))) hin73 (g := (mkF m 192 #[.val (.ref a), .val (.int (Nat.toInt32 ft)), .val (.int (Nat.toInt32 (ft + c))), .val (.int (Nat.toInt32 c)), .val (.ref r34x), .val .null, .val (.int (Nat.toInt32 mq)), .val (.int (Nat.toInt32 i)), .val (.int (((key.toUInt64 >>> ((32 : Int32) &&& 0x3f).toInt64.toUInt64).toInt64).toInt32)), .val (.int (Nat.toInt32 jf)), .val (.int (Nat.toInt32 (ft + mq - 1)))] [(.double (FP.l2d (vp + vu))), (.int (Nat.toInt32 (ft + mq - 1))), (.ref AA3)])) rfl rfl (hb hby d6_192)
          have E_a_e74 := E_a.wr W74
          have FfirstTransitions_e74 := FfirstTransitions.other W74 (Or.inl ne_a_AA3)
          have FrowCount_e74 := FrowCount.other W74 (Or.inl ne_a_AA3)
          have Fsuccessors_e74 := Fsuccessors.other W74 (Or.inl ne_a_AA3)
          have Fprobabilities_e74 := Fprobabilities.other W74 (Or.inl ne_a_AA3)
          have FexactProbabilities_e74 := FexactProbabilities.other W74 (Or.inl ne_a_AA3)
          have FtransitionCount_e74 := FtransitionCount.other W74 (Or.inl ne_a_AA3)
          have FsortKeys_e74 := FsortKeys.other W74 (Or.inl ne_a_AA3)
          have AF1_e74 := AF1.other W74 ne_AA1_AA3
          have Ag2_e74 := Ag2.other W74 ne_AA2_AA3
          have Ag4_e74 := Ag4.other W74 (Ne.symm ne_AA3_AA4)
          have Afr_e74 := Afr.other W74 (Ne.symm ne_AA3_r34x)
          have AF74 : AF Z h74 AA3 kA3 .double 16 (own_upd g3 (ft + mq - 1) (.double (FP.l2d (vp + vu)))) := AF.set Ar73 q73 S73 H73 W74 (own_ix (by omega)) (by omega)
          have N74 := Fr.snoc X74 NJ39 g_AA3
          have O74 := OJ39.wr W74 g_AA3
          have K74 : Keep h0 h74 [AA2, AA3, AA4] := KJ39.wr W74 (Or.inl (List.mem_of_getElem? (i := 1) rfl))
          have cn75 := fun (t : State) (kt : Steps p.tables e below (T74.setTop (mkF m 290 #[.val (.ref a), .val (.int (Nat.toInt32 ft)), .val (.int (Nat.toInt32 (ft + c))), .val (.int (Nat.toInt32 c)), .val (.ref r34x), .val .null, .val (.int (Nat.toInt32 mq)), .val (.int ((Nat.toInt32 i) + (1 : Int32))), .val (.int (((key.toUInt64 >>> ((32 : Int32) &&& 0x3f).toInt64.toUInt64).toInt64).toInt32)), .val (.int (Nat.toInt32 jf)), .val (.int (Nat.toInt32 (ft + mq - 1)))] [])) t) => cn72 t (by
            refine st74 _ ?_
            show Steps p.tables e below (T74.setTop (mkF m 193 #[.val (.ref a), .val (.int (Nat.toInt32 ft)), .val (.int (Nat.toInt32 (ft + c))), .val (.int (Nat.toInt32 c)), .val (.ref r34x), .val .null, .val (.int (Nat.toInt32 mq)), .val (.int (Nat.toInt32 i)), .val (.int (((key.toUInt64 >>> ((32 : Int32) &&& 0x3f).toInt64.toUInt64).toInt64).toInt32)), .val (.int (Nat.toInt32 jf)), .val (.int (Nat.toInt32 (ft + mq - 1)))] [])) _
            refine XS.aload X74.here hx rfl (hb hby d6_193) rfl rfl ?_
            show Steps p.tables e below (T74.setTop (mkF m 195 #[.val (.ref a), .val (.int (Nat.toInt32 ft)), .val (.int (Nat.toInt32 (ft + c))), .val (.int (Nat.toInt32 c)), .val (.ref r34x), .val .null, .val (.int (Nat.toInt32 mq)), .val (.int (Nat.toInt32 i)), .val (.int (((key.toUInt64 >>> ((32 : Int32) &&& 0x3f).toInt64.toUInt64).toInt64).toInt32)), .val (.int (Nat.toInt32 jf)), .val (.int (Nat.toInt32 (ft + mq - 1)))] [.null])) _
            refine XS.ifnullYes X74.here hx rfl (pc0 := 195) (pc' := 237) rfl (hb hby d6_195) rfl (by decide) (by decide) ?_
            show Steps p.tables e below (T74.setTop (mkF m 237 #[.val (.ref a), .val (.int (Nat.toInt32 ft)), .val (.int (Nat.toInt32 (ft + c))), .val (.int (Nat.toInt32 c)), .val (.ref r34x), .val .null, .val (.int (Nat.toInt32 mq)), .val (.int (Nat.toInt32 i)), .val (.int (((key.toUInt64 >>> ((32 : Int32) &&& 0x3f).toInt64.toUInt64).toInt64).toInt32)), .val (.int (Nat.toInt32 jf)), .val (.int (Nat.toInt32 (ft + mq - 1)))] [])) _
            refine XS.goto X74.here hx rfl (pc0 := 237) (pc' := 287) rfl (hb hby d6_237) (by decide) (by decide) ?_
            show Steps p.tables e below (T74.setTop (mkF m 287 #[.val (.ref a), .val (.int (Nat.toInt32 ft)), .val (.int (Nat.toInt32 (ft + c))), .val (.int (Nat.toInt32 c)), .val (.ref r34x), .val .null, .val (.int (Nat.toInt32 mq)), .val (.int (Nat.toInt32 i)), .val (.int (((key.toUInt64 >>> ((32 : Int32) &&& 0x3f).toInt64.toUInt64).toInt64).toInt32)), .val (.int (Nat.toInt32 jf)), .val (.int (Nat.toInt32 (ft + mq - 1)))] [])) _
            refine XS.iinc X74.here hx rfl (hb hby d6_287) rfl (l' := #[.val (.ref a), .val (.int (Nat.toInt32 ft)), .val (.int (Nat.toInt32 (ft + c))), .val (.int (Nat.toInt32 c)), .val (.ref r34x), .val .null, .val (.int (Nat.toInt32 mq)), .val (.int ((Nat.toInt32 i) + (1 : Int32))), .val (.int (((key.toUInt64 >>> ((32 : Int32) &&& 0x3f).toInt64.toUInt64).toInt64).toInt32)), .val (.int (Nat.toInt32 jf)), .val (.int (Nat.toInt32 (ft + mq - 1)))]) rfl ?_
            show Steps p.tables e below (T74.setTop (mkF m 290 #[.val (.ref a), .val (.int (Nat.toInt32 ft)), .val (.int (Nat.toInt32 (ft + c))), .val (.int (Nat.toInt32 c)), .val (.ref r34x), .val .null, .val (.int (Nat.toInt32 mq)), .val (.int ((Nat.toInt32 i) + (1 : Int32))), .val (.int (((key.toUInt64 >>> ((32 : Int32) &&& 0x3f).toInt64.toUInt64).toInt64).toInt32)), .val (.int (Nat.toInt32 jf)), .val (.int (Nat.toInt32 (ft + mq - 1)))] [])) _
            exact kt)
          have cn76 : ∀ t, Steps p.tables e below (T74.setTop (mkF m 290 #[.val (.ref a), .val (.int (Nat.toInt32 ft)), .val (.int (Nat.toInt32 (ft + c))), .val (.int (Nat.toInt32 c)), .val (.ref r34x), .val .null, .val (.int (Nat.toInt32 mq)), .val (.int (Nat.toInt32 (i + 1))), .val (.int (((key.toUInt64 >>> ((32 : Int32) &&& 0x3f).toInt64.toUInt64).toInt64).toInt32)), .val (.int (Nat.toInt32 jf)), .val (.int (Nat.toInt32 (ft + mq - 1)))] [])) t → Steps p.tables e below (s₁.setTop (entryFrame m #[(.ref a), (.int (Nat.toInt32 ft)), (.int (Nat.toInt32 (ft + c)))] 11)) t := by have q := cn75; rw [(id (own_inc (by omega)) : ((Nat.toInt32 i) + (1 : Int32)) = (Nat.toInt32 (i + 1)))] at q; exact q
          have cn77 := fun (t : State) (kt : Steps p.tables e below (T74.setTop (mkF m 120 #[.val (.ref a), .val (.int (Nat.toInt32 ft)), .val (.int (Nat.toInt32 (ft + c))), .val (.int (Nat.toInt32 c)), .val (.ref r34x), .val .null, .val (.int (Nat.toInt32 mq)), .val (.int (Nat.toInt32 (i + 1))), .val (.int (((key.toUInt64 >>> ((32 : Int32) &&& 0x3f).toInt64.toUInt64).toInt64).toInt32)), .val (.int (Nat.toInt32 jf)), .val (.int (Nat.toInt32 (ft + mq - 1)))] [])) t) => cn76 t (by
            refine XS.goto X74.here hx rfl (pc0 := 290) (pc' := 120) rfl (hb hby d6_290) (by decide) (by decide) ?_
            show Steps p.tables e below (T74.setTop (mkF m 120 #[.val (.ref a), .val (.int (Nat.toInt32 ft)), .val (.int (Nat.toInt32 (ft + c))), .val (.int (Nat.toInt32 c)), .val (.ref r34x), .val .null, .val (.int (Nat.toInt32 mq)), .val (.int (Nat.toInt32 (i + 1))), .val (.int (((key.toUInt64 >>> ((32 : Int32) &&& 0x3f).toInt64.toUInt64).toInt64).toInt32)), .val (.int (Nat.toInt32 jf)), .val (.int (Nat.toInt32 (ft + mq - 1)))] [])) _
            exact kt)
          exact IH38 ⟨T74, h74, _, i + 1, mq, g2, (own_upd g3 (ft + mq - 1) (.double (FP.l2d (vp + vu)))), _, _, _, own_up X74 (by decide) (by decide), e74, N74, O74, K74, (by omega), (by omega), (One.val rfl), (One.val rfl), (One.val rfl), E_a_e74, FfirstTransitions_e74, FrowCount_e74, Fsuccessors_e74, Fprobabilities_e74, FexactProbabilities_e74, FtransitionCount_e74, FsortKeys_e74, AF1_e74, Ag2_e74, AF74, Ag4_e74, Afr_e74, H2g, ((H3g.mono (by omega)).upd (ft + mq - 1) hsum.2.1 (by have q := hsum.2.2; omega)), cn77⟩
        · have cn78 := fun (t : State) (kt : Steps p.tables e below (T54.setTop (mkF m 241 #[.val (.ref a), .val (.int (Nat.toInt32 ft)), .val (.int (Nat.toInt32 (ft + c))), .val (.int (Nat.toInt32 c)), .val (.ref r34x), .val .null, .val (.int (Nat.toInt32 mq)), .val (.int (Nat.toInt32 i)), .val (.int (((key.toUInt64 >>> ((32 : Int32) &&& 0x3f).toInt64.toUInt64).toInt64).toInt32)), .val (.int (Nat.toInt32 jf)), s10] [(.ref a)])) t) => cn60 t (by
            refine XS.icmpYes X54.here hx rfl (pc0 := 167) (pc' := 240) rfl (hb hby d6_167) rfl (feq hc167_61).2 (by decide) (by decide) ?_
            show Steps p.tables e below (T54.setTop (mkF m 240 #[.val (.ref a), .val (.int (Nat.toInt32 ft)), .val (.int (Nat.toInt32 (ft + c))), .val (.int (Nat.toInt32 c)), .val (.ref r34x), .val .null, .val (.int (Nat.toInt32 mq)), .val (.int (Nat.toInt32 i)), .val (.int (((key.toUInt64 >>> ((32 : Int32) &&& 0x3f).toInt64.toUInt64).toInt64).toInt32)), .val (.int (Nat.toInt32 jf)), s10] [])) _
            refine XS.aloadN X54.here hx rfl (hb hby d6_240) rfl rfl ?_
            show Steps p.tables e below (T54.setTop (mkF m 241 #[.val (.ref a), .val (.int (Nat.toInt32 ft)), .val (.int (Nat.toInt32 (ft + c))), .val (.int (Nat.toInt32 c)), .val (.ref r34x), .val .null, .val (.int (Nat.toInt32 mq)), .val (.int (Nat.toInt32 i)), .val (.int (((key.toUInt64 >>> ((32 : Int32) &&& 0x3f).toInt64.toUInt64).toInt64).toInt32)), .val (.int (Nat.toInt32 jf)), s10] [(.ref a)])) _
            exact kt)
          obtain ⟨T79, X79, e79, st79⟩ := getF X54 hx hZ hown (host := "") (Or.inl (hw _ (List.mem_of_getElem? (i := 12) rfl))) Via.refl e54 Fsuccessors (g := (mkF m 241 #[.val (.ref a), .val (.int (Nat.toInt32 ft)), .val (.int (Nat.toInt32 (ft + c))), .val (.int (Nat.toInt32 c)), .val (.ref r34x), .val .null, .val (.int (Nat.toInt32 mq)), .val (.int (Nat.toInt32 i)), .val (.int (((key.toUInt64 >>> ((32 : Int32) &&& 0x3f).toInt64.toUInt64).toInt64).toInt32)), .val (.int (Nat.toInt32 jf)), s10] [(.ref a)])) rfl rfl (hb hby d6_241)
          have cn80 := fun (t : State) (kt : Steps p.tables e below (T79.setTop (mkF m 248 #[.val (.ref a), .val (.int (Nat.toInt32 ft)), .val (.int (Nat.toInt32 (ft + c))), .val (.int (Nat.toInt32 c)), .val (.ref r34x), .val .null, .val (.int (Nat.toInt32 mq)), .val (.int (Nat.toInt32 i)), .val (.int (((key.toUInt64 >>> ((32 : Int32) &&& 0x3f).toInt64.toUInt64).toInt64).toInt32)), .val (.int (Nat.toInt32 jf)), s10] [(.int ((Nat.toInt32 ft) + (Nat.toInt32 mq))), (.ref AA2)])) t) => cn78 t (by
            refine st79 _ ?_
            show Steps p.tables e below (T79.setTop (mkF m 244 #[.val (.ref a), .val (.int (Nat.toInt32 ft)), .val (.int (Nat.toInt32 (ft + c))), .val (.int (Nat.toInt32 c)), .val (.ref r34x), .val .null, .val (.int (Nat.toInt32 mq)), .val (.int (Nat.toInt32 i)), .val (.int (((key.toUInt64 >>> ((32 : Int32) &&& 0x3f).toInt64.toUInt64).toInt64).toInt32)), .val (.int (Nat.toInt32 jf)), s10] [(.ref AA2)])) _
            refine XS.iloadN X79.here hx rfl (hb hby d6_244) rfl ?_
            show Steps p.tables e below (T79.setTop (mkF m 245 #[.val (.ref a), .val (.int (Nat.toInt32 ft)), .val (.int (Nat.toInt32 (ft + c))), .val (.int (Nat.toInt32 c)), .val (.ref r34x), .val .null, .val (.int (Nat.toInt32 mq)), .val (.int (Nat.toInt32 i)), .val (.int (((key.toUInt64 >>> ((32 : Int32) &&& 0x3f).toInt64.toUInt64).toInt64).toInt32)), .val (.int (Nat.toInt32 jf)), s10] [(.int (Nat.toInt32 ft)), (.ref AA2)])) _
            refine XS.iload X79.here hx rfl (hb hby d6_245) rfl ?_
            show Steps p.tables e below (T79.setTop (mkF m 247 #[.val (.ref a), .val (.int (Nat.toInt32 ft)), .val (.int (Nat.toInt32 (ft + c))), .val (.int (Nat.toInt32 c)), .val (.ref r34x), .val .null, .val (.int (Nat.toInt32 mq)), .val (.int (Nat.toInt32 i)), .val (.int (((key.toUInt64 >>> ((32 : Int32) &&& 0x3f).toInt64.toUInt64).toInt64).toInt32)), .val (.int (Nat.toInt32 jf)), s10] [(.int (Nat.toInt32 mq)), (.int (Nat.toInt32 ft)), (.ref AA2)])) _
            refine XS.iadd X79.here hx rfl (hb hby d6_247) rfl ?_
            show Steps p.tables e below (T79.setTop (mkF m 248 #[.val (.ref a), .val (.int (Nat.toInt32 ft)), .val (.int (Nat.toInt32 (ft + c))), .val (.int (Nat.toInt32 c)), .val (.ref r34x), .val .null, .val (.int (Nat.toInt32 mq)), .val (.int (Nat.toInt32 i)), .val (.int (((key.toUInt64 >>> ((32 : Int32) &&& 0x3f).toInt64.toUInt64).toInt64).toInt32)), .val (.int (Nat.toInt32 jf)), s10] [(.int ((Nat.toInt32 ft) + (Nat.toInt32 mq))), (.ref AA2)])) _
            exact kt)
          have cn81 : ∀ t, Steps p.tables e below (T79.setTop (mkF m 248 #[.val (.ref a), .val (.int (Nat.toInt32 ft)), .val (.int (Nat.toInt32 (ft + c))), .val (.int (Nat.toInt32 c)), .val (.ref r34x), .val .null, .val (.int (Nat.toInt32 mq)), .val (.int (Nat.toInt32 i)), .val (.int (((key.toUInt64 >>> ((32 : Int32) &&& 0x3f).toInt64.toUInt64).toInt64).toInt32)), .val (.int (Nat.toInt32 jf)), s10] [(.int (Nat.toInt32 (ft + mq))), (.ref AA2)])) t → Steps p.tables e below (s₁.setTop (entryFrame m #[(.ref a), (.int (Nat.toInt32 ft)), (.int (Nat.toInt32 (ft + c)))] 11)) t := by have q := cn80; rw [(id (own_add (by omega)) : ((Nat.toInt32 ft) + (Nat.toInt32 mq)) = (Nat.toInt32 (ft + mq)))] at q; exact q
          have cn82 := fun (t : State) (kt : Steps p.tables e below (T79.setTop (mkF m 250 #[.val (.ref a), .val (.int (Nat.toInt32 ft)), .val (.int (Nat.toInt32 (ft + c))), .val (.int (Nat.toInt32 c)), .val (.ref r34x), .val .null, .val (.int (Nat.toInt32 mq)), .val (.int (Nat.toInt32 i)), .val (.int (((key.toUInt64 >>> ((32 : Int32) &&& 0x3f).toInt64.toUInt64).toInt64).toInt32)), .val (.int (Nat.toInt32 jf)), s10] [(.int (((key.toUInt64 >>> ((32 : Int32) &&& 0x3f).toInt64.toUInt64).toInt64).toInt32)), (.int (Nat.toInt32 (ft + mq))), (.ref AA2)])) t) => cn81 t (by
            refine XS.iload X79.here hx rfl (hb hby d6_248) rfl ?_
            show Steps p.tables e below (T79.setTop (mkF m 250 #[.val (.ref a), .val (.int (Nat.toInt32 ft)), .val (.int (Nat.toInt32 (ft + c))), .val (.int (Nat.toInt32 c)), .val (.ref r34x), .val .null, .val (.int (Nat.toInt32 mq)), .val (.int (Nat.toInt32 i)), .val (.int (((key.toUInt64 >>> ((32 : Int32) &&& 0x3f).toInt64.toUInt64).toInt64).toInt32)), .val (.int (Nat.toInt32 jf)), s10] [(.int (((key.toUInt64 >>> ((32 : Int32) &&& 0x3f).toInt64.toUInt64).toInt64).toInt32)), (.int (Nat.toInt32 (ft + mq))), (.ref AA2)])) _
            exact kt)
          have AFx83 := Ag2
          obtain ⟨cl83, Ar83, q83, S83, H83⟩ := AFx83
          have hin83 : ¬ ((Nat.toInt32 (ft + mq)) < 0 ∨ cl83.slots.size ≤ ((Nat.toInt32 (ft + mq))).toNatClampNeg) := AF.inb S83 (own_ix (by omega)) (by omega)
          obtain ⟨T84, h84, X84, e84, W84, st84⟩ := stI X79 hx hZ e79 Ar83 (j := (Nat.toInt32 (ft + mq))) hin83 (g := (mkF m 250 #[.val (.ref a), .val (.int (Nat.toInt32 ft)), .val (.int (Nat.toInt32 (ft + c))), .val (.int (Nat.toInt32 c)), .val (.ref r34x), .val .null, .val (.int (Nat.toInt32 mq)), .val (.int (Nat.toInt32 i)), .val (.int (((key.toUInt64 >>> ((32 : Int32) &&& 0x3f).toInt64.toUInt64).toInt64).toInt32)), .val (.int (Nat.toInt32 jf)), s10] [(.int (((key.toUInt64 >>> ((32 : Int32) &&& 0x3f).toInt64.toUInt64).toInt64).toInt32)), (.int (Nat.toInt32 (ft + mq))), (.ref AA2)])) rfl rfl (hb hby d6_250)
          have E_a_e84 := E_a.wr W84
          have FfirstTransitions_e84 := FfirstTransitions.other W84 (Or.inl ne_a_AA2)
          have FrowCount_e84 := FrowCount.other W84 (Or.inl ne_a_AA2)
          have Fsuccessors_e84 := Fsuccessors.other W84 (Or.inl ne_a_AA2)
          have Fprobabilities_e84 := Fprobabilities.other W84 (Or.inl ne_a_AA2)
          have FexactProbabilities_e84 := FexactProbabilities.other W84 (Or.inl ne_a_AA2)
          have FtransitionCount_e84 := FtransitionCount.other W84 (Or.inl ne_a_AA2)
          have FsortKeys_e84 := FsortKeys.other W84 (Or.inl ne_a_AA2)
          have AF1_e84 := AF1.other W84 ne_AA1_AA2
          have Ag3_e84 := Ag3.other W84 (Ne.symm ne_AA2_AA3)
          have Ag4_e84 := Ag4.other W84 (Ne.symm ne_AA2_AA4)
          have Afr_e84 := Afr.other W84 (Ne.symm ne_AA2_r34x)
          have AF84 : AF Z h84 AA2 kA2 .int 16 (own_upd g2 (ft + mq) (.int (((key.toUInt64 >>> ((32 : Int32) &&& 0x3f).toInt64.toUInt64).toInt64).toInt32))) := AF.set Ar83 q83 S83 H83 W84 (own_ix (by omega)) (by omega)
          have N84 := Fr.snoc X84 NJ39 g_AA2
          have O84 := OJ39.wr W84 g_AA2
          have K84 : Keep h0 h84 [AA2, AA3, AA4] := KJ39.wr W84 (Or.inl (List.mem_of_getElem? (i := 0) rfl))
          have cn85 := fun (t : State) (kt : Steps p.tables e below (T84.setTop (mkF m 252 #[.val (.ref a), .val (.int (Nat.toInt32 ft)), .val (.int (Nat.toInt32 (ft + c))), .val (.int (Nat.toInt32 c)), .val (.ref r34x), .val .null, .val (.int (Nat.toInt32 mq)), .val (.int (Nat.toInt32 i)), .val (.int (((key.toUInt64 >>> ((32 : Int32) &&& 0x3f).toInt64.toUInt64).toInt64).toInt32)), .val (.int (Nat.toInt32 jf)), s10] [(.ref a)])) t) => cn82 t (by
            refine st84 _ ?_
            show Steps p.tables e below (T84.setTop (mkF m 251 #[.val (.ref a), .val (.int (Nat.toInt32 ft)), .val (.int (Nat.toInt32 (ft + c))), .val (.int (Nat.toInt32 c)), .val (.ref r34x), .val .null, .val (.int (Nat.toInt32 mq)), .val (.int (Nat.toInt32 i)), .val (.int (((key.toUInt64 >>> ((32 : Int32) &&& 0x3f).toInt64.toUInt64).toInt64).toInt32)), .val (.int (Nat.toInt32 jf)), s10] [])) _
            refine XS.aloadN X84.here hx rfl (hb hby d6_251) rfl rfl ?_
            show Steps p.tables e below (T84.setTop (mkF m 252 #[.val (.ref a), .val (.int (Nat.toInt32 ft)), .val (.int (Nat.toInt32 (ft + c))), .val (.int (Nat.toInt32 c)), .val (.ref r34x), .val .null, .val (.int (Nat.toInt32 mq)), .val (.int (Nat.toInt32 i)), .val (.int (((key.toUInt64 >>> ((32 : Int32) &&& 0x3f).toInt64.toUInt64).toInt64).toInt32)), .val (.int (Nat.toInt32 jf)), s10] [(.ref a)])) _
            exact kt)
          obtain ⟨T86, X86, e86, st86⟩ := getF X84 hx hZ hown (host := "") (Or.inl (hw _ (List.mem_of_getElem? (i := 15) rfl))) Via.refl e84 Fprobabilities_e84 (g := (mkF m 252 #[.val (.ref a), .val (.int (Nat.toInt32 ft)), .val (.int (Nat.toInt32 (ft + c))), .val (.int (Nat.toInt32 c)), .val (.ref r34x), .val .null, .val (.int (Nat.toInt32 mq)), .val (.int (Nat.toInt32 i)), .val (.int (((key.toUInt64 >>> ((32 : Int32) &&& 0x3f).toInt64.toUInt64).toInt64).toInt32)), .val (.int (Nat.toInt32 jf)), s10] [(.ref a)])) rfl rfl (hb hby d6_252)
          have cn87 := fun (t : State) (kt : Steps p.tables e below (T86.setTop (mkF m 259 #[.val (.ref a), .val (.int (Nat.toInt32 ft)), .val (.int (Nat.toInt32 (ft + c))), .val (.int (Nat.toInt32 c)), .val (.ref r34x), .val .null, .val (.int (Nat.toInt32 mq)), .val (.int (Nat.toInt32 i)), .val (.int (((key.toUInt64 >>> ((32 : Int32) &&& 0x3f).toInt64.toUInt64).toInt64).toInt32)), .val (.int (Nat.toInt32 jf)), s10] [(.int ((Nat.toInt32 ft) + (Nat.toInt32 mq))), (.ref AA3)])) t) => cn85 t (by
            refine st86 _ ?_
            show Steps p.tables e below (T86.setTop (mkF m 255 #[.val (.ref a), .val (.int (Nat.toInt32 ft)), .val (.int (Nat.toInt32 (ft + c))), .val (.int (Nat.toInt32 c)), .val (.ref r34x), .val .null, .val (.int (Nat.toInt32 mq)), .val (.int (Nat.toInt32 i)), .val (.int (((key.toUInt64 >>> ((32 : Int32) &&& 0x3f).toInt64.toUInt64).toInt64).toInt32)), .val (.int (Nat.toInt32 jf)), s10] [(.ref AA3)])) _
            refine XS.iloadN X86.here hx rfl (hb hby d6_255) rfl ?_
            show Steps p.tables e below (T86.setTop (mkF m 256 #[.val (.ref a), .val (.int (Nat.toInt32 ft)), .val (.int (Nat.toInt32 (ft + c))), .val (.int (Nat.toInt32 c)), .val (.ref r34x), .val .null, .val (.int (Nat.toInt32 mq)), .val (.int (Nat.toInt32 i)), .val (.int (((key.toUInt64 >>> ((32 : Int32) &&& 0x3f).toInt64.toUInt64).toInt64).toInt32)), .val (.int (Nat.toInt32 jf)), s10] [(.int (Nat.toInt32 ft)), (.ref AA3)])) _
            refine XS.iload X86.here hx rfl (hb hby d6_256) rfl ?_
            show Steps p.tables e below (T86.setTop (mkF m 258 #[.val (.ref a), .val (.int (Nat.toInt32 ft)), .val (.int (Nat.toInt32 (ft + c))), .val (.int (Nat.toInt32 c)), .val (.ref r34x), .val .null, .val (.int (Nat.toInt32 mq)), .val (.int (Nat.toInt32 i)), .val (.int (((key.toUInt64 >>> ((32 : Int32) &&& 0x3f).toInt64.toUInt64).toInt64).toInt32)), .val (.int (Nat.toInt32 jf)), s10] [(.int (Nat.toInt32 mq)), (.int (Nat.toInt32 ft)), (.ref AA3)])) _
            refine XS.iadd X86.here hx rfl (hb hby d6_258) rfl ?_
            show Steps p.tables e below (T86.setTop (mkF m 259 #[.val (.ref a), .val (.int (Nat.toInt32 ft)), .val (.int (Nat.toInt32 (ft + c))), .val (.int (Nat.toInt32 c)), .val (.ref r34x), .val .null, .val (.int (Nat.toInt32 mq)), .val (.int (Nat.toInt32 i)), .val (.int (((key.toUInt64 >>> ((32 : Int32) &&& 0x3f).toInt64.toUInt64).toInt64).toInt32)), .val (.int (Nat.toInt32 jf)), s10] [(.int ((Nat.toInt32 ft) + (Nat.toInt32 mq))), (.ref AA3)])) _
            exact kt)
          have cn88 : ∀ t, Steps p.tables e below (T86.setTop (mkF m 259 #[.val (.ref a), .val (.int (Nat.toInt32 ft)), .val (.int (Nat.toInt32 (ft + c))), .val (.int (Nat.toInt32 c)), .val (.ref r34x), .val .null, .val (.int (Nat.toInt32 mq)), .val (.int (Nat.toInt32 i)), .val (.int (((key.toUInt64 >>> ((32 : Int32) &&& 0x3f).toInt64.toUInt64).toInt64).toInt32)), .val (.int (Nat.toInt32 jf)), s10] [(.int (Nat.toInt32 (ft + mq))), (.ref AA3)])) t → Steps p.tables e below (s₁.setTop (entryFrame m #[(.ref a), (.int (Nat.toInt32 ft)), (.int (Nat.toInt32 (ft + c)))] 11)) t := by have q := cn87; rw [(id (own_add (by omega)) : ((Nat.toInt32 ft) + (Nat.toInt32 mq)) = (Nat.toInt32 (ft + mq)))] at q; exact q
          have cn89 := fun (t : State) (kt : Steps p.tables e below (T86.setTop (mkF m 263 #[.val (.ref a), .val (.int (Nat.toInt32 ft)), .val (.int (Nat.toInt32 (ft + c))), .val (.int (Nat.toInt32 c)), .val (.ref r34x), .val .null, .val (.int (Nat.toInt32 mq)), .val (.int (Nat.toInt32 i)), .val (.int (((key.toUInt64 >>> ((32 : Int32) &&& 0x3f).toInt64.toUInt64).toInt64).toInt32)), .val (.int (Nat.toInt32 jf)), s10] [(.int (Nat.toInt32 jf)), (.ref r34x), (.int (Nat.toInt32 (ft + mq))), (.ref AA3)])) t) => cn88 t (by
            refine XS.aload X86.here hx rfl (hb hby d6_259) rfl rfl ?_
            show Steps p.tables e below (T86.setTop (mkF m 261 #[.val (.ref a), .val (.int (Nat.toInt32 ft)), .val (.int (Nat.toInt32 (ft + c))), .val (.int (Nat.toInt32 c)), .val (.ref r34x), .val .null, .val (.int (Nat.toInt32 mq)), .val (.int (Nat.toInt32 i)), .val (.int (((key.toUInt64 >>> ((32 : Int32) &&& 0x3f).toInt64.toUInt64).toInt64).toInt32)), .val (.int (Nat.toInt32 jf)), s10] [(.ref r34x), (.int (Nat.toInt32 (ft + mq))), (.ref AA3)])) _
            refine XS.iload X86.here hx rfl (hb hby d6_261) rfl ?_
            show Steps p.tables e below (T86.setTop (mkF m 263 #[.val (.ref a), .val (.int (Nat.toInt32 ft)), .val (.int (Nat.toInt32 (ft + c))), .val (.int (Nat.toInt32 c)), .val (.ref r34x), .val .null, .val (.int (Nat.toInt32 mq)), .val (.int (Nat.toInt32 i)), .val (.int (((key.toUInt64 >>> ((32 : Int32) &&& 0x3f).toInt64.toUInt64).toInt64).toInt32)), .val (.int (Nat.toInt32 jf)), s10] [(.int (Nat.toInt32 jf)), (.ref r34x), (.int (Nat.toInt32 (ft + mq))), (.ref AA3)])) _
            exact kt)
          have AFx90 := Afr_e84
          obtain ⟨cl90, Ar90, q90, S90, H90⟩ := AFx90
          have hin90 : ¬ ((Nat.toInt32 jf) < 0 ∨ cl90.slots.size ≤ ((Nat.toInt32 jf)).toNatClampNeg) := AF.inb S90 (own_ix (by omega)) hjf
          have hat90 : cl90.slots[((Nat.toInt32 jf)).toNatClampNeg]? = some (.double (FP.l2d vu)) := AF.at H90 (own_ix (by omega)) hjf hvu
          have cn91 := fun (t : State) (kt : Steps p.tables e below (T86.setTop (mkF m 264 #[.val (.ref a), .val (.int (Nat.toInt32 ft)), .val (.int (Nat.toInt32 (ft + c))), .val (.int (Nat.toInt32 c)), .val (.ref r34x), .val .null, .val (.int (Nat.toInt32 mq)), .val (.int (Nat.toInt32 i)), .val (.int (((key.toUInt64 >>> ((32 : Int32) &&& 0x3f).toInt64.toUInt64).toInt64).toInt32)), .val (.int (Nat.toInt32 jf)), s10] [(.double (FP.l2d vu)), (.int (Nat.toInt32 (ft + mq))), (.ref AA3)])) t) => cn89 t (by
            refine X86.daload hx (j := (Nat.toInt32 jf)) (v := (.double (FP.l2d vu))) (by rw [e86]; exact Ar90.1) (State.isArrayOf_alike hZ.alike Ar90.2.1) Ar90.2.2 hin90 hat90 (g := (mkF m 263 #[.val (.ref a), .val (.int (Nat.toInt32 ft)), .val (.int (Nat.toInt32 (ft + c))), .val (.int (Nat.toInt32 c)), .val (.ref r34x), .val .null, .val (.int (Nat.toInt32 mq)), .val (.int (Nat.toInt32 i)), .val (.int (((key.toUInt64 >>> ((32 : Int32) &&& 0x3f).toInt64.toUInt64).toInt64).toInt32)), .val (.int (Nat.toInt32 jf)), s10] [(.int (Nat.toInt32 jf)), (.ref r34x), (.int (Nat.toInt32 (ft + mq))), (.ref AA3)])) rfl rfl (hb hby d6_263) _ ?_
            show Steps p.tables e below (T86.setTop (mkF m 264 #[.val (.ref a), .val (.int (Nat.toInt32 ft)), .val (.int (Nat.toInt32 (ft + c))), .val (.int (Nat.toInt32 c)), .val (.ref r34x), .val .null, .val (.int (Nat.toInt32 mq)), .val (.int (Nat.toInt32 i)), .val (.int (((key.toUInt64 >>> ((32 : Int32) &&& 0x3f).toInt64.toUInt64).toInt64).toInt32)), .val (.int (Nat.toInt32 jf)), s10] [(.double (FP.l2d vu)), (.int (Nat.toInt32 (ft + mq))), (.ref AA3)])) _
            exact kt)
          have AFx92 := Ag3_e84
          obtain ⟨cl92, Ar92, q92, S92, H92⟩ := AFx92
          have hin92 : ¬ ((Nat.toInt32 (ft + mq)) < 0 ∨ cl92.slots.size ≤ ((Nat.toInt32 (ft + mq))).toNatClampNeg) := AF.inb S92 (own_ix (by omega)) (by omega)
          obtain ⟨T93, h93, X93, e93, W93, st93⟩ := stD X86 hx hZ e86 Ar92 (j := (Nat.toInt32 (ft + mq))) hin92 (g := (mkF m 264 #[.val (.ref a), .val (.int (Nat.toInt32 ft)), .val (.int (Nat.toInt32 (ft + c))), .val (.int (Nat.toInt32 c)), .val (.ref r34x), .val .null, .val (.int (Nat.toInt32 mq)), .val (.int (Nat.toInt32 i)), .val (.int (((key.toUInt64 >>> ((32 : Int32) &&& 0x3f).toInt64.toUInt64).toInt64).toInt32)), .val (.int (Nat.toInt32 jf)), s10] [(.double (FP.l2d vu)), (.int (Nat.toInt32 (ft + mq))), (.ref AA3)])) rfl rfl (hb hby d6_264)
          have E_a_e93 := E_a_e84.wr W93
          have FfirstTransitions_e93 := FfirstTransitions_e84.other W93 (Or.inl ne_a_AA3)
          have FrowCount_e93 := FrowCount_e84.other W93 (Or.inl ne_a_AA3)
          have Fsuccessors_e93 := Fsuccessors_e84.other W93 (Or.inl ne_a_AA3)
          have Fprobabilities_e93 := Fprobabilities_e84.other W93 (Or.inl ne_a_AA3)
          have FexactProbabilities_e93 := FexactProbabilities_e84.other W93 (Or.inl ne_a_AA3)
          have FtransitionCount_e93 := FtransitionCount_e84.other W93 (Or.inl ne_a_AA3)
          have FsortKeys_e93 := FsortKeys_e84.other W93 (Or.inl ne_a_AA3)
          have AF1_e93 := AF1_e84.other W93 ne_AA1_AA3
          have AF84_e93 := AF84.other W93 ne_AA2_AA3
          have Ag4_e93 := Ag4_e84.other W93 (Ne.symm ne_AA3_AA4)
          have Afr_e93 := Afr_e84.other W93 (Ne.symm ne_AA3_r34x)
          have AF93 : AF Z h93 AA3 kA3 .double 16 (own_upd g3 (ft + mq) (.double (FP.l2d vu))) := AF.set Ar92 q92 S92 H92 W93 (own_ix (by omega)) (by omega)
          have N93 := Fr.snoc X93 N84 g_AA3
          have O93 := O84.wr W93 g_AA3
          have K93 : Keep h0 h93 [AA2, AA3, AA4] := K84.wr W93 (Or.inl (List.mem_of_getElem? (i := 1) rfl))
          have cn94 := fun (t : State) (kt : Steps p.tables e below (T93.setTop (mkF m 287 #[.val (.ref a), .val (.int (Nat.toInt32 ft)), .val (.int (Nat.toInt32 (ft + c))), .val (.int (Nat.toInt32 c)), .val (.ref r34x), .val .null, .val (.int ((Nat.toInt32 mq) + (1 : Int32))), .val (.int (Nat.toInt32 i)), .val (.int (((key.toUInt64 >>> ((32 : Int32) &&& 0x3f).toInt64.toUInt64).toInt64).toInt32)), .val (.int (Nat.toInt32 jf)), s10] [])) t) => cn91 t (by
            refine st93 _ ?_
            show Steps p.tables e below (T93.setTop (mkF m 265 #[.val (.ref a), .val (.int (Nat.toInt32 ft)), .val (.int (Nat.toInt32 (ft + c))), .val (.int (Nat.toInt32 c)), .val (.ref r34x), .val .null, .val (.int (Nat.toInt32 mq)), .val (.int (Nat.toInt32 i)), .val (.int (((key.toUInt64 >>> ((32 : Int32) &&& 0x3f).toInt64.toUInt64).toInt64).toInt32)), .val (.int (Nat.toInt32 jf)), s10] [])) _
            refine XS.aload X93.here hx rfl (hb hby d6_265) rfl rfl ?_
            show Steps p.tables e below (T93.setTop (mkF m 267 #[.val (.ref a), .val (.int (Nat.toInt32 ft)), .val (.int (Nat.toInt32 (ft + c))), .val (.int (Nat.toInt32 c)), .val (.ref r34x), .val .null, .val (.int (Nat.toInt32 mq)), .val (.int (Nat.toInt32 i)), .val (.int (((key.toUInt64 >>> ((32 : Int32) &&& 0x3f).toInt64.toUInt64).toInt64).toInt32)), .val (.int (Nat.toInt32 jf)), s10] [.null])) _
            refine XS.ifnullYes X93.here hx rfl (pc0 := 267) (pc' := 284) rfl (hb hby d6_267) rfl (by decide) (by decide) ?_
            show Steps p.tables e below (T93.setTop (mkF m 284 #[.val (.ref a), .val (.int (Nat.toInt32 ft)), .val (.int (Nat.toInt32 (ft + c))), .val (.int (Nat.toInt32 c)), .val (.ref r34x), .val .null, .val (.int (Nat.toInt32 mq)), .val (.int (Nat.toInt32 i)), .val (.int (((key.toUInt64 >>> ((32 : Int32) &&& 0x3f).toInt64.toUInt64).toInt64).toInt32)), .val (.int (Nat.toInt32 jf)), s10] [])) _
            refine XS.iinc X93.here hx rfl (hb hby d6_284) rfl (l' := #[.val (.ref a), .val (.int (Nat.toInt32 ft)), .val (.int (Nat.toInt32 (ft + c))), .val (.int (Nat.toInt32 c)), .val (.ref r34x), .val .null, .val (.int ((Nat.toInt32 mq) + (1 : Int32))), .val (.int (Nat.toInt32 i)), .val (.int (((key.toUInt64 >>> ((32 : Int32) &&& 0x3f).toInt64.toUInt64).toInt64).toInt32)), .val (.int (Nat.toInt32 jf)), s10]) rfl ?_
            show Steps p.tables e below (T93.setTop (mkF m 287 #[.val (.ref a), .val (.int (Nat.toInt32 ft)), .val (.int (Nat.toInt32 (ft + c))), .val (.int (Nat.toInt32 c)), .val (.ref r34x), .val .null, .val (.int ((Nat.toInt32 mq) + (1 : Int32))), .val (.int (Nat.toInt32 i)), .val (.int (((key.toUInt64 >>> ((32 : Int32) &&& 0x3f).toInt64.toUInt64).toInt64).toInt32)), .val (.int (Nat.toInt32 jf)), s10] [])) _
            exact kt)
          have cn95 : ∀ t, Steps p.tables e below (T93.setTop (mkF m 287 #[.val (.ref a), .val (.int (Nat.toInt32 ft)), .val (.int (Nat.toInt32 (ft + c))), .val (.int (Nat.toInt32 c)), .val (.ref r34x), .val .null, .val (.int (Nat.toInt32 (mq + 1))), .val (.int (Nat.toInt32 i)), .val (.int (((key.toUInt64 >>> ((32 : Int32) &&& 0x3f).toInt64.toUInt64).toInt64).toInt32)), .val (.int (Nat.toInt32 jf)), s10] [])) t → Steps p.tables e below (s₁.setTop (entryFrame m #[(.ref a), (.int (Nat.toInt32 ft)), (.int (Nat.toInt32 (ft + c)))] 11)) t := by have q := cn94; rw [(id (own_inc (by omega)) : ((Nat.toInt32 mq) + (1 : Int32)) = (Nat.toInt32 (mq + 1)))] at q; exact q
          have cn96 := fun (t : State) (kt : Steps p.tables e below (T93.setTop (mkF m 290 #[.val (.ref a), .val (.int (Nat.toInt32 ft)), .val (.int (Nat.toInt32 (ft + c))), .val (.int (Nat.toInt32 c)), .val (.ref r34x), .val .null, .val (.int (Nat.toInt32 (mq + 1))), .val (.int ((Nat.toInt32 i) + (1 : Int32))), .val (.int (((key.toUInt64 >>> ((32 : Int32) &&& 0x3f).toInt64.toUInt64).toInt64).toInt32)), .val (.int (Nat.toInt32 jf)), s10] [])) t) => cn95 t (by
            refine XS.iinc X93.here hx rfl (hb hby d6_287) rfl (l' := #[.val (.ref a), .val (.int (Nat.toInt32 ft)), .val (.int (Nat.toInt32 (ft + c))), .val (.int (Nat.toInt32 c)), .val (.ref r34x), .val .null, .val (.int (Nat.toInt32 (mq + 1))), .val (.int ((Nat.toInt32 i) + (1 : Int32))), .val (.int (((key.toUInt64 >>> ((32 : Int32) &&& 0x3f).toInt64.toUInt64).toInt64).toInt32)), .val (.int (Nat.toInt32 jf)), s10]) rfl ?_
            show Steps p.tables e below (T93.setTop (mkF m 290 #[.val (.ref a), .val (.int (Nat.toInt32 ft)), .val (.int (Nat.toInt32 (ft + c))), .val (.int (Nat.toInt32 c)), .val (.ref r34x), .val .null, .val (.int (Nat.toInt32 (mq + 1))), .val (.int ((Nat.toInt32 i) + (1 : Int32))), .val (.int (((key.toUInt64 >>> ((32 : Int32) &&& 0x3f).toInt64.toUInt64).toInt64).toInt32)), .val (.int (Nat.toInt32 jf)), s10] [])) _
            exact kt)
          have cn97 : ∀ t, Steps p.tables e below (T93.setTop (mkF m 290 #[.val (.ref a), .val (.int (Nat.toInt32 ft)), .val (.int (Nat.toInt32 (ft + c))), .val (.int (Nat.toInt32 c)), .val (.ref r34x), .val .null, .val (.int (Nat.toInt32 (mq + 1))), .val (.int (Nat.toInt32 (i + 1))), .val (.int (((key.toUInt64 >>> ((32 : Int32) &&& 0x3f).toInt64.toUInt64).toInt64).toInt32)), .val (.int (Nat.toInt32 jf)), s10] [])) t → Steps p.tables e below (s₁.setTop (entryFrame m #[(.ref a), (.int (Nat.toInt32 ft)), (.int (Nat.toInt32 (ft + c)))] 11)) t := by have q := cn96; rw [(id (own_inc (by omega)) : ((Nat.toInt32 i) + (1 : Int32)) = (Nat.toInt32 (i + 1)))] at q; exact q
          have cn98 := fun (t : State) (kt : Steps p.tables e below (T93.setTop (mkF m 120 #[.val (.ref a), .val (.int (Nat.toInt32 ft)), .val (.int (Nat.toInt32 (ft + c))), .val (.int (Nat.toInt32 c)), .val (.ref r34x), .val .null, .val (.int (Nat.toInt32 (mq + 1))), .val (.int (Nat.toInt32 (i + 1))), .val (.int (((key.toUInt64 >>> ((32 : Int32) &&& 0x3f).toInt64.toUInt64).toInt64).toInt32)), .val (.int (Nat.toInt32 jf)), s10] [])) t) => cn97 t (by
            refine XS.goto X93.here hx rfl (pc0 := 290) (pc' := 120) rfl (hb hby d6_290) (by decide) (by decide) ?_
            show Steps p.tables e below (T93.setTop (mkF m 120 #[.val (.ref a), .val (.int (Nat.toInt32 ft)), .val (.int (Nat.toInt32 (ft + c))), .val (.int (Nat.toInt32 c)), .val (.ref r34x), .val .null, .val (.int (Nat.toInt32 (mq + 1))), .val (.int (Nat.toInt32 (i + 1))), .val (.int (((key.toUInt64 >>> ((32 : Int32) &&& 0x3f).toInt64.toUInt64).toInt64).toInt32)), .val (.int (Nat.toInt32 jf)), s10] [])) _
            exact kt)
          exact IH38 ⟨T93, h93, _, i + 1, (mq + 1), (own_upd g2 (ft + mq) (.int (((key.toUInt64 >>> ((32 : Int32) &&& 0x3f).toInt64.toUInt64).toInt64).toInt32))), (own_upd g3 (ft + mq) (.double (FP.l2d vu))), _, _, _, own_up X93 (by decide) (by decide), e93, N93, O93, K93, (by omega), (by omega), (One.val rfl), (One.val rfl), ho10, E_a_e93, FfirstTransitions_e93, FrowCount_e93, Fsuccessors_e93, Fprobabilities_e93, FexactProbabilities_e93, FtransitionCount_e93, FsortKeys_e93, AF1_e93, AF84_e93, AF93, Ag4_e93, Afr_e93, (H2g.upd (ft + mq) _), ((H3g.mono (by omega)).upd (ft + mq) hvu0 (by omega)), cn98⟩
      · have cn99 := fun (t : State) (kt : Steps p.tables e below (T46.setTop (mkF m 241 #[.val (.ref a), .val (.int (Nat.toInt32 ft)), .val (.int (Nat.toInt32 (ft + c))), .val (.int (Nat.toInt32 c)), .val (.ref r34x), .val .null, .val (.int (Nat.toInt32 mq)), .val (.int (Nat.toInt32 i)), .val (.int (((key.toUInt64 >>> ((32 : Int32) &&& 0x3f).toInt64.toUInt64).toInt64).toInt32)), .val (.int (Nat.toInt32 jf)), s10] [(.ref a)])) t) => cn51 t (by
          refine XS.ifYes X46.here hx rfl (pc0 := 151) (pc' := 240) rfl (hb hby d6_151) rfl ((if0 _ _).trans (flt hc151_52).2.2.2) (by decide) (by decide) ?_
          show Steps p.tables e below (T46.setTop (mkF m 240 #[.val (.ref a), .val (.int (Nat.toInt32 ft)), .val (.int (Nat.toInt32 (ft + c))), .val (.int (Nat.toInt32 c)), .val (.ref r34x), .val .null, .val (.int (Nat.toInt32 mq)), .val (.int (Nat.toInt32 i)), .val (.int (((key.toUInt64 >>> ((32 : Int32) &&& 0x3f).toInt64.toUInt64).toInt64).toInt32)), .val (.int (Nat.toInt32 jf)), s10] [])) _
          refine XS.aloadN X46.here hx rfl (hb hby d6_240) rfl rfl ?_
          show Steps p.tables e below (T46.setTop (mkF m 241 #[.val (.ref a), .val (.int (Nat.toInt32 ft)), .val (.int (Nat.toInt32 (ft + c))), .val (.int (Nat.toInt32 c)), .val (.ref r34x), .val .null, .val (.int (Nat.toInt32 mq)), .val (.int (Nat.toInt32 i)), .val (.int (((key.toUInt64 >>> ((32 : Int32) &&& 0x3f).toInt64.toUInt64).toInt64).toInt32)), .val (.int (Nat.toInt32 jf)), s10] [(.ref a)])) _
          exact kt)
        obtain ⟨T100, X100, e100, st100⟩ := getF X46 hx hZ hown (host := "") (Or.inl (hw _ (List.mem_of_getElem? (i := 12) rfl))) Via.refl e46 Fsuccessors (g := (mkF m 241 #[.val (.ref a), .val (.int (Nat.toInt32 ft)), .val (.int (Nat.toInt32 (ft + c))), .val (.int (Nat.toInt32 c)), .val (.ref r34x), .val .null, .val (.int (Nat.toInt32 mq)), .val (.int (Nat.toInt32 i)), .val (.int (((key.toUInt64 >>> ((32 : Int32) &&& 0x3f).toInt64.toUInt64).toInt64).toInt32)), .val (.int (Nat.toInt32 jf)), s10] [(.ref a)])) rfl rfl (hb hby d6_241)
        have cn101 := fun (t : State) (kt : Steps p.tables e below (T100.setTop (mkF m 248 #[.val (.ref a), .val (.int (Nat.toInt32 ft)), .val (.int (Nat.toInt32 (ft + c))), .val (.int (Nat.toInt32 c)), .val (.ref r34x), .val .null, .val (.int (Nat.toInt32 mq)), .val (.int (Nat.toInt32 i)), .val (.int (((key.toUInt64 >>> ((32 : Int32) &&& 0x3f).toInt64.toUInt64).toInt64).toInt32)), .val (.int (Nat.toInt32 jf)), s10] [(.int ((Nat.toInt32 ft) + (Nat.toInt32 mq))), (.ref AA2)])) t) => cn99 t (by
          refine st100 _ ?_
          show Steps p.tables e below (T100.setTop (mkF m 244 #[.val (.ref a), .val (.int (Nat.toInt32 ft)), .val (.int (Nat.toInt32 (ft + c))), .val (.int (Nat.toInt32 c)), .val (.ref r34x), .val .null, .val (.int (Nat.toInt32 mq)), .val (.int (Nat.toInt32 i)), .val (.int (((key.toUInt64 >>> ((32 : Int32) &&& 0x3f).toInt64.toUInt64).toInt64).toInt32)), .val (.int (Nat.toInt32 jf)), s10] [(.ref AA2)])) _
          refine XS.iloadN X100.here hx rfl (hb hby d6_244) rfl ?_
          show Steps p.tables e below (T100.setTop (mkF m 245 #[.val (.ref a), .val (.int (Nat.toInt32 ft)), .val (.int (Nat.toInt32 (ft + c))), .val (.int (Nat.toInt32 c)), .val (.ref r34x), .val .null, .val (.int (Nat.toInt32 mq)), .val (.int (Nat.toInt32 i)), .val (.int (((key.toUInt64 >>> ((32 : Int32) &&& 0x3f).toInt64.toUInt64).toInt64).toInt32)), .val (.int (Nat.toInt32 jf)), s10] [(.int (Nat.toInt32 ft)), (.ref AA2)])) _
          refine XS.iload X100.here hx rfl (hb hby d6_245) rfl ?_
          show Steps p.tables e below (T100.setTop (mkF m 247 #[.val (.ref a), .val (.int (Nat.toInt32 ft)), .val (.int (Nat.toInt32 (ft + c))), .val (.int (Nat.toInt32 c)), .val (.ref r34x), .val .null, .val (.int (Nat.toInt32 mq)), .val (.int (Nat.toInt32 i)), .val (.int (((key.toUInt64 >>> ((32 : Int32) &&& 0x3f).toInt64.toUInt64).toInt64).toInt32)), .val (.int (Nat.toInt32 jf)), s10] [(.int (Nat.toInt32 mq)), (.int (Nat.toInt32 ft)), (.ref AA2)])) _
          refine XS.iadd X100.here hx rfl (hb hby d6_247) rfl ?_
          show Steps p.tables e below (T100.setTop (mkF m 248 #[.val (.ref a), .val (.int (Nat.toInt32 ft)), .val (.int (Nat.toInt32 (ft + c))), .val (.int (Nat.toInt32 c)), .val (.ref r34x), .val .null, .val (.int (Nat.toInt32 mq)), .val (.int (Nat.toInt32 i)), .val (.int (((key.toUInt64 >>> ((32 : Int32) &&& 0x3f).toInt64.toUInt64).toInt64).toInt32)), .val (.int (Nat.toInt32 jf)), s10] [(.int ((Nat.toInt32 ft) + (Nat.toInt32 mq))), (.ref AA2)])) _
          exact kt)
        have cn102 : ∀ t, Steps p.tables e below (T100.setTop (mkF m 248 #[.val (.ref a), .val (.int (Nat.toInt32 ft)), .val (.int (Nat.toInt32 (ft + c))), .val (.int (Nat.toInt32 c)), .val (.ref r34x), .val .null, .val (.int (Nat.toInt32 mq)), .val (.int (Nat.toInt32 i)), .val (.int (((key.toUInt64 >>> ((32 : Int32) &&& 0x3f).toInt64.toUInt64).toInt64).toInt32)), .val (.int (Nat.toInt32 jf)), s10] [(.int (Nat.toInt32 (ft + mq))), (.ref AA2)])) t → Steps p.tables e below (s₁.setTop (entryFrame m #[(.ref a), (.int (Nat.toInt32 ft)), (.int (Nat.toInt32 (ft + c)))] 11)) t := by have q := cn101; rw [(id (own_add (by omega)) : ((Nat.toInt32 ft) + (Nat.toInt32 mq)) = (Nat.toInt32 (ft + mq)))] at q; exact q
        have cn103 := fun (t : State) (kt : Steps p.tables e below (T100.setTop (mkF m 250 #[.val (.ref a), .val (.int (Nat.toInt32 ft)), .val (.int (Nat.toInt32 (ft + c))), .val (.int (Nat.toInt32 c)), .val (.ref r34x), .val .null, .val (.int (Nat.toInt32 mq)), .val (.int (Nat.toInt32 i)), .val (.int (((key.toUInt64 >>> ((32 : Int32) &&& 0x3f).toInt64.toUInt64).toInt64).toInt32)), .val (.int (Nat.toInt32 jf)), s10] [(.int (((key.toUInt64 >>> ((32 : Int32) &&& 0x3f).toInt64.toUInt64).toInt64).toInt32)), (.int (Nat.toInt32 (ft + mq))), (.ref AA2)])) t) => cn102 t (by
          refine XS.iload X100.here hx rfl (hb hby d6_248) rfl ?_
          show Steps p.tables e below (T100.setTop (mkF m 250 #[.val (.ref a), .val (.int (Nat.toInt32 ft)), .val (.int (Nat.toInt32 (ft + c))), .val (.int (Nat.toInt32 c)), .val (.ref r34x), .val .null, .val (.int (Nat.toInt32 mq)), .val (.int (Nat.toInt32 i)), .val (.int (((key.toUInt64 >>> ((32 : Int32) &&& 0x3f).toInt64.toUInt64).toInt64).toInt32)), .val (.int (Nat.toInt32 jf)), s10] [(.int (((key.toUInt64 >>> ((32 : Int32) &&& 0x3f).toInt64.toUInt64).toInt64).toInt32)), (.int (Nat.toInt32 (ft + mq))), (.ref AA2)])) _
          exact kt)
        have AFx104 := Ag2
        obtain ⟨cl104, Ar104, q104, S104, H104⟩ := AFx104
        have hin104 : ¬ ((Nat.toInt32 (ft + mq)) < 0 ∨ cl104.slots.size ≤ ((Nat.toInt32 (ft + mq))).toNatClampNeg) := AF.inb S104 (own_ix (by omega)) (by omega)
        obtain ⟨T105, h105, X105, e105, W105, st105⟩ := stI X100 hx hZ e100 Ar104 (j := (Nat.toInt32 (ft + mq))) hin104 (g := (mkF m 250 #[.val (.ref a), .val (.int (Nat.toInt32 ft)), .val (.int (Nat.toInt32 (ft + c))), .val (.int (Nat.toInt32 c)), .val (.ref r34x), .val .null, .val (.int (Nat.toInt32 mq)), .val (.int (Nat.toInt32 i)), .val (.int (((key.toUInt64 >>> ((32 : Int32) &&& 0x3f).toInt64.toUInt64).toInt64).toInt32)), .val (.int (Nat.toInt32 jf)), s10] [(.int (((key.toUInt64 >>> ((32 : Int32) &&& 0x3f).toInt64.toUInt64).toInt64).toInt32)), (.int (Nat.toInt32 (ft + mq))), (.ref AA2)])) rfl rfl (hb hby d6_250)
        have E_a_e105 := E_a.wr W105
        have FfirstTransitions_e105 := FfirstTransitions.other W105 (Or.inl ne_a_AA2)
        have FrowCount_e105 := FrowCount.other W105 (Or.inl ne_a_AA2)
        have Fsuccessors_e105 := Fsuccessors.other W105 (Or.inl ne_a_AA2)
        have Fprobabilities_e105 := Fprobabilities.other W105 (Or.inl ne_a_AA2)
        have FexactProbabilities_e105 := FexactProbabilities.other W105 (Or.inl ne_a_AA2)
        have FtransitionCount_e105 := FtransitionCount.other W105 (Or.inl ne_a_AA2)
        have FsortKeys_e105 := FsortKeys.other W105 (Or.inl ne_a_AA2)
        have AF1_e105 := AF1.other W105 ne_AA1_AA2
        have Ag3_e105 := Ag3.other W105 (Ne.symm ne_AA2_AA3)
        have Ag4_e105 := Ag4.other W105 (Ne.symm ne_AA2_AA4)
        have Afr_e105 := Afr.other W105 (Ne.symm ne_AA2_r34x)
        have AF105 : AF Z h105 AA2 kA2 .int 16 (own_upd g2 (ft + mq) (.int (((key.toUInt64 >>> ((32 : Int32) &&& 0x3f).toInt64.toUInt64).toInt64).toInt32))) := AF.set Ar104 q104 S104 H104 W105 (own_ix (by omega)) (by omega)
        have N105 := Fr.snoc X105 NJ39 g_AA2
        have O105 := OJ39.wr W105 g_AA2
        have K105 : Keep h0 h105 [AA2, AA3, AA4] := KJ39.wr W105 (Or.inl (List.mem_of_getElem? (i := 0) rfl))
        have cn106 := fun (t : State) (kt : Steps p.tables e below (T105.setTop (mkF m 252 #[.val (.ref a), .val (.int (Nat.toInt32 ft)), .val (.int (Nat.toInt32 (ft + c))), .val (.int (Nat.toInt32 c)), .val (.ref r34x), .val .null, .val (.int (Nat.toInt32 mq)), .val (.int (Nat.toInt32 i)), .val (.int (((key.toUInt64 >>> ((32 : Int32) &&& 0x3f).toInt64.toUInt64).toInt64).toInt32)), .val (.int (Nat.toInt32 jf)), s10] [(.ref a)])) t) => cn103 t (by
          refine st105 _ ?_
          show Steps p.tables e below (T105.setTop (mkF m 251 #[.val (.ref a), .val (.int (Nat.toInt32 ft)), .val (.int (Nat.toInt32 (ft + c))), .val (.int (Nat.toInt32 c)), .val (.ref r34x), .val .null, .val (.int (Nat.toInt32 mq)), .val (.int (Nat.toInt32 i)), .val (.int (((key.toUInt64 >>> ((32 : Int32) &&& 0x3f).toInt64.toUInt64).toInt64).toInt32)), .val (.int (Nat.toInt32 jf)), s10] [])) _
          refine XS.aloadN X105.here hx rfl (hb hby d6_251) rfl rfl ?_
          show Steps p.tables e below (T105.setTop (mkF m 252 #[.val (.ref a), .val (.int (Nat.toInt32 ft)), .val (.int (Nat.toInt32 (ft + c))), .val (.int (Nat.toInt32 c)), .val (.ref r34x), .val .null, .val (.int (Nat.toInt32 mq)), .val (.int (Nat.toInt32 i)), .val (.int (((key.toUInt64 >>> ((32 : Int32) &&& 0x3f).toInt64.toUInt64).toInt64).toInt32)), .val (.int (Nat.toInt32 jf)), s10] [(.ref a)])) _
          exact kt)
        obtain ⟨T107, X107, e107, st107⟩ := getF X105 hx hZ hown (host := "") (Or.inl (hw _ (List.mem_of_getElem? (i := 15) rfl))) Via.refl e105 Fprobabilities_e105 (g := (mkF m 252 #[.val (.ref a), .val (.int (Nat.toInt32 ft)), .val (.int (Nat.toInt32 (ft + c))), .val (.int (Nat.toInt32 c)), .val (.ref r34x), .val .null, .val (.int (Nat.toInt32 mq)), .val (.int (Nat.toInt32 i)), .val (.int (((key.toUInt64 >>> ((32 : Int32) &&& 0x3f).toInt64.toUInt64).toInt64).toInt32)), .val (.int (Nat.toInt32 jf)), s10] [(.ref a)])) rfl rfl (hb hby d6_252)
        have cn108 := fun (t : State) (kt : Steps p.tables e below (T107.setTop (mkF m 259 #[.val (.ref a), .val (.int (Nat.toInt32 ft)), .val (.int (Nat.toInt32 (ft + c))), .val (.int (Nat.toInt32 c)), .val (.ref r34x), .val .null, .val (.int (Nat.toInt32 mq)), .val (.int (Nat.toInt32 i)), .val (.int (((key.toUInt64 >>> ((32 : Int32) &&& 0x3f).toInt64.toUInt64).toInt64).toInt32)), .val (.int (Nat.toInt32 jf)), s10] [(.int ((Nat.toInt32 ft) + (Nat.toInt32 mq))), (.ref AA3)])) t) => cn106 t (by
          refine st107 _ ?_
          show Steps p.tables e below (T107.setTop (mkF m 255 #[.val (.ref a), .val (.int (Nat.toInt32 ft)), .val (.int (Nat.toInt32 (ft + c))), .val (.int (Nat.toInt32 c)), .val (.ref r34x), .val .null, .val (.int (Nat.toInt32 mq)), .val (.int (Nat.toInt32 i)), .val (.int (((key.toUInt64 >>> ((32 : Int32) &&& 0x3f).toInt64.toUInt64).toInt64).toInt32)), .val (.int (Nat.toInt32 jf)), s10] [(.ref AA3)])) _
          refine XS.iloadN X107.here hx rfl (hb hby d6_255) rfl ?_
          show Steps p.tables e below (T107.setTop (mkF m 256 #[.val (.ref a), .val (.int (Nat.toInt32 ft)), .val (.int (Nat.toInt32 (ft + c))), .val (.int (Nat.toInt32 c)), .val (.ref r34x), .val .null, .val (.int (Nat.toInt32 mq)), .val (.int (Nat.toInt32 i)), .val (.int (((key.toUInt64 >>> ((32 : Int32) &&& 0x3f).toInt64.toUInt64).toInt64).toInt32)), .val (.int (Nat.toInt32 jf)), s10] [(.int (Nat.toInt32 ft)), (.ref AA3)])) _
          refine XS.iload X107.here hx rfl (hb hby d6_256) rfl ?_
          show Steps p.tables e below (T107.setTop (mkF m 258 #[.val (.ref a), .val (.int (Nat.toInt32 ft)), .val (.int (Nat.toInt32 (ft + c))), .val (.int (Nat.toInt32 c)), .val (.ref r34x), .val .null, .val (.int (Nat.toInt32 mq)), .val (.int (Nat.toInt32 i)), .val (.int (((key.toUInt64 >>> ((32 : Int32) &&& 0x3f).toInt64.toUInt64).toInt64).toInt32)), .val (.int (Nat.toInt32 jf)), s10] [(.int (Nat.toInt32 mq)), (.int (Nat.toInt32 ft)), (.ref AA3)])) _
          refine XS.iadd X107.here hx rfl (hb hby d6_258) rfl ?_
          show Steps p.tables e below (T107.setTop (mkF m 259 #[.val (.ref a), .val (.int (Nat.toInt32 ft)), .val (.int (Nat.toInt32 (ft + c))), .val (.int (Nat.toInt32 c)), .val (.ref r34x), .val .null, .val (.int (Nat.toInt32 mq)), .val (.int (Nat.toInt32 i)), .val (.int (((key.toUInt64 >>> ((32 : Int32) &&& 0x3f).toInt64.toUInt64).toInt64).toInt32)), .val (.int (Nat.toInt32 jf)), s10] [(.int ((Nat.toInt32 ft) + (Nat.toInt32 mq))), (.ref AA3)])) _
          exact kt)
        have cn109 : ∀ t, Steps p.tables e below (T107.setTop (mkF m 259 #[.val (.ref a), .val (.int (Nat.toInt32 ft)), .val (.int (Nat.toInt32 (ft + c))), .val (.int (Nat.toInt32 c)), .val (.ref r34x), .val .null, .val (.int (Nat.toInt32 mq)), .val (.int (Nat.toInt32 i)), .val (.int (((key.toUInt64 >>> ((32 : Int32) &&& 0x3f).toInt64.toUInt64).toInt64).toInt32)), .val (.int (Nat.toInt32 jf)), s10] [(.int (Nat.toInt32 (ft + mq))), (.ref AA3)])) t → Steps p.tables e below (s₁.setTop (entryFrame m #[(.ref a), (.int (Nat.toInt32 ft)), (.int (Nat.toInt32 (ft + c)))] 11)) t := by have q := cn108; rw [(id (own_add (by omega)) : ((Nat.toInt32 ft) + (Nat.toInt32 mq)) = (Nat.toInt32 (ft + mq)))] at q; exact q
        have cn110 := fun (t : State) (kt : Steps p.tables e below (T107.setTop (mkF m 263 #[.val (.ref a), .val (.int (Nat.toInt32 ft)), .val (.int (Nat.toInt32 (ft + c))), .val (.int (Nat.toInt32 c)), .val (.ref r34x), .val .null, .val (.int (Nat.toInt32 mq)), .val (.int (Nat.toInt32 i)), .val (.int (((key.toUInt64 >>> ((32 : Int32) &&& 0x3f).toInt64.toUInt64).toInt64).toInt32)), .val (.int (Nat.toInt32 jf)), s10] [(.int (Nat.toInt32 jf)), (.ref r34x), (.int (Nat.toInt32 (ft + mq))), (.ref AA3)])) t) => cn109 t (by
          refine XS.aload X107.here hx rfl (hb hby d6_259) rfl rfl ?_
          show Steps p.tables e below (T107.setTop (mkF m 261 #[.val (.ref a), .val (.int (Nat.toInt32 ft)), .val (.int (Nat.toInt32 (ft + c))), .val (.int (Nat.toInt32 c)), .val (.ref r34x), .val .null, .val (.int (Nat.toInt32 mq)), .val (.int (Nat.toInt32 i)), .val (.int (((key.toUInt64 >>> ((32 : Int32) &&& 0x3f).toInt64.toUInt64).toInt64).toInt32)), .val (.int (Nat.toInt32 jf)), s10] [(.ref r34x), (.int (Nat.toInt32 (ft + mq))), (.ref AA3)])) _
          refine XS.iload X107.here hx rfl (hb hby d6_261) rfl ?_
          show Steps p.tables e below (T107.setTop (mkF m 263 #[.val (.ref a), .val (.int (Nat.toInt32 ft)), .val (.int (Nat.toInt32 (ft + c))), .val (.int (Nat.toInt32 c)), .val (.ref r34x), .val .null, .val (.int (Nat.toInt32 mq)), .val (.int (Nat.toInt32 i)), .val (.int (((key.toUInt64 >>> ((32 : Int32) &&& 0x3f).toInt64.toUInt64).toInt64).toInt32)), .val (.int (Nat.toInt32 jf)), s10] [(.int (Nat.toInt32 jf)), (.ref r34x), (.int (Nat.toInt32 (ft + mq))), (.ref AA3)])) _
          exact kt)
        have AFx111 := Afr_e105
        obtain ⟨cl111, Ar111, q111, S111, H111⟩ := AFx111
        have hin111 : ¬ ((Nat.toInt32 jf) < 0 ∨ cl111.slots.size ≤ ((Nat.toInt32 jf)).toNatClampNeg) := AF.inb S111 (own_ix (by omega)) hjf
        have hat111 : cl111.slots[((Nat.toInt32 jf)).toNatClampNeg]? = some (.double (FP.l2d vu)) := AF.at H111 (own_ix (by omega)) hjf hvu
        have cn112 := fun (t : State) (kt : Steps p.tables e below (T107.setTop (mkF m 264 #[.val (.ref a), .val (.int (Nat.toInt32 ft)), .val (.int (Nat.toInt32 (ft + c))), .val (.int (Nat.toInt32 c)), .val (.ref r34x), .val .null, .val (.int (Nat.toInt32 mq)), .val (.int (Nat.toInt32 i)), .val (.int (((key.toUInt64 >>> ((32 : Int32) &&& 0x3f).toInt64.toUInt64).toInt64).toInt32)), .val (.int (Nat.toInt32 jf)), s10] [(.double (FP.l2d vu)), (.int (Nat.toInt32 (ft + mq))), (.ref AA3)])) t) => cn110 t (by
          refine X107.daload hx (j := (Nat.toInt32 jf)) (v := (.double (FP.l2d vu))) (by rw [e107]; exact Ar111.1) (State.isArrayOf_alike hZ.alike Ar111.2.1) Ar111.2.2 hin111 hat111 (g := (mkF m 263 #[.val (.ref a), .val (.int (Nat.toInt32 ft)), .val (.int (Nat.toInt32 (ft + c))), .val (.int (Nat.toInt32 c)), .val (.ref r34x), .val .null, .val (.int (Nat.toInt32 mq)), .val (.int (Nat.toInt32 i)), .val (.int (((key.toUInt64 >>> ((32 : Int32) &&& 0x3f).toInt64.toUInt64).toInt64).toInt32)), .val (.int (Nat.toInt32 jf)), s10] [(.int (Nat.toInt32 jf)), (.ref r34x), (.int (Nat.toInt32 (ft + mq))), (.ref AA3)])) rfl rfl (hb hby d6_263) _ ?_
          show Steps p.tables e below (T107.setTop (mkF m 264 #[.val (.ref a), .val (.int (Nat.toInt32 ft)), .val (.int (Nat.toInt32 (ft + c))), .val (.int (Nat.toInt32 c)), .val (.ref r34x), .val .null, .val (.int (Nat.toInt32 mq)), .val (.int (Nat.toInt32 i)), .val (.int (((key.toUInt64 >>> ((32 : Int32) &&& 0x3f).toInt64.toUInt64).toInt64).toInt32)), .val (.int (Nat.toInt32 jf)), s10] [(.double (FP.l2d vu)), (.int (Nat.toInt32 (ft + mq))), (.ref AA3)])) _
          exact kt)
        have AFx113 := Ag3_e105
        obtain ⟨cl113, Ar113, q113, S113, H113⟩ := AFx113
        have hin113 : ¬ ((Nat.toInt32 (ft + mq)) < 0 ∨ cl113.slots.size ≤ ((Nat.toInt32 (ft + mq))).toNatClampNeg) := AF.inb S113 (own_ix (by omega)) (by omega)
        obtain ⟨T114, h114, X114, e114, W114, st114⟩ := stD X107 hx hZ e107 Ar113 (j := (Nat.toInt32 (ft + mq))) hin113 (g := (mkF m 264 #[.val (.ref a), .val (.int (Nat.toInt32 ft)), .val (.int (Nat.toInt32 (ft + c))), .val (.int (Nat.toInt32 c)), .val (.ref r34x), .val .null, .val (.int (Nat.toInt32 mq)), .val (.int (Nat.toInt32 i)), .val (.int (((key.toUInt64 >>> ((32 : Int32) &&& 0x3f).toInt64.toUInt64).toInt64).toInt32)), .val (.int (Nat.toInt32 jf)), s10] [(.double (FP.l2d vu)), (.int (Nat.toInt32 (ft + mq))), (.ref AA3)])) rfl rfl (hb hby d6_264)
        have E_a_e114 := E_a_e105.wr W114
        have FfirstTransitions_e114 := FfirstTransitions_e105.other W114 (Or.inl ne_a_AA3)
        have FrowCount_e114 := FrowCount_e105.other W114 (Or.inl ne_a_AA3)
        have Fsuccessors_e114 := Fsuccessors_e105.other W114 (Or.inl ne_a_AA3)
        have Fprobabilities_e114 := Fprobabilities_e105.other W114 (Or.inl ne_a_AA3)
        have FexactProbabilities_e114 := FexactProbabilities_e105.other W114 (Or.inl ne_a_AA3)
        have FtransitionCount_e114 := FtransitionCount_e105.other W114 (Or.inl ne_a_AA3)
        have FsortKeys_e114 := FsortKeys_e105.other W114 (Or.inl ne_a_AA3)
        have AF1_e114 := AF1_e105.other W114 ne_AA1_AA3
        have AF105_e114 := AF105.other W114 ne_AA2_AA3
        have Ag4_e114 := Ag4_e105.other W114 (Ne.symm ne_AA3_AA4)
        have Afr_e114 := Afr_e105.other W114 (Ne.symm ne_AA3_r34x)
        have AF114 : AF Z h114 AA3 kA3 .double 16 (own_upd g3 (ft + mq) (.double (FP.l2d vu))) := AF.set Ar113 q113 S113 H113 W114 (own_ix (by omega)) (by omega)
        have N114 := Fr.snoc X114 N105 g_AA3
        have O114 := O105.wr W114 g_AA3
        have K114 : Keep h0 h114 [AA2, AA3, AA4] := K105.wr W114 (Or.inl (List.mem_of_getElem? (i := 1) rfl))
        have cn115 := fun (t : State) (kt : Steps p.tables e below (T114.setTop (mkF m 287 #[.val (.ref a), .val (.int (Nat.toInt32 ft)), .val (.int (Nat.toInt32 (ft + c))), .val (.int (Nat.toInt32 c)), .val (.ref r34x), .val .null, .val (.int ((Nat.toInt32 mq) + (1 : Int32))), .val (.int (Nat.toInt32 i)), .val (.int (((key.toUInt64 >>> ((32 : Int32) &&& 0x3f).toInt64.toUInt64).toInt64).toInt32)), .val (.int (Nat.toInt32 jf)), s10] [])) t) => cn112 t (by
          refine st114 _ ?_
          show Steps p.tables e below (T114.setTop (mkF m 265 #[.val (.ref a), .val (.int (Nat.toInt32 ft)), .val (.int (Nat.toInt32 (ft + c))), .val (.int (Nat.toInt32 c)), .val (.ref r34x), .val .null, .val (.int (Nat.toInt32 mq)), .val (.int (Nat.toInt32 i)), .val (.int (((key.toUInt64 >>> ((32 : Int32) &&& 0x3f).toInt64.toUInt64).toInt64).toInt32)), .val (.int (Nat.toInt32 jf)), s10] [])) _
          refine XS.aload X114.here hx rfl (hb hby d6_265) rfl rfl ?_
          show Steps p.tables e below (T114.setTop (mkF m 267 #[.val (.ref a), .val (.int (Nat.toInt32 ft)), .val (.int (Nat.toInt32 (ft + c))), .val (.int (Nat.toInt32 c)), .val (.ref r34x), .val .null, .val (.int (Nat.toInt32 mq)), .val (.int (Nat.toInt32 i)), .val (.int (((key.toUInt64 >>> ((32 : Int32) &&& 0x3f).toInt64.toUInt64).toInt64).toInt32)), .val (.int (Nat.toInt32 jf)), s10] [.null])) _
          refine XS.ifnullYes X114.here hx rfl (pc0 := 267) (pc' := 284) rfl (hb hby d6_267) rfl (by decide) (by decide) ?_
          show Steps p.tables e below (T114.setTop (mkF m 284 #[.val (.ref a), .val (.int (Nat.toInt32 ft)), .val (.int (Nat.toInt32 (ft + c))), .val (.int (Nat.toInt32 c)), .val (.ref r34x), .val .null, .val (.int (Nat.toInt32 mq)), .val (.int (Nat.toInt32 i)), .val (.int (((key.toUInt64 >>> ((32 : Int32) &&& 0x3f).toInt64.toUInt64).toInt64).toInt32)), .val (.int (Nat.toInt32 jf)), s10] [])) _
          refine XS.iinc X114.here hx rfl (hb hby d6_284) rfl (l' := #[.val (.ref a), .val (.int (Nat.toInt32 ft)), .val (.int (Nat.toInt32 (ft + c))), .val (.int (Nat.toInt32 c)), .val (.ref r34x), .val .null, .val (.int ((Nat.toInt32 mq) + (1 : Int32))), .val (.int (Nat.toInt32 i)), .val (.int (((key.toUInt64 >>> ((32 : Int32) &&& 0x3f).toInt64.toUInt64).toInt64).toInt32)), .val (.int (Nat.toInt32 jf)), s10]) rfl ?_
          show Steps p.tables e below (T114.setTop (mkF m 287 #[.val (.ref a), .val (.int (Nat.toInt32 ft)), .val (.int (Nat.toInt32 (ft + c))), .val (.int (Nat.toInt32 c)), .val (.ref r34x), .val .null, .val (.int ((Nat.toInt32 mq) + (1 : Int32))), .val (.int (Nat.toInt32 i)), .val (.int (((key.toUInt64 >>> ((32 : Int32) &&& 0x3f).toInt64.toUInt64).toInt64).toInt32)), .val (.int (Nat.toInt32 jf)), s10] [])) _
          exact kt)
        have cn116 : ∀ t, Steps p.tables e below (T114.setTop (mkF m 287 #[.val (.ref a), .val (.int (Nat.toInt32 ft)), .val (.int (Nat.toInt32 (ft + c))), .val (.int (Nat.toInt32 c)), .val (.ref r34x), .val .null, .val (.int (Nat.toInt32 (mq + 1))), .val (.int (Nat.toInt32 i)), .val (.int (((key.toUInt64 >>> ((32 : Int32) &&& 0x3f).toInt64.toUInt64).toInt64).toInt32)), .val (.int (Nat.toInt32 jf)), s10] [])) t → Steps p.tables e below (s₁.setTop (entryFrame m #[(.ref a), (.int (Nat.toInt32 ft)), (.int (Nat.toInt32 (ft + c)))] 11)) t := by have q := cn115; rw [(id (own_inc (by omega)) : ((Nat.toInt32 mq) + (1 : Int32)) = (Nat.toInt32 (mq + 1)))] at q; exact q
        have cn117 := fun (t : State) (kt : Steps p.tables e below (T114.setTop (mkF m 290 #[.val (.ref a), .val (.int (Nat.toInt32 ft)), .val (.int (Nat.toInt32 (ft + c))), .val (.int (Nat.toInt32 c)), .val (.ref r34x), .val .null, .val (.int (Nat.toInt32 (mq + 1))), .val (.int ((Nat.toInt32 i) + (1 : Int32))), .val (.int (((key.toUInt64 >>> ((32 : Int32) &&& 0x3f).toInt64.toUInt64).toInt64).toInt32)), .val (.int (Nat.toInt32 jf)), s10] [])) t) => cn116 t (by
          refine XS.iinc X114.here hx rfl (hb hby d6_287) rfl (l' := #[.val (.ref a), .val (.int (Nat.toInt32 ft)), .val (.int (Nat.toInt32 (ft + c))), .val (.int (Nat.toInt32 c)), .val (.ref r34x), .val .null, .val (.int (Nat.toInt32 (mq + 1))), .val (.int ((Nat.toInt32 i) + (1 : Int32))), .val (.int (((key.toUInt64 >>> ((32 : Int32) &&& 0x3f).toInt64.toUInt64).toInt64).toInt32)), .val (.int (Nat.toInt32 jf)), s10]) rfl ?_
          show Steps p.tables e below (T114.setTop (mkF m 290 #[.val (.ref a), .val (.int (Nat.toInt32 ft)), .val (.int (Nat.toInt32 (ft + c))), .val (.int (Nat.toInt32 c)), .val (.ref r34x), .val .null, .val (.int (Nat.toInt32 (mq + 1))), .val (.int ((Nat.toInt32 i) + (1 : Int32))), .val (.int (((key.toUInt64 >>> ((32 : Int32) &&& 0x3f).toInt64.toUInt64).toInt64).toInt32)), .val (.int (Nat.toInt32 jf)), s10] [])) _
          exact kt)
        have cn118 : ∀ t, Steps p.tables e below (T114.setTop (mkF m 290 #[.val (.ref a), .val (.int (Nat.toInt32 ft)), .val (.int (Nat.toInt32 (ft + c))), .val (.int (Nat.toInt32 c)), .val (.ref r34x), .val .null, .val (.int (Nat.toInt32 (mq + 1))), .val (.int (Nat.toInt32 (i + 1))), .val (.int (((key.toUInt64 >>> ((32 : Int32) &&& 0x3f).toInt64.toUInt64).toInt64).toInt32)), .val (.int (Nat.toInt32 jf)), s10] [])) t → Steps p.tables e below (s₁.setTop (entryFrame m #[(.ref a), (.int (Nat.toInt32 ft)), (.int (Nat.toInt32 (ft + c)))] 11)) t := by have q := cn117; rw [(id (own_inc (by omega)) : ((Nat.toInt32 i) + (1 : Int32)) = (Nat.toInt32 (i + 1)))] at q; exact q
        have cn119 := fun (t : State) (kt : Steps p.tables e below (T114.setTop (mkF m 120 #[.val (.ref a), .val (.int (Nat.toInt32 ft)), .val (.int (Nat.toInt32 (ft + c))), .val (.int (Nat.toInt32 c)), .val (.ref r34x), .val .null, .val (.int (Nat.toInt32 (mq + 1))), .val (.int (Nat.toInt32 (i + 1))), .val (.int (((key.toUInt64 >>> ((32 : Int32) &&& 0x3f).toInt64.toUInt64).toInt64).toInt32)), .val (.int (Nat.toInt32 jf)), s10] [])) t) => cn118 t (by
          refine XS.goto X114.here hx rfl (pc0 := 290) (pc' := 120) rfl (hb hby d6_290) (by decide) (by decide) ?_
          show Steps p.tables e below (T114.setTop (mkF m 120 #[.val (.ref a), .val (.int (Nat.toInt32 ft)), .val (.int (Nat.toInt32 (ft + c))), .val (.int (Nat.toInt32 c)), .val (.ref r34x), .val .null, .val (.int (Nat.toInt32 (mq + 1))), .val (.int (Nat.toInt32 (i + 1))), .val (.int (((key.toUInt64 >>> ((32 : Int32) &&& 0x3f).toInt64.toUInt64).toInt64).toInt32)), .val (.int (Nat.toInt32 jf)), s10] [])) _
          exact kt)
        exact IH38 ⟨T114, h114, _, i + 1, (mq + 1), (own_upd g2 (ft + mq) (.int (((key.toUInt64 >>> ((32 : Int32) &&& 0x3f).toInt64.toUInt64).toInt64).toInt32))), (own_upd g3 (ft + mq) (.double (FP.l2d vu))), _, _, _, own_up X114 (by decide) (by decide), e114, N114, O114, K114, (by omega), (by omega), (One.val rfl), (One.val rfl), ho10, E_a_e114, FfirstTransitions_e114, FrowCount_e114, Fsuccessors_e114, Fprobabilities_e114, FexactProbabilities_e114, FtransitionCount_e114, FsortKeys_e114, AF1_e114, AF105_e114, AF114, Ag4_e114, Afr_e114, (H2g.upd (ft + mq) _), ((H3g.mono (by omega)).upd (ft + mq) hvu0 (by omega)), cn119⟩
    · rintro ⟨TJ120, hJ120, lJ120, i, mq, g2, g3, s8, s9, s10, XJ120, eJ120, NJ120, OJ120, KJ120, hik, hmi, ho8, ho9, ho10, E_a, FfirstTransitions, FrowCount, Fsuccessors, Fprobabilities, FexactProbabilities, FtransitionCount, FsortKeys, AF1, Ag2, Ag3, Ag4, Afr, H2g, H3g, kJ_120⟩
      obtain rfl : c = i := by omega
      have cn121 := fun (t : State) (kt : Steps p.tables e below (TJ120.setTop (mkF m 123 #[.val (.ref a), .val (.int (Nat.toInt32 ft)), .val (.int (Nat.toInt32 (ft + c))), .val (.int (Nat.toInt32 c)), .val (.ref r34x), .val .null, .val (.int (Nat.toInt32 mq)), .val (.int (Nat.toInt32 c)), s8, s9, s10] [(.int (Nat.toInt32 c)), (.int (Nat.toInt32 c))])) t) => kJ_120 t (by
        refine XS.iload XJ120.here hx rfl (hb hby d6_120) rfl ?_
        show Steps p.tables e below (TJ120.setTop (mkF m 122 #[.val (.ref a), .val (.int (Nat.toInt32 ft)), .val (.int (Nat.toInt32 (ft + c))), .val (.int (Nat.toInt32 c)), .val (.ref r34x), .val .null, .val (.int (Nat.toInt32 mq)), .val (.int (Nat.toInt32 c)), s8, s9, s10] [(.int (Nat.toInt32 c))])) _
        refine XS.iloadN XJ120.here hx rfl (hb hby d6_122) rfl ?_
        show Steps p.tables e below (TJ120.setTop (mkF m 123 #[.val (.ref a), .val (.int (Nat.toInt32 ft)), .val (.int (Nat.toInt32 (ft + c))), .val (.int (Nat.toInt32 c)), .val (.ref r34x), .val .null, .val (.int (Nat.toInt32 mq)), .val (.int (Nat.toInt32 c)), s8, s9, s10] [(.int (Nat.toInt32 c)), (.int (Nat.toInt32 c))])) _
        exact kt)
      have cn122 := fun (t : State) (kt : Steps p.tables e below (TJ120.setTop (mkF m 295 #[.val (.ref a), .val (.int (Nat.toInt32 ft)), .val (.int (Nat.toInt32 (ft + c))), .val (.int (Nat.toInt32 c)), .val (.ref r34x), .val .null, .val (.int (Nat.toInt32 mq)), .val (.int (Nat.toInt32 c)), s8, s9, s10] [(.int (Nat.toInt32 mq))])) t) => cn121 t (by
        refine XS.icmpYes XJ120.here hx rfl (pc0 := 123) (pc' := 293) rfl (hb hby d6_123) rfl (flt (fun q => Nat.lt_irrefl _ ((own_lt (by omega) (by omega)).mp q))).2.1 (by decide) (by decide) ?_
        show Steps p.tables e below (TJ120.setTop (mkF m 293 #[.val (.ref a), .val (.int (Nat.toInt32 ft)), .val (.int (Nat.toInt32 (ft + c))), .val (.int (Nat.toInt32 c)), .val (.ref r34x), .val .null, .val (.int (Nat.toInt32 mq)), .val (.int (Nat.toInt32 c)), s8, s9, s10] [])) _
        refine XS.iload XJ120.here hx rfl (hb hby d6_293) rfl ?_
        show Steps p.tables e below (TJ120.setTop (mkF m 295 #[.val (.ref a), .val (.int (Nat.toInt32 ft)), .val (.int (Nat.toInt32 (ft + c))), .val (.int (Nat.toInt32 c)), .val (.ref r34x), .val .null, .val (.int (Nat.toInt32 mq)), .val (.int (Nat.toInt32 c)), s8, s9, s10] [(.int (Nat.toInt32 mq))])) _
        exact kt)
      obtain ⟨frs, hr, hrun, hended, hW, hsame⟩ := XJ120.leave (v := some (.int (Nat.toInt32 mq))) (fun h => by rw [Bd.returns] at h; cases h)
      refine ⟨_, _, cn122 _ ?_, hrun, hended, _, _, rfl, ?_, ⟨_, rfl⟩, hW, hsame.mono (by decide) (by decide)⟩
      · exact retI XJ120 hx Bd.returns (hb hby d6_295) hr
      · show QM Z AA2 AA3 AA4 kA2 kA3 kA4 c M h0 n0 _ TJ120.heap _
        rw [eJ120]
        exact ⟨mq, g2, g3, _, rfl, NJ120, KJ120, hmi, Ag2, H2g, Ag3, H3g, Ag4⟩
    · exact ⟨T36, T34.heap, _, 0, 0, f2, f3, _, _, _, own_up X36 (by decide) (by decide), e36, N34, O34, KK34, (Nat.zero_add _), (Nat.le_refl 0), One.u, One.u, One.u, E_a_e34, FfirstTransitions_e34, FrowCount_e34, Fsuccessors_e34, Fprobabilities_e34, FexactProbabilities_e34, FtransitionCount_e34, FsortKeys_e34, AF1_e34, AF2_e34, AF3_e34, Aq30_e34, Aq34, H2, (by rw [Nat.zero_add, Nat.mul_one]; exact HT), cn37⟩
  · exact ⟨T4, h0, _, 0, f4, own_up X4 (by decide) (by decide), e4, N0, O0, (Keep.refl h0 [AA2, AA3, AA4]), (Nat.zero_add _), E_a, FfirstTransitions, FrowCount, Fsuccessors, Fprobabilities, FexactProbabilities, FtransitionCount, FsortKeys, AF1, AF2, AF3, AF4, (fun j hj => absurd hj (Nat.not_lt_zero j)), cn8⟩

def QE (Z : State) (a AA1 AA2 AA3 AA4 : Addr) (kA1 kA2 kA3 kA4 : ClassId) (f1 : Nat → Value) (rc ft c M : Nat) (h0 : Heap) (n0 : Nat) (v : Option Value) (h : Heap) (L : List Loc) : Prop := ∃ (mq : Nat) (g2 g3 g4 : Nat → Value), v = none ∧ Fr n0 L ∧ Keep h0 h [a, AA1, AA2, AA3, AA4] ∧ mq ≤ c ∧ TR Z h a AA1 AA2 AA3 AA4 kA1 kA2 kA3 kA4 (own_upd f1 (rc + 1) (.int (Nat.toInt32 (ft + mq)))) g2 g3 g4 (rc + 1) (ft + mq) ∧ T2 g2 ∧ TP3 (M * (c + 1)) g3
theorem d5_0 : decode prog_142_method_7_code 0 = .ok (.aload_n 0, 1) := by decide +kernel
theorem d5_1 : decode prog_142_method_7_code 1 = .ok (.getfield 7, 3) := by decide +kernel
theorem d5_4 : decode prog_142_method_7_code 4 = .ok (.aload_n 0, 1) := by decide +kernel
theorem d5_5 : decode prog_142_method_7_code 5 = .ok (.getfield 99, 3) := by decide +kernel
theorem d5_8 : decode prog_142_method_7_code 8 = .ok (.iaload, 1) := by decide +kernel
theorem d5_9 : decode prog_142_method_7_code 9 = .ok (.istore_n 1, 1) := by decide +kernel
theorem d5_10 : decode prog_142_method_7_code 10 = .ok (.aload_n 0, 1) := by decide +kernel
theorem d5_11 : decode prog_142_method_7_code 11 = .ok (.iload_n 1, 1) := by decide +kernel
theorem d5_12 : decode prog_142_method_7_code 12 = .ok (.aload_n 0, 1) := by decide +kernel
theorem d5_13 : decode prog_142_method_7_code 13 = .ok (.iload_n 1, 1) := by decide +kernel
theorem d5_14 : decode prog_142_method_7_code 14 = .ok (.aload_n 0, 1) := by decide +kernel
theorem d5_15 : decode prog_142_method_7_code 15 = .ok (.getfield 61, 3) := by decide +kernel
theorem d5_18 : decode prog_142_method_7_code 18 = .ok (.invokevirtual 102, 3) := by decide +kernel
theorem d5_21 : decode prog_142_method_7_code 21 = .ok (.iadd, 1) := by decide +kernel
theorem d5_22 : decode prog_142_method_7_code 22 = .ok (.putfield 61, 3) := by decide +kernel
theorem d5_25 : decode prog_142_method_7_code 25 = .ok (.aload_n 0, 1) := by decide +kernel
theorem d5_26 : decode prog_142_method_7_code 26 = .ok (.dup, 1) := by decide +kernel
theorem d5_27 : decode prog_142_method_7_code 27 = .ok (.getfield 99, 3) := by decide +kernel
theorem d5_30 : decode prog_142_method_7_code 30 = .ok (.iconst 1, 1) := by decide +kernel
theorem d5_31 : decode prog_142_method_7_code 31 = .ok (.iadd, 1) := by decide +kernel
theorem d5_32 : decode prog_142_method_7_code 32 = .ok (.putfield 99, 3) := by decide +kernel
theorem d5_35 : decode prog_142_method_7_code 35 = .ok (.aload_n 0, 1) := by decide +kernel
theorem d5_36 : decode prog_142_method_7_code 36 = .ok (.getfield 99, 3) := by decide +kernel
theorem d5_39 : decode prog_142_method_7_code 39 = .ok (.iconst 1, 1) := by decide +kernel
theorem d5_40 : decode prog_142_method_7_code 40 = .ok (.iadd, 1) := by decide +kernel
theorem d5_41 : decode prog_142_method_7_code 41 = .ok (.aload_n 0, 1) := by decide +kernel
theorem d5_42 : decode prog_142_method_7_code 42 = .ok (.getfield 7, 3) := by decide +kernel
theorem d5_45 : decode prog_142_method_7_code 45 = .ok (.arraylength, 1) := by decide +kernel
theorem d5_46 : decode prog_142_method_7_code 46 = .ok (.if_icmp .le 21, 3) := by decide +kernel
theorem d5_67 : decode prog_142_method_7_code 67 = .ok (.aload_n 0, 1) := by decide +kernel
theorem d5_68 : decode prog_142_method_7_code 68 = .ok (.getfield 7, 3) := by decide +kernel
theorem d5_71 : decode prog_142_method_7_code 71 = .ok (.aload_n 0, 1) := by decide +kernel
theorem d5_72 : decode prog_142_method_7_code 72 = .ok (.getfield 99, 3) := by decide +kernel
theorem d5_75 : decode prog_142_method_7_code 75 = .ok (.aload_n 0, 1) := by decide +kernel
theorem d5_76 : decode prog_142_method_7_code 76 = .ok (.getfield 61, 3) := by decide +kernel
theorem d5_79 : decode prog_142_method_7_code 79 = .ok (.iastore, 1) := by decide +kernel
theorem d5_80 : decode prog_142_method_7_code 80 = .ok (.return_, 1) := by decide +kernel
theorem ef_5 (m : MethodId) (x0 : Addr) : entryFrame m #[(.ref x0)] 2 = mkF m 0 #[.val (.ref x0), .unset] [] := by first | (simp [entryFrame, mkF, argsToLocals, Value.category]; done) | rfl
set_option maxRecDepth 65536 in
set_option maxHeartbeats 40000000 in
theorem rm5 (l : Launch) (Z : State) (a0 : Array Value) (hw : ∀ d ∈ tables_1, d.before a0 Z = true) (ws : List Jvm.Cond) (a AA1 AA2 AA3 AA4 : Addr) (kA1 kA2 kA3 kA4 : ClassId) (f1 f2 f3 f4 : Nat → Value) (rc : Nat) (ft c M : Nat) (h0 : Heap) (n0 : Nat) (O0 : Old Z n0 h0) (TNh : TN n0 a AA1 AA2 AA3 AA4) (B : TR Z h0 a AA1 AA2 AA3 AA4 kA1 kA2 kA3 kA4 f1 f2 f3 f4 rc (ft + c)) (hrc : rc ≤ 4) (hft : f1 rc = .int (Nat.toInt32 ft)) (hc : c ≤ 4) (hfc : ft + c ≤ 15) (H2 : T2 f2) (HT : TP3 M f3) (hM : M * 5 < 4503599627370496) :
    MetFree l (⟨"com/example/probver/probver/model/TransitionRows", "endRow", "()V"⟩ : MethodName) (head1 (Jvm.Cond.code (⟨"com/example/probver/probver/model/TransitionRows", "endRow", "()V"⟩ : MethodName) prog_142_method_7_code 2 none :: ws) ({ frames := 5, cells := 1, slots := 4, locals := 110 } : Room)) (fun aQ U => aQ = #[(.ref a)] ∧ Z.Warmed39 U.vm ∧ U.heap = h0) (fun _ _ _ _ _ => True) (fun _ U o U' => ∃ v L, o = .returned v ∧ QE Z a AA1 AA2 AA3 AA4 kA1 kA2 kA3 kA4 f1 rc ft c M h0 n0 v U'.heap L ∧ FrameEnd U o U' L ({ frames := 5, cells := 1, slots := 4, locals := 110 } : Room).cells ({ frames := 5, cells := 1, slots := 4, locals := 110 } : Room).slots) := by
  refine MetFree.of_bodySF (plainFor_of_name pn_com_example_probver_probver_model_TransitionRows) hisR ?_
  intro p e s m args below meth kode s₁ Bd hml0 hP hK
  obtain ⟨rfl, hZ, hh⟩ := hP
  have hx := Bd.exec
  have hby := Bd.bytes
  have hml : kode.maxLocals = 2 := hml0
  have hown : s.vm.findClass "com/example/probver/probver/model/TransitionRows" = some m.cls := findClass_of_methodNamed Bd.named
  have hnm := (name_of_methodNamed Bd.named Bd.method).1
  have X0 : Stand p l e ({ frames := 5, cells := 1, slots := 4, locals := 110 } : Room) s m #[(.ref a)] below meth kode s₁ [] 0 0 := Stand.of_body Bd
  have e0 : s₁.heap = h0 := by rw [← hh, Bd.state]; rfl
  have N0 := Fr.nil n0
  have pre0 : ∀ t, Steps p.tables e below (s₁.setTop (mkF m 0 #[.val (.ref a), .unset] [])) t → Steps p.tables e below (s₁.setTop (entryFrame m #[(.ref a)] 2)) t := fun t k => castTop (ef_5 m a) k
  have TNx := TNh
  obtain ⟨⟨g_a, g_AA1, g_AA2, g_AA3, g_AA4⟩, ne_a_AA1, ne_a_AA2, ne_a_AA3, ne_a_AA4, ne_AA1_AA2, ne_AA1_AA3, ne_AA1_AA4, ne_AA2_AA3, ne_AA2_AA4, ne_AA3_AA4⟩ := TNx
  obtain ⟨E_a, FfirstTransitions, FrowCount, Fsuccessors, Fprobabilities, FexactProbabilities, FtransitionCount, FsortKeys, AF1, AF2, AF3, AF4⟩ := B
  have cn1 := fun (t : State) (kt : Steps p.tables e below (s₁.setTop (mkF m 1 #[.val (.ref a), .unset] [(.ref a)])) t) => pre0 t (by
    refine XS.aloadN X0.here hx rfl (hb hby d5_0) rfl rfl ?_
    show Steps p.tables e below (s₁.setTop (mkF m 1 #[.val (.ref a), .unset] [(.ref a)])) _
    exact kt)
  obtain ⟨T2, X2, e2, st2⟩ := getF X0 hx hZ hown (host := "") (Or.inl (hw _ (List.mem_of_getElem? (i := 10) rfl))) Via.refl e0 FfirstTransitions (g := (mkF m 1 #[.val (.ref a), .unset] [(.ref a)])) rfl rfl (hb hby d5_1)
  have cn3 := fun (t : State) (kt : Steps p.tables e below (T2.setTop (mkF m 5 #[.val (.ref a), .unset] [(.ref a), (.ref AA1)])) t) => cn1 t (by
    refine st2 _ ?_
    show Steps p.tables e below (T2.setTop (mkF m 4 #[.val (.ref a), .unset] [(.ref AA1)])) _
    refine XS.aloadN X2.here hx rfl (hb hby d5_4) rfl rfl ?_
    show Steps p.tables e below (T2.setTop (mkF m 5 #[.val (.ref a), .unset] [(.ref a), (.ref AA1)])) _
    exact kt)
  obtain ⟨T4, X4, e4, st4⟩ := getF X2 hx hZ hown (host := "") (Or.inl (hw _ (List.mem_of_getElem? (i := 27) rfl))) Via.refl e2 FrowCount (g := (mkF m 5 #[.val (.ref a), .unset] [(.ref a), (.ref AA1)])) rfl rfl (hb hby d5_5)
  have cn5 := fun (t : State) (kt : Steps p.tables e below (T4.setTop (mkF m 8 #[.val (.ref a), .unset] [(.int (Nat.toInt32 rc)), (.ref AA1)])) t) => cn3 t (by
    refine st4 _ ?_
    show Steps p.tables e below (T4.setTop (mkF m 8 #[.val (.ref a), .unset] [(.int (Nat.toInt32 rc)), (.ref AA1)])) _
    exact kt)
  have AFx6 := AF1
  obtain ⟨cl6, Ar6, q6, S6, H6⟩ := AFx6
  have hin6 : ¬ ((Nat.toInt32 rc) < 0 ∨ cl6.slots.size ≤ ((Nat.toInt32 rc)).toNatClampNeg) := AF.inb S6 (own_ix (by omega)) (by omega)
  have hat6 : cl6.slots[((Nat.toInt32 rc)).toNatClampNeg]? = some (.int (Nat.toInt32 ft)) := AF.at H6 (own_ix (by omega)) (by omega) hft
  have cn7 := fun (t : State) (kt : Steps p.tables e below (T4.setTop (mkF m 15 #[.val (.ref a), .val (.int (Nat.toInt32 ft))] [(.ref a), (.int (Nat.toInt32 ft)), (.ref a), (.int (Nat.toInt32 ft)), (.ref a)])) t) => cn5 t (by
    refine X4.iaload hx (j := (Nat.toInt32 rc)) (v := (.int (Nat.toInt32 ft))) (by rw [e4]; exact Ar6.1) (State.isArrayOf_alike hZ.alike Ar6.2.1) Ar6.2.2 hin6 hat6 (g := (mkF m 8 #[.val (.ref a), .unset] [(.int (Nat.toInt32 rc)), (.ref AA1)])) rfl rfl (hb hby d5_8) _ ?_
    show Steps p.tables e below (T4.setTop (mkF m 9 #[.val (.ref a), .unset] [(.int (Nat.toInt32 ft))])) _
    refine XS.istoreN X4.here hx rfl (hb hby d5_9) rfl (l' := #[.val (.ref a), .val (.int (Nat.toInt32 ft))]) rfl ?_
    show Steps p.tables e below (T4.setTop (mkF m 10 #[.val (.ref a), .val (.int (Nat.toInt32 ft))] [])) _
    refine XS.aloadN X4.here hx rfl (hb hby d5_10) rfl rfl ?_
    show Steps p.tables e below (T4.setTop (mkF m 11 #[.val (.ref a), .val (.int (Nat.toInt32 ft))] [(.ref a)])) _
    refine XS.iloadN X4.here hx rfl (hb hby d5_11) rfl ?_
    show Steps p.tables e below (T4.setTop (mkF m 12 #[.val (.ref a), .val (.int (Nat.toInt32 ft))] [(.int (Nat.toInt32 ft)), (.ref a)])) _
    refine XS.aloadN X4.here hx rfl (hb hby d5_12) rfl rfl ?_
    show Steps p.tables e below (T4.setTop (mkF m 13 #[.val (.ref a), .val (.int (Nat.toInt32 ft))] [(.ref a), (.int (Nat.toInt32 ft)), (.ref a)])) _
    refine XS.iloadN X4.here hx rfl (hb hby d5_13) rfl ?_
    show Steps p.tables e below (T4.setTop (mkF m 14 #[.val (.ref a), .val (.int (Nat.toInt32 ft))] [(.int (Nat.toInt32 ft)), (.ref a), (.int (Nat.toInt32 ft)), (.ref a)])) _
    refine XS.aloadN X4.here hx rfl (hb hby d5_14) rfl rfl ?_
    show Steps p.tables e below (T4.setTop (mkF m 15 #[.val (.ref a), .val (.int (Nat.toInt32 ft))] [(.ref a), (.int (Nat.toInt32 ft)), (.ref a), (.int (Nat.toInt32 ft)), (.ref a)])) _
    exact kt)
  obtain ⟨T8, X8, e8, st8⟩ := getF X4 hx hZ hown (host := "") (Or.inl (hw _ (List.mem_of_getElem? (i := 25) rfl))) Via.refl e4 FtransitionCount (g := (mkF m 15 #[.val (.ref a), .val (.int (Nat.toInt32 ft))] [(.ref a), (.int (Nat.toInt32 ft)), (.ref a), (.int (Nat.toInt32 ft)), (.ref a)])) rfl rfl (hb hby d5_15)
  have cn9 := fun (t : State) (kt : Steps p.tables e below (T8.setTop (mkF m 18 #[.val (.ref a), .val (.int (Nat.toInt32 ft))] [(.int (Nat.toInt32 (ft + c))), (.int (Nat.toInt32 ft)), (.ref a), (.int (Nat.toInt32 ft)), (.ref a)])) t) => cn7 t (by
    refine st8 _ ?_
    show Steps p.tables e below (T8.setTop (mkF m 18 #[.val (.ref a), .val (.int (Nat.toInt32 ft))] [(.int (Nat.toInt32 (ft + c))), (.int (Nat.toInt32 ft)), (.ref a), (.int (Nat.toInt32 ft)), (.ref a)])) _
    exact kt)
  obtain ⟨cq10, q10, q10'⟩ := E_a.cell
  obtain ⟨_, _, ⟨T10, L10, k10, n10⟩, -, X10, ⟨Lc10, hQ10, l10, y10, z10⟩, st10⟩ := X8.privateBack hx (y := (⟨"com/example/probver/probver/model/TransitionRows", "mergeSuccessors", "(II)I"⟩ : MethodName)) hown (mvT hZ (hw _ (List.mem_of_getElem? (i := 38) rfl))) (mvT hZ (hw _ (List.mem_of_getElem? (i := 39) rfl))) (own_selp (y := (⟨"com/example/probver/probver/model/TransitionRows", "mergeSuccessors", "(II)I"⟩ : MethodName)) hZ (hw _ (List.mem_of_getElem? (i := 1) rfl)) (hw _ (List.mem_of_getElem? (i := 40) rfl)) (hw _ (List.mem_of_getElem? (i := 39) rfl)) (by decide)) (Cond.privateMethod_at (mvP hZ (hw _ (List.mem_of_getElem? (i := 40) rfl)) (args := #[]))) (mvT hZ (hw _ (List.mem_of_getElem? (i := 41) rfl))) (by decide) (backOf (W := 2) (rm6 l Z a0 hw [] a AA1 AA2 AA3 AA4 kA1 kA2 kA3 kA4 f1 f2 f3 f4 rc (ft + c) ft c M h0 n0 O0 TNh ⟨E_a, FfirstTransitions, FrowCount, Fsuccessors, Fprobabilities, FexactProbabilities, FtransitionCount, FsortKeys, AF1, AF2, AF3, AF4⟩ hc hfc H2 HT hM) hZ (hw _ (List.mem_of_getElem? (i := 41) rfl)) (hw _ (List.mem_of_getElem? (i := 2) rfl)) (by decide) (by decide)) (g := (mkF m 18 #[.val (.ref a), .val (.int (Nat.toInt32 ft))] [(.int (Nat.toInt32 (ft + c))), (.int (Nat.toInt32 ft)), (.ref a), (.int (Nat.toInt32 ft)), (.ref a)])) rfl (by rw [hml]; rfl) (Steps.refl _) (a := a) (by rw [e8]; exact q10) q10' (argsL := [(.int (Nat.toInt32 ft)), (.int (Nat.toInt32 (ft + c)))]) (rest := [(.int (Nat.toInt32 ft)), (.ref a)]) (lenOf pd_7 rfl) rfl (by show 2 * 0 + _ ≤ _; exact Nat.le_of_eq rfl) (hb hby d5_18) (fun _ _ => ⟨rfl, e8, (by decide : 0 + 1 ≤ _), (by decide : 0 + 4 ≤ _)⟩)
  dsimp only [Pt.U, Pt.locs, Pt.cells, Pt.slots] at X10 l10 y10 z10 st10 hQ10
  subst l10 y10 z10
  obtain ⟨mq, g2q10, g3q10, g4q10, rfl, Nq10, Kq10, hmc, A2q10, H2q10, A3q10, H3q10, A4q10⟩ := hQ10
  have N10 := Fr.app N0 Nq10
  have K10 := Kq10
  have E_a_e10 := E_a.keep K10
  have FfirstTransitions_e10 := FfirstTransitions.keep K10 (ninS ne_a_AA2 (ninS ne_a_AA3 (ninS ne_a_AA4 nin0)))
  have FrowCount_e10 := FrowCount.keep K10 (ninS ne_a_AA2 (ninS ne_a_AA3 (ninS ne_a_AA4 nin0)))
  have Fsuccessors_e10 := Fsuccessors.keep K10 (ninS ne_a_AA2 (ninS ne_a_AA3 (ninS ne_a_AA4 nin0)))
  have Fprobabilities_e10 := Fprobabilities.keep K10 (ninS ne_a_AA2 (ninS ne_a_AA3 (ninS ne_a_AA4 nin0)))
  have FexactProbabilities_e10 := FexactProbabilities.keep K10 (ninS ne_a_AA2 (ninS ne_a_AA3 (ninS ne_a_AA4 nin0)))
  have FtransitionCount_e10 := FtransitionCount.keep K10 (ninS ne_a_AA2 (ninS ne_a_AA3 (ninS ne_a_AA4 nin0)))
  have FsortKeys_e10 := FsortKeys.keep K10 (ninS ne_a_AA2 (ninS ne_a_AA3 (ninS ne_a_AA4 nin0)))
  have AF1_e10 := AF1.keep K10 (ninS ne_AA1_AA2 (ninS ne_AA1_AA3 (ninS ne_AA1_AA4 nin0)))
  have O10 := O0.keep K10 (allS g_AA2 (allS g_AA3 (allS g_AA4 all0)))
  have KK10 : Keep h0 T10.heap [a, AA1, AA2, AA3, AA4] := (Keep.refl h0 [a, AA1, AA2, AA3, AA4]).trans K10 (allS (Or.inl (List.mem_of_getElem? (i := 2) rfl)) (allS (Or.inl (List.mem_of_getElem? (i := 3) rfl)) (allS (Or.inl (List.mem_of_getElem? (i := 4) rfl)) all0)))
  have cn11 := fun (t : State) (kt : Steps p.tables e below (T10.setTop (mkF m 22 #[.val (.ref a), .val (.int (Nat.toInt32 ft))] [(.int ((Nat.toInt32 ft) + (Nat.toInt32 mq))), (.ref a)])) t) => cn9 t (by
    refine st10.trans ?_
    show Steps p.tables e below (T10.setTop (mkF m 21 #[.val (.ref a), .val (.int (Nat.toInt32 ft))] [(.int (Nat.toInt32 mq)), (.int (Nat.toInt32 ft)), (.ref a)])) _
    refine XS.iadd X10.here hx rfl (hb hby d5_21) rfl ?_
    show Steps p.tables e below (T10.setTop (mkF m 22 #[.val (.ref a), .val (.int (Nat.toInt32 ft))] [(.int ((Nat.toInt32 ft) + (Nat.toInt32 mq))), (.ref a)])) _
    exact kt)
  have cn12 : ∀ t, Steps p.tables e below (T10.setTop (mkF m 22 #[.val (.ref a), .val (.int (Nat.toInt32 ft))] [(.int (Nat.toInt32 (ft + mq))), (.ref a)])) t → Steps p.tables e below (s₁.setTop (entryFrame m #[(.ref a)] 2)) t := by have q := cn11; rw [(id (own_add (by omega)) : ((Nat.toInt32 ft) + (Nat.toInt32 mq)) = (Nat.toInt32 (ft + mq)))] at q; exact q
  obtain ⟨T13, h13, X13, e13, W13, st13⟩ := putF X10 hx hZ hown (host := "") (Or.inl (hw _ (List.mem_of_getElem? (i := 25) rfl))) Via.refl rfl FtransitionCount_e10 E_a_e10 (Or.inl (hw _ (List.mem_of_getElem? (i := 26) rfl))) (hw _ (List.mem_of_getElem? (i := 1) rfl)) (ty := .int) (by decide) rfl rfl (g := (mkF m 22 #[.val (.ref a), .val (.int (Nat.toInt32 ft))] [(.int (Nat.toInt32 (ft + mq))), (.ref a)])) rfl rfl (hb hby d5_22)
  have E_a_e13 := E_a_e10.wr W13
  have FfirstTransitions_e13 := FfirstTransitions_e10.other W13 (Or.inr (slot_ne (Or.inl (hw _ (List.mem_of_getElem? (i := 11) rfl))) (Or.inl (hw _ (List.mem_of_getElem? (i := 26) rfl))) (by decide) (t := (.array .int)) (t' := .int) (by decide) (by decide)))
  have FrowCount_e13 := FrowCount_e10.other W13 (Or.inr (slot_ne (Or.inl (hw _ (List.mem_of_getElem? (i := 28) rfl))) (Or.inl (hw _ (List.mem_of_getElem? (i := 26) rfl))) (by decide) (t := .int) (t' := .int) (by decide) (by decide)))
  have Fsuccessors_e13 := Fsuccessors_e10.other W13 (Or.inr (slot_ne (Or.inl (hw _ (List.mem_of_getElem? (i := 13) rfl))) (Or.inl (hw _ (List.mem_of_getElem? (i := 26) rfl))) (by decide) (t := (.array .int)) (t' := .int) (by decide) (by decide)))
  have Fprobabilities_e13 := Fprobabilities_e10.other W13 (Or.inr (slot_ne (Or.inl (hw _ (List.mem_of_getElem? (i := 16) rfl))) (Or.inl (hw _ (List.mem_of_getElem? (i := 26) rfl))) (by decide) (t := (.array .double)) (t' := .int) (by decide) (by decide)))
  have FexactProbabilities_e13 := FexactProbabilities_e10.other W13 (Or.inr (slot_ne (Or.inl (hw _ (List.mem_of_getElem? (i := 77) rfl))) (Or.inl (hw _ (List.mem_of_getElem? (i := 26) rfl))) (by decide) (t := (.array (.object "com/example/probver/probver/util/Rational"))) (t' := .int) (by decide) (by decide)))
  have FsortKeys_e13 := FsortKeys_e10.other W13 (Or.inr (slot_ne (Or.inl (hw _ (List.mem_of_getElem? (i := 19) rfl))) (Or.inl (hw _ (List.mem_of_getElem? (i := 26) rfl))) (by decide) (t := (.array .long)) (t' := .int) (by decide) (by decide)))
  have AF1_e13 := AF1_e10.other W13 (Ne.symm ne_a_AA1)
  have A2q10_e13 := A2q10.other W13 (Ne.symm ne_a_AA2)
  have A3q10_e13 := A3q10.other W13 (Ne.symm ne_a_AA3)
  have A4q10_e13 := A4q10.other W13 (Ne.symm ne_a_AA4)
  have N13 := Fr.snoc X13 N10 g_a
  have O13 := O10.wr W13 g_a
  have K13 : Keep h0 h13 [a, AA1, AA2, AA3, AA4] := KK10.wr W13 (Or.inl (List.mem_of_getElem? (i := 0) rfl))
  have FtransitionCount_13 := FtransitionCount_e10.same W13
  have cn14 := fun (t : State) (kt : Steps p.tables e below (T13.setTop (mkF m 27 #[.val (.ref a), .val (.int (Nat.toInt32 ft))] [(.ref a), (.ref a)])) t) => cn12 t (by
    refine st13 _ ?_
    show Steps p.tables e below (T13.setTop (mkF m 25 #[.val (.ref a), .val (.int (Nat.toInt32 ft))] [])) _
    refine XS.aloadN X13.here hx rfl (hb hby d5_25) rfl rfl ?_
    show Steps p.tables e below (T13.setTop (mkF m 26 #[.val (.ref a), .val (.int (Nat.toInt32 ft))] [(.ref a)])) _
    refine XS.dup X13.here hx rfl (hb hby d5_26) rfl rfl ?_
    show Steps p.tables e below (T13.setTop (mkF m 27 #[.val (.ref a), .val (.int (Nat.toInt32 ft))] [(.ref a), (.ref a)])) _
    exact kt)
  obtain ⟨T15, X15, e15, st15⟩ := getF X13 hx hZ hown (host := "") (Or.inl (hw _ (List.mem_of_getElem? (i := 27) rfl))) Via.refl e13 FrowCount_e13 (g := (mkF m 27 #[.val (.ref a), .val (.int (Nat.toInt32 ft))] [(.ref a), (.ref a)])) rfl rfl (hb hby d5_27)
  have cn16 := fun (t : State) (kt : Steps p.tables e below (T15.setTop (mkF m 32 #[.val (.ref a), .val (.int (Nat.toInt32 ft))] [(.int ((Nat.toInt32 rc) + (1 : Int32))), (.ref a)])) t) => cn14 t (by
    refine st15 _ ?_
    show Steps p.tables e below (T15.setTop (mkF m 30 #[.val (.ref a), .val (.int (Nat.toInt32 ft))] [(.int (Nat.toInt32 rc)), (.ref a)])) _
    refine XS.iconst X15.here hx rfl (hb hby d5_30) ?_
    show Steps p.tables e below (T15.setTop (mkF m 31 #[.val (.ref a), .val (.int (Nat.toInt32 ft))] [(.int (1 : Int32)), (.int (Nat.toInt32 rc)), (.ref a)])) _
    refine XS.iadd X15.here hx rfl (hb hby d5_31) rfl ?_
    show Steps p.tables e below (T15.setTop (mkF m 32 #[.val (.ref a), .val (.int (Nat.toInt32 ft))] [(.int ((Nat.toInt32 rc) + (1 : Int32))), (.ref a)])) _
    exact kt)
  have cn17 : ∀ t, Steps p.tables e below (T15.setTop (mkF m 32 #[.val (.ref a), .val (.int (Nat.toInt32 ft))] [(.int (Nat.toInt32 (rc + 1))), (.ref a)])) t → Steps p.tables e below (s₁.setTop (entryFrame m #[(.ref a)] 2)) t := by have q := cn16; rw [(id (own_inc (by omega)) : ((Nat.toInt32 rc) + (1 : Int32)) = (Nat.toInt32 (rc + 1)))] at q; exact q
  obtain ⟨T18, h18, X18, e18, W18, st18⟩ := putF X15 hx hZ hown (host := "") (Or.inl (hw _ (List.mem_of_getElem? (i := 27) rfl))) Via.refl e15 FrowCount_e13 E_a_e13 (Or.inl (hw _ (List.mem_of_getElem? (i := 28) rfl))) (hw _ (List.mem_of_getElem? (i := 1) rfl)) (ty := .int) (by decide) rfl rfl (g := (mkF m 32 #[.val (.ref a), .val (.int (Nat.toInt32 ft))] [(.int (Nat.toInt32 (rc + 1))), (.ref a)])) rfl rfl (hb hby d5_32)
  have E_a_e18 := E_a_e13.wr W18
  have FfirstTransitions_e18 := FfirstTransitions_e13.other W18 (Or.inr (slot_ne (Or.inl (hw _ (List.mem_of_getElem? (i := 11) rfl))) (Or.inl (hw _ (List.mem_of_getElem? (i := 28) rfl))) (by decide) (t := (.array .int)) (t' := .int) (by decide) (by decide)))
  have Fsuccessors_e18 := Fsuccessors_e13.other W18 (Or.inr (slot_ne (Or.inl (hw _ (List.mem_of_getElem? (i := 13) rfl))) (Or.inl (hw _ (List.mem_of_getElem? (i := 28) rfl))) (by decide) (t := (.array .int)) (t' := .int) (by decide) (by decide)))
  have Fprobabilities_e18 := Fprobabilities_e13.other W18 (Or.inr (slot_ne (Or.inl (hw _ (List.mem_of_getElem? (i := 16) rfl))) (Or.inl (hw _ (List.mem_of_getElem? (i := 28) rfl))) (by decide) (t := (.array .double)) (t' := .int) (by decide) (by decide)))
  have FexactProbabilities_e18 := FexactProbabilities_e13.other W18 (Or.inr (slot_ne (Or.inl (hw _ (List.mem_of_getElem? (i := 77) rfl))) (Or.inl (hw _ (List.mem_of_getElem? (i := 28) rfl))) (by decide) (t := (.array (.object "com/example/probver/probver/util/Rational"))) (t' := .int) (by decide) (by decide)))
  have FtransitionCount_13_e18 := FtransitionCount_13.other W18 (Or.inr (slot_ne (Or.inl (hw _ (List.mem_of_getElem? (i := 26) rfl))) (Or.inl (hw _ (List.mem_of_getElem? (i := 28) rfl))) (by decide) (t := .int) (t' := .int) (by decide) (by decide)))
  have FsortKeys_e18 := FsortKeys_e13.other W18 (Or.inr (slot_ne (Or.inl (hw _ (List.mem_of_getElem? (i := 19) rfl))) (Or.inl (hw _ (List.mem_of_getElem? (i := 28) rfl))) (by decide) (t := (.array .long)) (t' := .int) (by decide) (by decide)))
  have AF1_e18 := AF1_e13.other W18 (Ne.symm ne_a_AA1)
  have A2q10_e18 := A2q10_e13.other W18 (Ne.symm ne_a_AA2)
  have A3q10_e18 := A3q10_e13.other W18 (Ne.symm ne_a_AA3)
  have A4q10_e18 := A4q10_e13.other W18 (Ne.symm ne_a_AA4)
  have N18 := Fr.snoc X18 N13 g_a
  have O18 := O13.wr W18 g_a
  have K18 : Keep h0 h18 [a, AA1, AA2, AA3, AA4] := K13.wr W18 (Or.inl (List.mem_of_getElem? (i := 0) rfl))
  have FrowCount_18 := FrowCount_e13.same W18
  have cn19 := fun (t : State) (kt : Steps p.tables e below (T18.setTop (mkF m 36 #[.val (.ref a), .val (.int (Nat.toInt32 ft))] [(.ref a)])) t) => cn17 t (by
    refine st18 _ ?_
    show Steps p.tables e below (T18.setTop (mkF m 35 #[.val (.ref a), .val (.int (Nat.toInt32 ft))] [])) _
    refine XS.aloadN X18.here hx rfl (hb hby d5_35) rfl rfl ?_
    show Steps p.tables e below (T18.setTop (mkF m 36 #[.val (.ref a), .val (.int (Nat.toInt32 ft))] [(.ref a)])) _
    exact kt)
  obtain ⟨T20, X20, e20, st20⟩ := getF X18 hx hZ hown (host := "") (Or.inl (hw _ (List.mem_of_getElem? (i := 27) rfl))) Via.refl e18 FrowCount_18 (g := (mkF m 36 #[.val (.ref a), .val (.int (Nat.toInt32 ft))] [(.ref a)])) rfl rfl (hb hby d5_36)
  have cn21 := fun (t : State) (kt : Steps p.tables e below (T20.setTop (mkF m 41 #[.val (.ref a), .val (.int (Nat.toInt32 ft))] [(.int ((Nat.toInt32 (rc + 1)) + (1 : Int32)))])) t) => cn19 t (by
    refine st20 _ ?_
    show Steps p.tables e below (T20.setTop (mkF m 39 #[.val (.ref a), .val (.int (Nat.toInt32 ft))] [(.int (Nat.toInt32 (rc + 1)))])) _
    refine XS.iconst X20.here hx rfl (hb hby d5_39) ?_
    show Steps p.tables e below (T20.setTop (mkF m 40 #[.val (.ref a), .val (.int (Nat.toInt32 ft))] [(.int (1 : Int32)), (.int (Nat.toInt32 (rc + 1)))])) _
    refine XS.iadd X20.here hx rfl (hb hby d5_40) rfl ?_
    show Steps p.tables e below (T20.setTop (mkF m 41 #[.val (.ref a), .val (.int (Nat.toInt32 ft))] [(.int ((Nat.toInt32 (rc + 1)) + (1 : Int32)))])) _
    exact kt)
  have cn22 : ∀ t, Steps p.tables e below (T20.setTop (mkF m 41 #[.val (.ref a), .val (.int (Nat.toInt32 ft))] [(.int (Nat.toInt32 (rc + 1 + 1)))])) t → Steps p.tables e below (s₁.setTop (entryFrame m #[(.ref a)] 2)) t := by have q := cn21; rw [(id (own_inc (by omega)) : ((Nat.toInt32 (rc + 1)) + (1 : Int32)) = (Nat.toInt32 (rc + 1 + 1)))] at q; exact q
  have cn23 := fun (t : State) (kt : Steps p.tables e below (T20.setTop (mkF m 42 #[.val (.ref a), .val (.int (Nat.toInt32 ft))] [(.ref a), (.int (Nat.toInt32 (rc + 1 + 1)))])) t) => cn22 t (by
    refine XS.aloadN X20.here hx rfl (hb hby d5_41) rfl rfl ?_
    show Steps p.tables e below (T20.setTop (mkF m 42 #[.val (.ref a), .val (.int (Nat.toInt32 ft))] [(.ref a), (.int (Nat.toInt32 (rc + 1 + 1)))])) _
    exact kt)
  obtain ⟨T24, X24, e24, st24⟩ := getF X20 hx hZ hown (host := "") (Or.inl (hw _ (List.mem_of_getElem? (i := 10) rfl))) Via.refl e20 FfirstTransitions_e18 (g := (mkF m 42 #[.val (.ref a), .val (.int (Nat.toInt32 ft))] [(.ref a), (.int (Nat.toInt32 (rc + 1 + 1)))])) rfl rfl (hb hby d5_42)
  have cn25 := fun (t : State) (kt : Steps p.tables e below (T24.setTop (mkF m 45 #[.val (.ref a), .val (.int (Nat.toInt32 ft))] [(.ref AA1), (.int (Nat.toInt32 (rc + 1 + 1)))])) t) => cn23 t (by
    refine st24 _ ?_
    show Steps p.tables e below (T24.setTop (mkF m 45 #[.val (.ref a), .val (.int (Nat.toInt32 ft))] [(.ref AA1), (.int (Nat.toInt32 (rc + 1 + 1)))])) _
    exact kt)
  have AFx26 := AF1_e18
  obtain ⟨cl26, Ar26, q26, S26, H26⟩ := AFx26
  have cn27 := fun (t : State) (kt : Steps p.tables e below (T24.setTop (mkF m 46 #[.val (.ref a), .val (.int (Nat.toInt32 ft))] [(.int (Nat.toInt32 16)), (.int (Nat.toInt32 (rc + 1 + 1)))])) t) => cn25 t (by
    refine X24.arraylength hx (by rw [e24]; exact Ar26.1) (State.isArrayOf_alike hZ.alike Ar26.2.1) (g := (mkF m 45 #[.val (.ref a), .val (.int (Nat.toInt32 ft))] [(.ref AA1), (.int (Nat.toInt32 (rc + 1 + 1)))])) rfl rfl (hb hby d5_45) _ ?_
    rw [S26]
    show Steps p.tables e below (T24.setTop (mkF m 46 #[.val (.ref a), .val (.int (Nat.toInt32 ft))] [(.int (Nat.toInt32 16)), (.int (Nat.toInt32 (rc + 1 + 1)))])) _
    exact kt)
  have cn28 := fun (t : State) (kt : Steps p.tables e below (T24.setTop (mkF m 68 #[.val (.ref a), .val (.int (Nat.toInt32 ft))] [(.ref a)])) t) => cn27 t (by
    refine XS.icmpYes X24.here hx rfl (pc0 := 46) (pc' := 67) rfl (hb hby d5_46) rfl (flt (fun q => absurd ((own_lt (by omega) (by omega)).mp q) (by omega))).2.2.2 (by decide) (by decide) ?_
    show Steps p.tables e below (T24.setTop (mkF m 67 #[.val (.ref a), .val (.int (Nat.toInt32 ft))] [])) _
    refine XS.aloadN X24.here hx rfl (hb hby d5_67) rfl rfl ?_
    show Steps p.tables e below (T24.setTop (mkF m 68 #[.val (.ref a), .val (.int (Nat.toInt32 ft))] [(.ref a)])) _
    exact kt)
  obtain ⟨T29, X29, e29, st29⟩ := getF X24 hx hZ hown (host := "") (Or.inl (hw _ (List.mem_of_getElem? (i := 10) rfl))) Via.refl e24 FfirstTransitions_e18 (g := (mkF m 68 #[.val (.ref a), .val (.int (Nat.toInt32 ft))] [(.ref a)])) rfl rfl (hb hby d5_68)
  have cn30 := fun (t : State) (kt : Steps p.tables e below (T29.setTop (mkF m 72 #[.val (.ref a), .val (.int (Nat.toInt32 ft))] [(.ref a), (.ref AA1)])) t) => cn28 t (by
    refine st29 _ ?_
    show Steps p.tables e below (T29.setTop (mkF m 71 #[.val (.ref a), .val (.int (Nat.toInt32 ft))] [(.ref AA1)])) _
    refine XS.aloadN X29.here hx rfl (hb hby d5_71) rfl rfl ?_
    show Steps p.tables e below (T29.setTop (mkF m 72 #[.val (.ref a), .val (.int (Nat.toInt32 ft))] [(.ref a), (.ref AA1)])) _
    exact kt)
  obtain ⟨T31, X31, e31, st31⟩ := getF X29 hx hZ hown (host := "") (Or.inl (hw _ (List.mem_of_getElem? (i := 27) rfl))) Via.refl e29 FrowCount_18 (g := (mkF m 72 #[.val (.ref a), .val (.int (Nat.toInt32 ft))] [(.ref a), (.ref AA1)])) rfl rfl (hb hby d5_72)
  have cn32 := fun (t : State) (kt : Steps p.tables e below (T31.setTop (mkF m 76 #[.val (.ref a), .val (.int (Nat.toInt32 ft))] [(.ref a), (.int (Nat.toInt32 (rc + 1))), (.ref AA1)])) t) => cn30 t (by
    refine st31 _ ?_
    show Steps p.tables e below (T31.setTop (mkF m 75 #[.val (.ref a), .val (.int (Nat.toInt32 ft))] [(.int (Nat.toInt32 (rc + 1))), (.ref AA1)])) _
    refine XS.aloadN X31.here hx rfl (hb hby d5_75) rfl rfl ?_
    show Steps p.tables e below (T31.setTop (mkF m 76 #[.val (.ref a), .val (.int (Nat.toInt32 ft))] [(.ref a), (.int (Nat.toInt32 (rc + 1))), (.ref AA1)])) _
    exact kt)
  obtain ⟨T33, X33, e33, st33⟩ := getF X31 hx hZ hown (host := "") (Or.inl (hw _ (List.mem_of_getElem? (i := 25) rfl))) Via.refl e31 FtransitionCount_13_e18 (g := (mkF m 76 #[.val (.ref a), .val (.int (Nat.toInt32 ft))] [(.ref a), (.int (Nat.toInt32 (rc + 1))), (.ref AA1)])) rfl rfl (hb hby d5_76)
  have cn34 := fun (t : State) (kt : Steps p.tables e below (T33.setTop (mkF m 79 #[.val (.ref a), .val (.int (Nat.toInt32 ft))] [(.int (Nat.toInt32 (ft + mq))), (.int (Nat.toInt32 (rc + 1))), (.ref AA1)])) t) => cn32 t (by
    refine st33 _ ?_
    show Steps p.tables e below (T33.setTop (mkF m 79 #[.val (.ref a), .val (.int (Nat.toInt32 ft))] [(.int (Nat.toInt32 (ft + mq))), (.int (Nat.toInt32 (rc + 1))), (.ref AA1)])) _
    exact kt)
  have AFx35 := AF1_e18
  obtain ⟨cl35, Ar35, q35, S35, H35⟩ := AFx35
  have hin35 : ¬ ((Nat.toInt32 (rc + 1)) < 0 ∨ cl35.slots.size ≤ ((Nat.toInt32 (rc + 1))).toNatClampNeg) := AF.inb S35 (own_ix (by omega)) (by omega)
  obtain ⟨T36, h36, X36, e36, W36, st36⟩ := stI X33 hx hZ e33 Ar35 (j := (Nat.toInt32 (rc + 1))) hin35 (g := (mkF m 79 #[.val (.ref a), .val (.int (Nat.toInt32 ft))] [(.int (Nat.toInt32 (ft + mq))), (.int (Nat.toInt32 (rc + 1))), (.ref AA1)])) rfl rfl (hb hby d5_79)
  have E_a_e36 := E_a_e18.wr W36
  have FfirstTransitions_e36 := FfirstTransitions_e18.other W36 (Or.inl ne_a_AA1)
  have FrowCount_18_e36 := FrowCount_18.other W36 (Or.inl ne_a_AA1)
  have Fsuccessors_e36 := Fsuccessors_e18.other W36 (Or.inl ne_a_AA1)
  have Fprobabilities_e36 := Fprobabilities_e18.other W36 (Or.inl ne_a_AA1)
  have FexactProbabilities_e36 := FexactProbabilities_e18.other W36 (Or.inl ne_a_AA1)
  have FtransitionCount_13_e36 := FtransitionCount_13_e18.other W36 (Or.inl ne_a_AA1)
  have FsortKeys_e36 := FsortKeys_e18.other W36 (Or.inl ne_a_AA1)
  have A2q10_e36 := A2q10_e18.other W36 (Ne.symm ne_AA1_AA2)
  have A3q10_e36 := A3q10_e18.other W36 (Ne.symm ne_AA1_AA3)
  have A4q10_e36 := A4q10_e18.other W36 (Ne.symm ne_AA1_AA4)
  have AF36 : AF Z h36 AA1 kA1 .int 16 (own_upd f1 (rc + 1) (.int (Nat.toInt32 (ft + mq)))) := AF.set Ar35 q35 S35 H35 W36 (own_ix (by omega)) (by omega)
  have N36 := Fr.snoc X36 N18 g_AA1
  have O36 := O18.wr W36 g_AA1
  have K36 : Keep h0 h36 [a, AA1, AA2, AA3, AA4] := K18.wr W36 (Or.inl (List.mem_of_getElem? (i := 1) rfl))
  have cn37 := fun (t : State) (kt : Steps p.tables e below (T36.setTop (mkF m 80 #[.val (.ref a), .val (.int (Nat.toInt32 ft))] [])) t) => cn34 t (by
    refine st36 _ ?_
    show Steps p.tables e below (T36.setTop (mkF m 80 #[.val (.ref a), .val (.int (Nat.toInt32 ft))] [])) _
    exact kt)
  obtain ⟨frs, hr, hrun, hended, hW, hsame⟩ := X36.leave (v := none) (fun _ => rfl)
  refine ⟨_, _, cn37 _ ?_, hrun, hended, _, _, rfl, ?_, ⟨_, rfl⟩, hW, hsame.mono (by decide) (by decide)⟩
  · exact X36.returnOut hx Bd.returns (hb hby d5_80) hr
  · show QE Z a AA1 AA2 AA3 AA4 kA1 kA2 kA3 kA4 f1 rc ft c M h0 n0 _ T36.heap _
    rw [e36]
    exact ⟨mq, _, _, _, rfl, N36, K36, hmc, ⟨E_a_e36, FfirstTransitions_e36, FrowCount_18_e36, Fsuccessors_e36, Fprobabilities_e36, FexactProbabilities_e36, FtransitionCount_13_e36, FsortKeys_e36, AF36, A2q10_e36, A3q10_e36, A4q10_e36⟩, H2q10, H3q10⟩

def INV (Z : State) (h : Heap) (a AA1 AA2 AA3 AA4 : Addr) (kA1 kA2 kA3 kA4 : ClassId) (i : Nat) (r : Int32) (f1 f2 f3 f4 : Nat → Value) (rc ft c : Nat) : Prop := TR Z h a AA1 AA2 AA3 AA4 kA1 kA2 kA3 kA4 f1 f2 f3 f4 rc (ft + c) ∧ rc ≤ i ∧ ft + c ≤ i ∧ f1 rc = .int (Nat.toInt32 ft) ∧ T2 f2 ∧ TP3 (8 * 5 ^ i) f3 ∧ ((r = 1 ∧ 0 < c) ∨ (r = 0 ∧ c = 0))
theorem own_ro1 {ft c : Nat} {r : Int32} (hb : ft + c ≤ 4) (H : (r = 1 ∧ 0 < c) ∨ (r = 0 ∧ c = 0)) : own_ro (Nat.toInt32 (ft + c)) (Nat.toInt32 ft) = r := by
  unfold own_ro
  rcases H with ⟨rfl, h⟩ | ⟨rfl, rfl⟩
  · rw [if_neg]
    intro q
    have := (own_eqn (by omega) (by omega)).mp q
    omega
  · rw [Nat.add_zero, if_pos rfl]
theorem own_pw (i : Nat) (h : i ≤ 4) : 8 * 5 ^ i * 5 < 4503599627370496 := by
  have : 5 ^ i ≤ 5 ^ 4 := Nat.pow_le_pow_right (by decide) h
  have e : (5 : Nat) ^ 4 = 625 := by decide
  omega
theorem own_p1 (i : Nat) : 8 * 5 ^ i * 5 = 8 * 5 ^ (i + 1) := by rw [Nat.pow_succ]; omega
theorem own_p8 (i : Nat) : 8 ≤ 8 * 5 ^ i := Nat.le_mul_of_pos_right 8 (Nat.pow_pos (by decide))
theorem own_x8 (x : Int32) : 1 ≤ ((x &&& (7 : Int32)) + (1 : Int32)).toInt64.toInt ∧ ((x &&& (7 : Int32)) + (1 : Int32)).toInt64.toInt ≤ 8 := by
  have h := c_mask x 7 3 (by decide) (by decide)
  have q := c_iadd (x &&& (7 : Int32)) 1
  have r := rng32 ((x &&& (7 : Int32)) + 1)
  have o : (1 : Int32).toInt = 1 := by decide
  rw [c_i2l]
  omega
theorem own_dl {v : Int64} (h0 : 1 ≤ v.toInt) (h1 : v.toInt ≤ 8) : cmpValue (FP.dcmp (FP.l2d v) 0) .l = 1 := by
  have b1 : B53 v := ⟨by omega, by omega⟩
  have b2 : B53 0 := by constructor <;> decide
  have q := dcmpV_w b1 b2 .l
  rw [l2d_zero] at q
  rw [q]
  have z : (0 : Int64).toInt = 0 := by decide
  have c := (c_lcmp v 0).2.2 (by omega)
  rw [← Int32.toInt_inj, c]
  rfl
theorem own_dg {v : Int64} : cmpValue (FP.dcmp (FP.l2d v) 9218868437227405312) .g = -1 := dcmp_pinf (Jvm.Free.Fl.l2d_fin v) .g
def QT (Z : State) (a AA1 AA2 AA3 AA4 : Addr) (kA1 kA2 kA3 kA4 : ClassId) (i : Nat) (h0 : Heap) (n0 : Nat) (v : Option Value) (h : Heap) (L : List Loc) : Prop := ∃ (r : Int32) (f1 f2 f3 f4 : Nat → Value) (rc ft c : Nat), v = some (.int r) ∧ Fr n0 L ∧ Keep h0 h [a, AA1, AA2, AA3, AA4] ∧ INV Z h a AA1 AA2 AA3 AA4 kA1 kA2 kA3 kA4 i r f1 f2 f3 f4 rc ft c

theorem own_pos (x : Int32) : ¬ (x &&& (2147483647 : Int32)) < (0 : Int32) := by
  have h := (c_and x 2147483647 (by decide)).1
  rw [Int32.lt_iff_toInt_lt]
  have z : (0 : Int32).toInt = 0 := by decide
  omega
theorem d4_0 : decode method_2_code 0 = .ok (.iload_n 1, 1) := by decide +kernel
theorem d4_1 : decode method_2_code 1 = .ok (.iconst 2, 1) := by decide +kernel
theorem d4_2 : decode method_2_code 2 = .ok (.iload_n 2, 1) := by decide +kernel
theorem d4_3 : decode method_2_code 3 = .ok (.imul, 1) := by decide +kernel
theorem d4_4 : decode method_2_code 4 = .ok (.iushr, 1) := by decide +kernel
theorem d4_5 : decode method_2_code 5 = .ok (.istore 6, 2) := by decide +kernel
theorem d4_7 : decode method_2_code 7 = .ok (.iload 6, 2) := by decide +kernel
theorem d4_9 : decode method_2_code 9 = .ok (.iconst 1, 1) := by decide +kernel
theorem d4_10 : decode method_2_code 10 = .ok (.iand, 1) := by decide +kernel
theorem d4_11 : decode method_2_code 11 = .ok (.ifCond .eq 48, 3) := by decide +kernel
theorem d4_14 : decode method_2_code 14 = .ok (.iload 6, 2) := by decide +kernel
theorem d4_16 : decode method_2_code 16 = .ok (.iconst 2, 1) := by decide +kernel
theorem d4_17 : decode method_2_code 17 = .ok (.iand, 1) := by decide +kernel
theorem d4_18 : decode method_2_code 18 = .ok (.ifCond .eq 10, 3) := by decide +kernel
theorem d4_21 : decode method_2_code 21 = .ok (.iload_n 3, 1) := by decide +kernel
theorem d4_22 : decode method_2_code 22 = .ok (.ldc 7, 2) := by decide +kernel
theorem d4_24 : decode method_2_code 24 = .ok (.iand, 1) := by decide +kernel
theorem d4_25 : decode method_2_code 25 = .ok (.goto 8, 3) := by decide +kernel
theorem d4_28 : decode method_2_code 28 = .ok (.iload 4, 2) := by decide +kernel
theorem d4_30 : decode method_2_code 30 = .ok (.ldc 7, 2) := by decide +kernel
theorem d4_32 : decode method_2_code 32 = .ok (.iand, 1) := by decide +kernel
theorem d4_33 : decode method_2_code 33 = .ok (.istore 7, 2) := by decide +kernel
theorem d4_35 : decode method_2_code 35 = .ok (.iload 5, 2) := by decide +kernel
theorem d4_37 : decode method_2_code 37 = .ok (.iconst 3, 1) := by decide +kernel
theorem d4_38 : decode method_2_code 38 = .ok (.iload_n 2, 1) := by decide +kernel
theorem d4_39 : decode method_2_code 39 = .ok (.imul, 1) := by decide +kernel
theorem d4_40 : decode method_2_code 40 = .ok (.iushr, 1) := by decide +kernel
theorem d4_41 : decode method_2_code 41 = .ok (.bipush 7, 2) := by decide +kernel
theorem d4_43 : decode method_2_code 43 = .ok (.iand, 1) := by decide +kernel
theorem d4_44 : decode method_2_code 44 = .ok (.iconst 1, 1) := by decide +kernel
theorem d4_45 : decode method_2_code 45 = .ok (.iadd, 1) := by decide +kernel
theorem d4_46 : decode method_2_code 46 = .ok (.i2d, 1) := by decide +kernel
theorem d4_47 : decode method_2_code 47 = .ok (.dstore 8, 2) := by decide +kernel
theorem d4_49 : decode method_2_code 49 = .ok (.aload_n 0, 1) := by decide +kernel
theorem d4_50 : decode method_2_code 50 = .ok (.iload 7, 2) := by decide +kernel
theorem d4_52 : decode method_2_code 52 = .ok (.dload 8, 2) := by decide +kernel
theorem d4_54 : decode method_2_code 54 = .ok (.invokevirtual 8, 3) := by decide +kernel
theorem d4_57 : decode method_2_code 57 = .ok (.iconst 1, 1) := by decide +kernel
theorem d4_58 : decode method_2_code 58 = .ok (.ireturn, 1) := by decide +kernel
theorem d4_59 : decode method_2_code 59 = .ok (.aload_n 0, 1) := by decide +kernel
theorem d4_60 : decode method_2_code 60 = .ok (.invokevirtual 14, 3) := by decide +kernel
theorem d4_63 : decode method_2_code 63 = .ok (.iconst 0, 1) := by decide +kernel
theorem d4_64 : decode method_2_code 64 = .ok (.ireturn, 1) := by decide +kernel
theorem pd_9 : parseMethodDescriptor "()V" = some ⟨[], none⟩ := by decide +kernel
theorem pn_com_example_probver_probver_model_TransitionRowsRowOpenPinLaw : plainName "com/example/probver/probver/model/TransitionRowsRowOpenPinLaw" = true := by first | (simp [plainName, overriddenIn]; done) | decide +kernel
theorem ef_T0 (m : MethodId) (x0 : Addr) (x1 : Int32) (x2 : Int32) (x3 : Int32) (x4 : Int32) (x5 : Int32) : entryFrame m #[(.ref x0), (.int x1), (.int x2), (.int x3), (.int x4), (.int x5)] 10 = mkF m 0 #[.val (.ref x0), .val (.int x1), .val (.int x2), .val (.int x3), .val (.int x4), .val (.int x5), .unset, .unset, .unset, .unset] [] := by first | (simp [entryFrame, mkF, argsToLocals, Value.category]; done) | rfl
set_option maxRecDepth 65536 in
set_option maxHeartbeats 40000000 in
theorem rmT0 (l : Launch) (Z : State) (a0 : Array Value) (hw : ∀ d ∈ tables_1, d.before a0 Z = true) (ws : List Jvm.Cond) (a AA1 AA2 AA3 AA4 : Addr) (kA1 kA2 kA3 kA4 : ClassId) (f1 f2 f3 f4 : Nat → Value) (rc ft c : Nat) (p1 p2 p3 p4 r : Int32) (h0 : Heap) (n0 : Nat) (O0 : Old Z n0 h0) (TNh : TN n0 a AA1 AA2 AA3 AA4) (I : INV Z h0 a AA1 AA2 AA3 AA4 kA1 kA2 kA3 kA4 0 r f1 f2 f3 f4 rc ft c) :
    MetFree l (⟨"com/example/probver/probver/model/TransitionRowsRowOpenPinLaw", "step", "(Lcom/example/probver/probver/model/TransitionRows;IIIII)Z"⟩ : MethodName) (head1 (Jvm.Cond.code (⟨"com/example/probver/probver/model/TransitionRowsRowOpenPinLaw", "step", "(Lcom/example/probver/probver/model/TransitionRows;IIIII)Z"⟩ : MethodName) method_2_code 10 (some .boolean) :: ws) ({ frames := 6, cells := 1, slots := 4, locals := 123 } : Room)) (fun aQ U => aQ = #[(.ref a), (.int p1), (.int (0 : Int32)), (.int p2), (.int p3), (.int p4)] ∧ Z.Warmed39 U.vm ∧ U.heap = h0) (fun _ _ _ _ _ => True) (fun _ U o U' => ∃ v L, o = .returned v ∧ QT Z a AA1 AA2 AA3 AA4 kA1 kA2 kA3 kA4 1 h0 n0 v U'.heap L ∧ FrameEnd U o U' L ({ frames := 6, cells := 1, slots := 4, locals := 123 } : Room).cells ({ frames := 6, cells := 1, slots := 4, locals := 123 } : Room).slots) := by
  refine MetFree.of_bodySF (plainFor_of_name pn_com_example_probver_probver_model_TransitionRowsRowOpenPinLaw) hisR ?_
  intro p e s m args below meth kode s₁ Bd hml0 hP hK
  obtain ⟨rfl, hZ, hh⟩ := hP
  have hx := Bd.exec
  have hby := Bd.bytes
  have hml : kode.maxLocals = 10 := hml0
  have hown : s.vm.findClass "com/example/probver/probver/model/TransitionRowsRowOpenPinLaw" = some m.cls := findClass_of_methodNamed Bd.named
  have hnm := (name_of_methodNamed Bd.named Bd.method).1
  have X0 : Stand p l e ({ frames := 6, cells := 1, slots := 4, locals := 123 } : Room) s m #[(.ref a), (.int p1), (.int (0 : Int32)), (.int p2), (.int p3), (.int p4)] below meth kode s₁ [] 0 0 := Stand.of_body Bd
  have e0 : s₁.heap = h0 := by rw [← hh, Bd.state]; rfl
  have N0 := Fr.nil n0
  have pre0 : ∀ t, Steps p.tables e below (s₁.setTop (mkF m 0 #[.val (.ref a), .val (.int p1), .val (.int (0 : Int32)), .val (.int p2), .val (.int p3), .val (.int p4), .unset, .unset, .unset, .unset] [])) t → Steps p.tables e below (s₁.setTop (entryFrame m #[(.ref a), (.int p1), (.int (0 : Int32)), (.int p2), (.int p3), (.int p4)] 10)) t := fun t k => castTop (ef_T0 m a p1 (0 : Int32) p2 p3 p4) k
  have TNx := TNh
  obtain ⟨⟨g_a, g_AA1, g_AA2, g_AA3, g_AA4⟩, ne_a_AA1, ne_a_AA2, ne_a_AA3, ne_a_AA4, ne_AA1_AA2, ne_AA1_AA3, ne_AA1_AA4, ne_AA2_AA3, ne_AA2_AA4, ne_AA3_AA4⟩ := TNx
  obtain ⟨B, hrc, hfci, hft, H2, HT, hor⟩ := I
  obtain ⟨E_a, FfirstTransitions, FrowCount, Fsuccessors, Fprobabilities, FexactProbabilities, FtransitionCount, FsortKeys, AF1, AF2, AF3, AF4⟩ := B
  have cn1 := fun (t : State) (kt : Steps p.tables e below (s₁.setTop (mkF m 11 #[.val (.ref a), .val (.int p1), .val (.int (0 : Int32)), .val (.int p2), .val (.int p3), .val (.int p4), .val (.int ((p1.toUInt32 >>> ((0 : Int32) &&& 31).toUInt32).toInt32)), .unset, .unset, .unset] [(.int (((p1.toUInt32 >>> ((0 : Int32) &&& 31).toUInt32).toInt32) &&& (1 : Int32)))])) t) => pre0 t (by
    refine XS.iloadN X0.here hx rfl (hb hby d4_0) rfl ?_
    show Steps p.tables e below (s₁.setTop (mkF m 1 #[.val (.ref a), .val (.int p1), .val (.int (0 : Int32)), .val (.int p2), .val (.int p3), .val (.int p4), .unset, .unset, .unset, .unset] [(.int p1)])) _
    refine XS.iconst X0.here hx rfl (hb hby d4_1) ?_
    show Steps p.tables e below (s₁.setTop (mkF m 2 #[.val (.ref a), .val (.int p1), .val (.int (0 : Int32)), .val (.int p2), .val (.int p3), .val (.int p4), .unset, .unset, .unset, .unset] [(.int (2 : Int32)), (.int p1)])) _
    refine XS.iloadN X0.here hx rfl (hb hby d4_2) rfl ?_
    show Steps p.tables e below (s₁.setTop (mkF m 3 #[.val (.ref a), .val (.int p1), .val (.int (0 : Int32)), .val (.int p2), .val (.int p3), .val (.int p4), .unset, .unset, .unset, .unset] [(.int (0 : Int32)), (.int (2 : Int32)), (.int p1)])) _
    refine XS.imul X0.here hx rfl (hb hby d4_3) rfl ?_
    show Steps p.tables e below (s₁.setTop (mkF m 4 #[.val (.ref a), .val (.int p1), .val (.int (0 : Int32)), .val (.int p2), .val (.int p3), .val (.int p4), .unset, .unset, .unset, .unset] [(.int (0 : Int32)), (.int p1)])) _
    refine XS.iushr X0.here hx rfl (hb hby d4_4) rfl ?_
    show Steps p.tables e below (s₁.setTop (mkF m 5 #[.val (.ref a), .val (.int p1), .val (.int (0 : Int32)), .val (.int p2), .val (.int p3), .val (.int p4), .unset, .unset, .unset, .unset] [(.int ((p1.toUInt32 >>> ((0 : Int32) &&& 31).toUInt32).toInt32))])) _
    refine XS.istore X0.here hx rfl (hb hby d4_5) rfl (l' := #[.val (.ref a), .val (.int p1), .val (.int (0 : Int32)), .val (.int p2), .val (.int p3), .val (.int p4), .val (.int ((p1.toUInt32 >>> ((0 : Int32) &&& 31).toUInt32).toInt32)), .unset, .unset, .unset]) rfl ?_
    show Steps p.tables e below (s₁.setTop (mkF m 7 #[.val (.ref a), .val (.int p1), .val (.int (0 : Int32)), .val (.int p2), .val (.int p3), .val (.int p4), .val (.int ((p1.toUInt32 >>> ((0 : Int32) &&& 31).toUInt32).toInt32)), .unset, .unset, .unset] [])) _
    refine XS.iload X0.here hx rfl (hb hby d4_7) rfl ?_
    show Steps p.tables e below (s₁.setTop (mkF m 9 #[.val (.ref a), .val (.int p1), .val (.int (0 : Int32)), .val (.int p2), .val (.int p3), .val (.int p4), .val (.int ((p1.toUInt32 >>> ((0 : Int32) &&& 31).toUInt32).toInt32)), .unset, .unset, .unset] [(.int ((p1.toUInt32 >>> ((0 : Int32) &&& 31).toUInt32).toInt32))])) _
    refine XS.iconst X0.here hx rfl (hb hby d4_9) ?_
    show Steps p.tables e below (s₁.setTop (mkF m 10 #[.val (.ref a), .val (.int p1), .val (.int (0 : Int32)), .val (.int p2), .val (.int p3), .val (.int p4), .val (.int ((p1.toUInt32 >>> ((0 : Int32) &&& 31).toUInt32).toInt32)), .unset, .unset, .unset] [(.int (1 : Int32)), (.int ((p1.toUInt32 >>> ((0 : Int32) &&& 31).toUInt32).toInt32))])) _
    refine XS.iand X0.here hx rfl (hb hby d4_10) rfl ?_
    show Steps p.tables e below (s₁.setTop (mkF m 11 #[.val (.ref a), .val (.int p1), .val (.int (0 : Int32)), .val (.int p2), .val (.int p3), .val (.int p4), .val (.int ((p1.toUInt32 >>> ((0 : Int32) &&& 31).toUInt32).toInt32)), .unset, .unset, .unset] [(.int (((p1.toUInt32 >>> ((0 : Int32) &&& 31).toUInt32).toInt32) &&& (1 : Int32)))])) _
    exact kt)
  by_cases hc11_2 : (((p1.toUInt32 >>> ((0 : Int32) &&& 31).toUInt32).toInt32) &&& (1 : Int32)) = (0 : Int32)
  · have cn3 := fun (t : State) (kt : Steps p.tables e below (s₁.setTop (mkF m 60 #[.val (.ref a), .val (.int p1), .val (.int (0 : Int32)), .val (.int p2), .val (.int p3), .val (.int p4), .val (.int ((p1.toUInt32 >>> ((0 : Int32) &&& 31).toUInt32).toInt32)), .unset, .unset, .unset] [(.ref a)])) t) => cn1 t (by
      refine XS.ifYes X0.here hx rfl (pc0 := 11) (pc' := 59) rfl (hb hby d4_11) rfl ((if0 _ _).trans (teq hc11_2).1) (by decide) (by decide) ?_
      show Steps p.tables e below (s₁.setTop (mkF m 59 #[.val (.ref a), .val (.int p1), .val (.int (0 : Int32)), .val (.int p2), .val (.int p3), .val (.int p4), .val (.int ((p1.toUInt32 >>> ((0 : Int32) &&& 31).toUInt32).toInt32)), .unset, .unset, .unset] [])) _
      refine XS.aloadN X0.here hx rfl (hb hby d4_59) rfl rfl ?_
      show Steps p.tables e below (s₁.setTop (mkF m 60 #[.val (.ref a), .val (.int p1), .val (.int (0 : Int32)), .val (.int p2), .val (.int p3), .val (.int p4), .val (.int ((p1.toUInt32 >>> ((0 : Int32) &&& 31).toUInt32).toInt32)), .unset, .unset, .unset] [(.ref a)])) _
      exact kt)
    obtain ⟨cq4, kq4, q4a, q4b, q4c⟩ := isOf hZ e0 E_a
    obtain ⟨_, _, ⟨T4, L4, k4, n4⟩, -, X4, ⟨Lc4, hQ4, l4, y4, z4⟩, st4⟩ := X0.virtualBack hx (y := (⟨"com/example/probver/probver/model/TransitionRows", "endRow", "()V"⟩ : MethodName)) (z := (⟨"com/example/probver/probver/model/TransitionRows", "endRow", "()V"⟩ : MethodName)) hown (mvT hZ (hw _ (List.mem_of_getElem? (i := 33) rfl))) (mvT hZ (hw _ (List.mem_of_getElem? (i := 34) rfl))) (notFace_of_selects (args := #[]) (mvT hZ (hw _ (List.mem_of_getElem? (i := 36) rfl)))) (mvT hZ (hw _ (List.mem_of_getElem? (i := 36) rfl))) (mvT hZ (hw _ (List.mem_of_getElem? (i := 35) rfl))) (by decide) (backOf (W := 0) (rm5 l Z a0 hw [] a AA1 AA2 AA3 AA4 kA1 kA2 kA3 kA4 f1 f2 f3 f4 rc ft c (8 * 5 ^ 0) h0 n0 O0 TNh ⟨E_a, FfirstTransitions, FrowCount, Fsuccessors, Fprobabilities, FexactProbabilities, FtransitionCount, FsortKeys, AF1, AF2, AF3, AF4⟩ (by omega) hft (by omega) (by omega) H2 HT (own_pw 0 (by omega))) hZ (hw _ (List.mem_of_getElem? (i := 37) rfl)) (hw _ (List.mem_of_getElem? (i := 2) rfl)) (by decide) (by decide)) q4a q4c (g := (mkF m 60 #[.val (.ref a), .val (.int p1), .val (.int (0 : Int32)), .val (.int p2), .val (.int p3), .val (.int p4), .val (.int ((p1.toUInt32 >>> ((0 : Int32) &&& 31).toUInt32).toInt32)), .unset, .unset, .unset] [(.ref a)])) rfl (by rw [hml]; rfl) (Steps.refl _) (argsL := []) (rest := []) (lenOf pd_9 rfl) rfl (by show 2 * 0 + _ ≤ _; exact Nat.le_of_eq rfl) (hb hby d4_60) (fun _ _ => ⟨rfl, e0, (by decide : 0 + 1 ≤ _), (by decide : 0 + 4 ≤ _)⟩)
    dsimp only [Pt.U, Pt.locs, Pt.cells, Pt.slots] at X4 l4 y4 z4 st4 hQ4
    subst l4 y4 z4
    obtain ⟨mq, g2q4, g3q4, g4q4, rfl, Nq4, Kq4, hmc, Bq4, H2q4, H3q4⟩ := hQ4
    have N4 := Fr.app N0 Nq4
    obtain ⟨E_a_4, FfirstTransitions_4, FrowCount_4, Fsuccessors_4, Fprobabilities_4, FexactProbabilities_4, FtransitionCount_4, FsortKeys_4, AF1_4, AF2_4, AF3_4, AF4_4⟩ := Bq4
    have K4 := Kq4
    have E_a_e4 := E_a.keep K4
    have O4 := O0.keep K4 (allS g_a (allS g_AA1 (allS g_AA2 (allS g_AA3 (allS g_AA4 all0)))))
    have KK4 : Keep h0 T4.heap [a, AA1, AA2, AA3, AA4] := (Keep.refl h0 [a, AA1, AA2, AA3, AA4]).trans K4 (allS (Or.inl (List.mem_of_getElem? (i := 0) rfl)) (allS (Or.inl (List.mem_of_getElem? (i := 1) rfl)) (allS (Or.inl (List.mem_of_getElem? (i := 2) rfl)) (allS (Or.inl (List.mem_of_getElem? (i := 3) rfl)) (allS (Or.inl (List.mem_of_getElem? (i := 4) rfl)) all0)))))
    have cn5 := fun (t : State) (kt : Steps p.tables e below (T4.setTop (mkF m 64 #[.val (.ref a), .val (.int p1), .val (.int (0 : Int32)), .val (.int p2), .val (.int p3), .val (.int p4), .val (.int ((p1.toUInt32 >>> ((0 : Int32) &&& 31).toUInt32).toInt32)), .unset, .unset, .unset] [(.int (0 : Int32))])) t) => cn3 t (by
      refine st4.trans ?_
      show Steps p.tables e below (T4.setTop (mkF m 63 #[.val (.ref a), .val (.int p1), .val (.int (0 : Int32)), .val (.int p2), .val (.int p3), .val (.int p4), .val (.int ((p1.toUInt32 >>> ((0 : Int32) &&& 31).toUInt32).toInt32)), .unset, .unset, .unset] [])) _
      refine XS.iconst X4.here hx rfl (hb hby d4_63) ?_
      show Steps p.tables e below (T4.setTop (mkF m 64 #[.val (.ref a), .val (.int p1), .val (.int (0 : Int32)), .val (.int p2), .val (.int p3), .val (.int p4), .val (.int ((p1.toUInt32 >>> ((0 : Int32) &&& 31).toUInt32).toInt32)), .unset, .unset, .unset] [(.int (0 : Int32))])) _
      exact kt)
    obtain ⟨frs, hr, hrun, hended, hW, hsame⟩ := X4.leave (v := some (.int (0 : Int32))) (fun h => by rw [Bd.returns] at h; cases h)
    refine ⟨_, _, cn5 _ ?_, hrun, hended, _, _, rfl, ?_, ⟨_, rfl⟩, hW, hsame.mono (by decide) (by decide)⟩
    · exact retN X4 hx (t := .boolean) Bd.returns (by simp) (hb hby d4_64) hr
    · show QT Z a AA1 AA2 AA3 AA4 kA1 kA2 kA3 kA4 1 h0 n0 _ T4.heap _
      exact ⟨_, _, _, _, _, rc + 1, ft + mq, 0, rfl, N4, KK4, ⟨E_a_4, FfirstTransitions_4, FrowCount_4, Fsuccessors_4, Fprobabilities_4, FexactProbabilities_4, FtransitionCount_4, FsortKeys_4, AF1_4, AF2_4, AF3_4, AF4_4⟩, by omega, by omega, own_upd_eq _ _ _, H2q4, H3q4.mono (Nat.le_trans (Nat.mul_le_mul_left (8 * 5 ^ 0) (show c + 1 ≤ 5 by omega)) (Nat.le_of_eq (own_p1 0))), Or.inr ⟨rfl, rfl⟩⟩
  · have cn6 := fun (t : State) (kt : Steps p.tables e below (s₁.setTop (mkF m 18 #[.val (.ref a), .val (.int p1), .val (.int (0 : Int32)), .val (.int p2), .val (.int p3), .val (.int p4), .val (.int ((p1.toUInt32 >>> ((0 : Int32) &&& 31).toUInt32).toInt32)), .unset, .unset, .unset] [(.int (((p1.toUInt32 >>> ((0 : Int32) &&& 31).toUInt32).toInt32) &&& (2 : Int32)))])) t) => cn1 t (by
      refine XS.ifNo X0.here hx rfl (hb hby d4_11) rfl ((if0 _ _).trans (feq hc11_2).1) ?_
      show Steps p.tables e below (s₁.setTop (mkF m 14 #[.val (.ref a), .val (.int p1), .val (.int (0 : Int32)), .val (.int p2), .val (.int p3), .val (.int p4), .val (.int ((p1.toUInt32 >>> ((0 : Int32) &&& 31).toUInt32).toInt32)), .unset, .unset, .unset] [])) _
      refine XS.iload X0.here hx rfl (hb hby d4_14) rfl ?_
      show Steps p.tables e below (s₁.setTop (mkF m 16 #[.val (.ref a), .val (.int p1), .val (.int (0 : Int32)), .val (.int p2), .val (.int p3), .val (.int p4), .val (.int ((p1.toUInt32 >>> ((0 : Int32) &&& 31).toUInt32).toInt32)), .unset, .unset, .unset] [(.int ((p1.toUInt32 >>> ((0 : Int32) &&& 31).toUInt32).toInt32))])) _
      refine XS.iconst X0.here hx rfl (hb hby d4_16) ?_
      show Steps p.tables e below (s₁.setTop (mkF m 17 #[.val (.ref a), .val (.int p1), .val (.int (0 : Int32)), .val (.int p2), .val (.int p3), .val (.int p4), .val (.int ((p1.toUInt32 >>> ((0 : Int32) &&& 31).toUInt32).toInt32)), .unset, .unset, .unset] [(.int (2 : Int32)), (.int ((p1.toUInt32 >>> ((0 : Int32) &&& 31).toUInt32).toInt32))])) _
      refine XS.iand X0.here hx rfl (hb hby d4_17) rfl ?_
      show Steps p.tables e below (s₁.setTop (mkF m 18 #[.val (.ref a), .val (.int p1), .val (.int (0 : Int32)), .val (.int p2), .val (.int p3), .val (.int p4), .val (.int ((p1.toUInt32 >>> ((0 : Int32) &&& 31).toUInt32).toInt32)), .unset, .unset, .unset] [(.int (((p1.toUInt32 >>> ((0 : Int32) &&& 31).toUInt32).toInt32) &&& (2 : Int32)))])) _
      exact kt)
    by_cases hc18_7 : (((p1.toUInt32 >>> ((0 : Int32) &&& 31).toUInt32).toInt32) &&& (2 : Int32)) = (0 : Int32)
    · have cn8 := fun (t : State) (kt : Steps p.tables e below (s₁.setTop (mkF m 47 #[.val (.ref a), .val (.int p1), .val (.int (0 : Int32)), .val (.int p2), .val (.int p3), .val (.int p4), .val (.int ((p1.toUInt32 >>> ((0 : Int32) &&& 31).toUInt32).toInt32)), .val (.int (p3 &&& (2147483647 : Int32))), .unset, .unset] [(.double (FP.l2d (((((p4.toUInt32 >>> ((0 : Int32) &&& 31).toUInt32).toInt32) &&& (7 : Int32)) + (1 : Int32))).toInt64))])) t) => cn6 t (by
        refine XS.ifYes X0.here hx rfl (pc0 := 18) (pc' := 28) rfl (hb hby d4_18) rfl ((if0 _ _).trans (teq hc18_7).1) (by decide) (by decide) ?_
        show Steps p.tables e below (s₁.setTop (mkF m 28 #[.val (.ref a), .val (.int p1), .val (.int (0 : Int32)), .val (.int p2), .val (.int p3), .val (.int p4), .val (.int ((p1.toUInt32 >>> ((0 : Int32) &&& 31).toUInt32).toInt32)), .unset, .unset, .unset] [])) _
        refine XS.iload X0.here hx rfl (hb hby d4_28) rfl ?_
        show Steps p.tables e below (s₁.setTop (mkF m 30 #[.val (.ref a), .val (.int p1), .val (.int (0 : Int32)), .val (.int p2), .val (.int p3), .val (.int p4), .val (.int ((p1.toUInt32 >>> ((0 : Int32) &&& 31).toUInt32).toInt32)), .unset, .unset, .unset] [(.int p3)])) _
        refine X0.ldcInt hx hown (mvT hZ (hw _ (List.mem_of_getElem? (i := 78) rfl))) (g := (mkF m 30 #[.val (.ref a), .val (.int p1), .val (.int (0 : Int32)), .val (.int p2), .val (.int p3), .val (.int p4), .val (.int ((p1.toUInt32 >>> ((0 : Int32) &&& 31).toUInt32).toInt32)), .unset, .unset, .unset] [(.int p3)])) rfl (hb hby d4_30) _ ?_
        show Steps p.tables e below (s₁.setTop (mkF m 32 #[.val (.ref a), .val (.int p1), .val (.int (0 : Int32)), .val (.int p2), .val (.int p3), .val (.int p4), .val (.int ((p1.toUInt32 >>> ((0 : Int32) &&& 31).toUInt32).toInt32)), .unset, .unset, .unset] [(.int (2147483647 : Int32)), (.int p3)])) _
        refine XS.iand X0.here hx rfl (hb hby d4_32) rfl ?_
        show Steps p.tables e below (s₁.setTop (mkF m 33 #[.val (.ref a), .val (.int p1), .val (.int (0 : Int32)), .val (.int p2), .val (.int p3), .val (.int p4), .val (.int ((p1.toUInt32 >>> ((0 : Int32) &&& 31).toUInt32).toInt32)), .unset, .unset, .unset] [(.int (p3 &&& (2147483647 : Int32)))])) _
        refine XS.istore X0.here hx rfl (hb hby d4_33) rfl (l' := #[.val (.ref a), .val (.int p1), .val (.int (0 : Int32)), .val (.int p2), .val (.int p3), .val (.int p4), .val (.int ((p1.toUInt32 >>> ((0 : Int32) &&& 31).toUInt32).toInt32)), .val (.int (p3 &&& (2147483647 : Int32))), .unset, .unset]) rfl ?_
        show Steps p.tables e below (s₁.setTop (mkF m 35 #[.val (.ref a), .val (.int p1), .val (.int (0 : Int32)), .val (.int p2), .val (.int p3), .val (.int p4), .val (.int ((p1.toUInt32 >>> ((0 : Int32) &&& 31).toUInt32).toInt32)), .val (.int (p3 &&& (2147483647 : Int32))), .unset, .unset] [])) _
        refine XS.iload X0.here hx rfl (hb hby d4_35) rfl ?_
        show Steps p.tables e below (s₁.setTop (mkF m 37 #[.val (.ref a), .val (.int p1), .val (.int (0 : Int32)), .val (.int p2), .val (.int p3), .val (.int p4), .val (.int ((p1.toUInt32 >>> ((0 : Int32) &&& 31).toUInt32).toInt32)), .val (.int (p3 &&& (2147483647 : Int32))), .unset, .unset] [(.int p4)])) _
        refine XS.iconst X0.here hx rfl (hb hby d4_37) ?_
        show Steps p.tables e below (s₁.setTop (mkF m 38 #[.val (.ref a), .val (.int p1), .val (.int (0 : Int32)), .val (.int p2), .val (.int p3), .val (.int p4), .val (.int ((p1.toUInt32 >>> ((0 : Int32) &&& 31).toUInt32).toInt32)), .val (.int (p3 &&& (2147483647 : Int32))), .unset, .unset] [(.int (3 : Int32)), (.int p4)])) _
        refine XS.iloadN X0.here hx rfl (hb hby d4_38) rfl ?_
        show Steps p.tables e below (s₁.setTop (mkF m 39 #[.val (.ref a), .val (.int p1), .val (.int (0 : Int32)), .val (.int p2), .val (.int p3), .val (.int p4), .val (.int ((p1.toUInt32 >>> ((0 : Int32) &&& 31).toUInt32).toInt32)), .val (.int (p3 &&& (2147483647 : Int32))), .unset, .unset] [(.int (0 : Int32)), (.int (3 : Int32)), (.int p4)])) _
        refine XS.imul X0.here hx rfl (hb hby d4_39) rfl ?_
        show Steps p.tables e below (s₁.setTop (mkF m 40 #[.val (.ref a), .val (.int p1), .val (.int (0 : Int32)), .val (.int p2), .val (.int p3), .val (.int p4), .val (.int ((p1.toUInt32 >>> ((0 : Int32) &&& 31).toUInt32).toInt32)), .val (.int (p3 &&& (2147483647 : Int32))), .unset, .unset] [(.int (0 : Int32)), (.int p4)])) _
        refine XS.iushr X0.here hx rfl (hb hby d4_40) rfl ?_
        show Steps p.tables e below (s₁.setTop (mkF m 41 #[.val (.ref a), .val (.int p1), .val (.int (0 : Int32)), .val (.int p2), .val (.int p3), .val (.int p4), .val (.int ((p1.toUInt32 >>> ((0 : Int32) &&& 31).toUInt32).toInt32)), .val (.int (p3 &&& (2147483647 : Int32))), .unset, .unset] [(.int ((p4.toUInt32 >>> ((0 : Int32) &&& 31).toUInt32).toInt32))])) _
        refine XS.bipush X0.here hx rfl (hb hby d4_41) ?_
        show Steps p.tables e below (s₁.setTop (mkF m 43 #[.val (.ref a), .val (.int p1), .val (.int (0 : Int32)), .val (.int p2), .val (.int p3), .val (.int p4), .val (.int ((p1.toUInt32 >>> ((0 : Int32) &&& 31).toUInt32).toInt32)), .val (.int (p3 &&& (2147483647 : Int32))), .unset, .unset] [(.int (7 : Int32)), (.int ((p4.toUInt32 >>> ((0 : Int32) &&& 31).toUInt32).toInt32))])) _
        refine XS.iand X0.here hx rfl (hb hby d4_43) rfl ?_
        show Steps p.tables e below (s₁.setTop (mkF m 44 #[.val (.ref a), .val (.int p1), .val (.int (0 : Int32)), .val (.int p2), .val (.int p3), .val (.int p4), .val (.int ((p1.toUInt32 >>> ((0 : Int32) &&& 31).toUInt32).toInt32)), .val (.int (p3 &&& (2147483647 : Int32))), .unset, .unset] [(.int (((p4.toUInt32 >>> ((0 : Int32) &&& 31).toUInt32).toInt32) &&& (7 : Int32)))])) _
        refine XS.iconst X0.here hx rfl (hb hby d4_44) ?_
        show Steps p.tables e below (s₁.setTop (mkF m 45 #[.val (.ref a), .val (.int p1), .val (.int (0 : Int32)), .val (.int p2), .val (.int p3), .val (.int p4), .val (.int ((p1.toUInt32 >>> ((0 : Int32) &&& 31).toUInt32).toInt32)), .val (.int (p3 &&& (2147483647 : Int32))), .unset, .unset] [(.int (1 : Int32)), (.int (((p4.toUInt32 >>> ((0 : Int32) &&& 31).toUInt32).toInt32) &&& (7 : Int32)))])) _
        refine XS.iadd X0.here hx rfl (hb hby d4_45) rfl ?_
        show Steps p.tables e below (s₁.setTop (mkF m 46 #[.val (.ref a), .val (.int p1), .val (.int (0 : Int32)), .val (.int p2), .val (.int p3), .val (.int p4), .val (.int ((p1.toUInt32 >>> ((0 : Int32) &&& 31).toUInt32).toInt32)), .val (.int (p3 &&& (2147483647 : Int32))), .unset, .unset] [(.int ((((p4.toUInt32 >>> ((0 : Int32) &&& 31).toUInt32).toInt32) &&& (7 : Int32)) + (1 : Int32)))])) _
        refine XS.i2dS X0.here hx rfl (hb hby d4_46) rfl (v := (FP.l2d (((((p4.toUInt32 >>> ((0 : Int32) &&& 31).toUInt32).toInt32) &&& (7 : Int32)) + (1 : Int32))).toInt64)) (i2d_w _) ?_
        show Steps p.tables e below (s₁.setTop (mkF m 47 #[.val (.ref a), .val (.int p1), .val (.int (0 : Int32)), .val (.int p2), .val (.int p3), .val (.int p4), .val (.int ((p1.toUInt32 >>> ((0 : Int32) &&& 31).toUInt32).toInt32)), .val (.int (p3 &&& (2147483647 : Int32))), .unset, .unset] [(.double (FP.l2d (((((p4.toUInt32 >>> ((0 : Int32) &&& 31).toUInt32).toInt32) &&& (7 : Int32)) + (1 : Int32))).toInt64))])) _
        exact kt)
      obtain ⟨dvv, hdv, cn9⟩ : ∃ dvv : UInt64, (∃ v8 : Int64, dvv = FP.l2d v8 ∧ 1 ≤ v8.toInt ∧ v8.toInt ≤ 8) ∧ ∀ t, Steps p.tables e below (s₁.setTop (mkF m 47 #[.val (.ref a), .val (.int p1), .val (.int (0 : Int32)), .val (.int p2), .val (.int p3), .val (.int p4), .val (.int ((p1.toUInt32 >>> ((0 : Int32) &&& 31).toUInt32).toInt32)), .val (.int (p3 &&& (2147483647 : Int32))), .unset, .unset] [(.double dvv)])) t → Steps p.tables e below (s₁.setTop (entryFrame m #[(.ref a), (.int p1), (.int (0 : Int32)), (.int p2), (.int p3), (.int p4)] 10)) t := ⟨(FP.l2d (((((p4.toUInt32 >>> ((0 : Int32) &&& 31).toUInt32).toInt32) &&& (7 : Int32)) + (1 : Int32))).toInt64), ⟨_, rfl, own_x8 _⟩, cn8⟩
      obtain ⟨v8, rfl, hv8⟩ := hdv
      have cn10 := fun (t : State) (kt : Steps p.tables e below (s₁.setTop (mkF m 54 #[.val (.ref a), .val (.int p1), .val (.int (0 : Int32)), .val (.int p2), .val (.int p3), .val (.int p4), .val (.int ((p1.toUInt32 >>> ((0 : Int32) &&& 31).toUInt32).toInt32)), .val (.int (p3 &&& (2147483647 : Int32))), .val (.double (FP.l2d v8)), .second] [(.double (FP.l2d v8)), (.int (p3 &&& (2147483647 : Int32))), (.ref a)])) t) => cn9 t (by
        refine XS.dstore X0.here hx rfl (hb hby d4_47) rfl (l' := #[.val (.ref a), .val (.int p1), .val (.int (0 : Int32)), .val (.int p2), .val (.int p3), .val (.int p4), .val (.int ((p1.toUInt32 >>> ((0 : Int32) &&& 31).toUInt32).toInt32)), .val (.int (p3 &&& (2147483647 : Int32))), .val (.double (FP.l2d v8)), .second]) rfl ?_
        show Steps p.tables e below (s₁.setTop (mkF m 49 #[.val (.ref a), .val (.int p1), .val (.int (0 : Int32)), .val (.int p2), .val (.int p3), .val (.int p4), .val (.int ((p1.toUInt32 >>> ((0 : Int32) &&& 31).toUInt32).toInt32)), .val (.int (p3 &&& (2147483647 : Int32))), .val (.double (FP.l2d v8)), .second] [])) _
        refine XS.aloadN X0.here hx rfl (hb hby d4_49) rfl rfl ?_
        show Steps p.tables e below (s₁.setTop (mkF m 50 #[.val (.ref a), .val (.int p1), .val (.int (0 : Int32)), .val (.int p2), .val (.int p3), .val (.int p4), .val (.int ((p1.toUInt32 >>> ((0 : Int32) &&& 31).toUInt32).toInt32)), .val (.int (p3 &&& (2147483647 : Int32))), .val (.double (FP.l2d v8)), .second] [(.ref a)])) _
        refine XS.iload X0.here hx rfl (hb hby d4_50) rfl ?_
        show Steps p.tables e below (s₁.setTop (mkF m 52 #[.val (.ref a), .val (.int p1), .val (.int (0 : Int32)), .val (.int p2), .val (.int p3), .val (.int p4), .val (.int ((p1.toUInt32 >>> ((0 : Int32) &&& 31).toUInt32).toInt32)), .val (.int (p3 &&& (2147483647 : Int32))), .val (.double (FP.l2d v8)), .second] [(.int (p3 &&& (2147483647 : Int32))), (.ref a)])) _
        refine XS.dload X0.here hx rfl (hb hby d4_52) rfl ?_
        show Steps p.tables e below (s₁.setTop (mkF m 54 #[.val (.ref a), .val (.int p1), .val (.int (0 : Int32)), .val (.int p2), .val (.int p3), .val (.int p4), .val (.int ((p1.toUInt32 >>> ((0 : Int32) &&& 31).toUInt32).toInt32)), .val (.int (p3 &&& (2147483647 : Int32))), .val (.double (FP.l2d v8)), .second] [(.double (FP.l2d v8)), (.int (p3 &&& (2147483647 : Int32))), (.ref a)])) _
        exact kt)
      obtain ⟨cq11, kq11, q11a, q11b, q11c⟩ := isOf hZ e0 E_a
      obtain ⟨_, _, ⟨T11, L11, k11, n11⟩, -, X11, ⟨Lc11, hQ11, l11, y11, z11⟩, st11⟩ := X0.virtualBack hx (y := (⟨"com/example/probver/probver/model/TransitionRows", "add", "(ID)V"⟩ : MethodName)) (z := (⟨"com/example/probver/probver/model/TransitionRows", "add", "(ID)V"⟩ : MethodName)) hown (mvT hZ (hw _ (List.mem_of_getElem? (i := 79) rfl))) (mvT hZ (hw _ (List.mem_of_getElem? (i := 80) rfl))) (notFace_of_selects (args := #[]) (mvT hZ (hw _ (List.mem_of_getElem? (i := 82) rfl)))) (mvT hZ (hw _ (List.mem_of_getElem? (i := 82) rfl))) (mvT hZ (hw _ (List.mem_of_getElem? (i := 81) rfl))) (by decide) (backOf (W := 0) (rm16 l Z a0 hw [] a AA1 AA2 AA3 AA4 kA1 kA2 kA3 kA4 f1 f2 f3 f4 rc (ft + c) (p3 &&& (2147483647 : Int32)) (FP.l2d v8) h0 n0 O0 TNh ⟨E_a, FfirstTransitions, FrowCount, Fsuccessors, Fprobabilities, FexactProbabilities, FtransitionCount, FsortKeys, AF1, AF2, AF3, AF4⟩ (by omega) (own_pos _) (own_dl hv8.1 hv8.2) own_dg) hZ (hw _ (List.mem_of_getElem? (i := 83) rfl)) (hw _ (List.mem_of_getElem? (i := 2) rfl)) (by decide) (by decide)) q11a q11c (g := (mkF m 54 #[.val (.ref a), .val (.int p1), .val (.int (0 : Int32)), .val (.int p2), .val (.int p3), .val (.int p4), .val (.int ((p1.toUInt32 >>> ((0 : Int32) &&& 31).toUInt32).toInt32)), .val (.int (p3 &&& (2147483647 : Int32))), .val (.double (FP.l2d v8)), .second] [(.double (FP.l2d v8)), (.int (p3 &&& (2147483647 : Int32))), (.ref a)])) rfl (by rw [hml]; rfl) (Steps.refl _) (argsL := [(.int (p3 &&& (2147483647 : Int32))), (.double (FP.l2d v8))]) (rest := []) (lenOf pd_1 rfl) rfl (by show 2 * 0 + _ ≤ _; exact Nat.le_of_eq rfl) (hb hby d4_54) (fun _ _ => ⟨rfl, e0, (by decide : 0 + 0 ≤ _), (by decide : 0 + 0 ≤ _)⟩)
      dsimp only [Pt.U, Pt.locs, Pt.cells, Pt.slots] at X11 l11 y11 z11 st11 hQ11
      subst l11 y11 z11
      obtain ⟨rfl, Nq11, Kq11, Bq11⟩ := hQ11
      have N11 := Fr.app N0 Nq11
      obtain ⟨E_a_11, FfirstTransitions_11, FrowCount_11, Fsuccessors_11, Fprobabilities_11, FexactProbabilities_11, FtransitionCount_11, FsortKeys_11, AF1_11, AF2_11, AF3_11, AF4_11⟩ := Bq11
      have K11 := Kq11
      have E_a_e11 := E_a.keep K11
      have AF1_e11 := AF1.keep K11 (ninS (Ne.symm ne_a_AA1) (ninS ne_AA1_AA2 (ninS ne_AA1_AA3 nin0)))
      have AF4_e11 := AF4.keep K11 (ninS (Ne.symm ne_a_AA4) (ninS (Ne.symm ne_AA2_AA4) (ninS (Ne.symm ne_AA3_AA4) nin0)))
      have O11 := O0.keep K11 (allS g_a (allS g_AA2 (allS g_AA3 all0)))
      have KK11 : Keep h0 T11.heap [a, AA1, AA2, AA3, AA4] := (Keep.refl h0 [a, AA1, AA2, AA3, AA4]).trans K11 (allS (Or.inl (List.mem_of_getElem? (i := 0) rfl)) (allS (Or.inl (List.mem_of_getElem? (i := 2) rfl)) (allS (Or.inl (List.mem_of_getElem? (i := 3) rfl)) all0)))
      have cn12 := fun (t : State) (kt : Steps p.tables e below (T11.setTop (mkF m 58 #[.val (.ref a), .val (.int p1), .val (.int (0 : Int32)), .val (.int p2), .val (.int p3), .val (.int p4), .val (.int ((p1.toUInt32 >>> ((0 : Int32) &&& 31).toUInt32).toInt32)), .val (.int (p3 &&& (2147483647 : Int32))), .val (.double (FP.l2d v8)), .second] [(.int (1 : Int32))])) t) => cn10 t (by
        refine st11.trans ?_
        show Steps p.tables e below (T11.setTop (mkF m 57 #[.val (.ref a), .val (.int p1), .val (.int (0 : Int32)), .val (.int p2), .val (.int p3), .val (.int p4), .val (.int ((p1.toUInt32 >>> ((0 : Int32) &&& 31).toUInt32).toInt32)), .val (.int (p3 &&& (2147483647 : Int32))), .val (.double (FP.l2d v8)), .second] [])) _
        refine XS.iconst X11.here hx rfl (hb hby d4_57) ?_
        show Steps p.tables e below (T11.setTop (mkF m 58 #[.val (.ref a), .val (.int p1), .val (.int (0 : Int32)), .val (.int p2), .val (.int p3), .val (.int p4), .val (.int ((p1.toUInt32 >>> ((0 : Int32) &&& 31).toUInt32).toInt32)), .val (.int (p3 &&& (2147483647 : Int32))), .val (.double (FP.l2d v8)), .second] [(.int (1 : Int32))])) _
        exact kt)
      obtain ⟨frs, hr, hrun, hended, hW, hsame⟩ := X11.leave (v := some (.int (1 : Int32))) (fun h => by rw [Bd.returns] at h; cases h)
      refine ⟨_, _, cn12 _ ?_, hrun, hended, _, _, rfl, ?_, ⟨_, rfl⟩, hW, hsame.mono (by decide) (by decide)⟩
      · exact retN X11 hx (t := .boolean) Bd.returns (by simp) (hb hby d4_58) hr
      · show QT Z a AA1 AA2 AA3 AA4 kA1 kA2 kA3 kA4 1 h0 n0 _ T11.heap _
        exact ⟨_, _, _, _, _, rc, ft, c + 1, rfl, N11, KK11, ⟨E_a_11, FfirstTransitions_11, FrowCount_11, Fsuccessors_11, Fprobabilities_11, FexactProbabilities_11, FtransitionCount_11, FsortKeys_11, AF1_11, AF2_11, AF3_11, AF4_11⟩, by omega, by omega, hft, H2.upd _ _, (HT.mono (by rw [← own_p1]; omega)).upd _ (by omega) (by have := own_p8 (0 + 1); omega), Or.inl ⟨rfl, Nat.succ_pos c⟩⟩
    · have cn13 := fun (t : State) (kt : Steps p.tables e below (s₁.setTop (mkF m 47 #[.val (.ref a), .val (.int p1), .val (.int (0 : Int32)), .val (.int p2), .val (.int p3), .val (.int p4), .val (.int ((p1.toUInt32 >>> ((0 : Int32) &&& 31).toUInt32).toInt32)), .val (.int (p2 &&& (2147483647 : Int32))), .unset, .unset] [(.double (FP.l2d (((((p4.toUInt32 >>> ((0 : Int32) &&& 31).toUInt32).toInt32) &&& (7 : Int32)) + (1 : Int32))).toInt64))])) t) => cn6 t (by
        refine XS.ifNo X0.here hx rfl (hb hby d4_18) rfl ((if0 _ _).trans (feq hc18_7).1) ?_
        show Steps p.tables e below (s₁.setTop (mkF m 21 #[.val (.ref a), .val (.int p1), .val (.int (0 : Int32)), .val (.int p2), .val (.int p3), .val (.int p4), .val (.int ((p1.toUInt32 >>> ((0 : Int32) &&& 31).toUInt32).toInt32)), .unset, .unset, .unset] [])) _
        refine XS.iloadN X0.here hx rfl (hb hby d4_21) rfl ?_
        show Steps p.tables e below (s₁.setTop (mkF m 22 #[.val (.ref a), .val (.int p1), .val (.int (0 : Int32)), .val (.int p2), .val (.int p3), .val (.int p4), .val (.int ((p1.toUInt32 >>> ((0 : Int32) &&& 31).toUInt32).toInt32)), .unset, .unset, .unset] [(.int p2)])) _
        refine X0.ldcInt hx hown (mvT hZ (hw _ (List.mem_of_getElem? (i := 78) rfl))) (g := (mkF m 22 #[.val (.ref a), .val (.int p1), .val (.int (0 : Int32)), .val (.int p2), .val (.int p3), .val (.int p4), .val (.int ((p1.toUInt32 >>> ((0 : Int32) &&& 31).toUInt32).toInt32)), .unset, .unset, .unset] [(.int p2)])) rfl (hb hby d4_22) _ ?_
        show Steps p.tables e below (s₁.setTop (mkF m 24 #[.val (.ref a), .val (.int p1), .val (.int (0 : Int32)), .val (.int p2), .val (.int p3), .val (.int p4), .val (.int ((p1.toUInt32 >>> ((0 : Int32) &&& 31).toUInt32).toInt32)), .unset, .unset, .unset] [(.int (2147483647 : Int32)), (.int p2)])) _
        refine XS.iand X0.here hx rfl (hb hby d4_24) rfl ?_
        show Steps p.tables e below (s₁.setTop (mkF m 25 #[.val (.ref a), .val (.int p1), .val (.int (0 : Int32)), .val (.int p2), .val (.int p3), .val (.int p4), .val (.int ((p1.toUInt32 >>> ((0 : Int32) &&& 31).toUInt32).toInt32)), .unset, .unset, .unset] [(.int (p2 &&& (2147483647 : Int32)))])) _
        refine XS.goto X0.here hx rfl (pc0 := 25) (pc' := 33) rfl (hb hby d4_25) (by decide) (by decide) ?_
        show Steps p.tables e below (s₁.setTop (mkF m 33 #[.val (.ref a), .val (.int p1), .val (.int (0 : Int32)), .val (.int p2), .val (.int p3), .val (.int p4), .val (.int ((p1.toUInt32 >>> ((0 : Int32) &&& 31).toUInt32).toInt32)), .unset, .unset, .unset] [(.int (p2 &&& (2147483647 : Int32)))])) _
        refine XS.istore X0.here hx rfl (hb hby d4_33) rfl (l' := #[.val (.ref a), .val (.int p1), .val (.int (0 : Int32)), .val (.int p2), .val (.int p3), .val (.int p4), .val (.int ((p1.toUInt32 >>> ((0 : Int32) &&& 31).toUInt32).toInt32)), .val (.int (p2 &&& (2147483647 : Int32))), .unset, .unset]) rfl ?_
        show Steps p.tables e below (s₁.setTop (mkF m 35 #[.val (.ref a), .val (.int p1), .val (.int (0 : Int32)), .val (.int p2), .val (.int p3), .val (.int p4), .val (.int ((p1.toUInt32 >>> ((0 : Int32) &&& 31).toUInt32).toInt32)), .val (.int (p2 &&& (2147483647 : Int32))), .unset, .unset] [])) _
        refine XS.iload X0.here hx rfl (hb hby d4_35) rfl ?_
        show Steps p.tables e below (s₁.setTop (mkF m 37 #[.val (.ref a), .val (.int p1), .val (.int (0 : Int32)), .val (.int p2), .val (.int p3), .val (.int p4), .val (.int ((p1.toUInt32 >>> ((0 : Int32) &&& 31).toUInt32).toInt32)), .val (.int (p2 &&& (2147483647 : Int32))), .unset, .unset] [(.int p4)])) _
        refine XS.iconst X0.here hx rfl (hb hby d4_37) ?_
        show Steps p.tables e below (s₁.setTop (mkF m 38 #[.val (.ref a), .val (.int p1), .val (.int (0 : Int32)), .val (.int p2), .val (.int p3), .val (.int p4), .val (.int ((p1.toUInt32 >>> ((0 : Int32) &&& 31).toUInt32).toInt32)), .val (.int (p2 &&& (2147483647 : Int32))), .unset, .unset] [(.int (3 : Int32)), (.int p4)])) _
        refine XS.iloadN X0.here hx rfl (hb hby d4_38) rfl ?_
        show Steps p.tables e below (s₁.setTop (mkF m 39 #[.val (.ref a), .val (.int p1), .val (.int (0 : Int32)), .val (.int p2), .val (.int p3), .val (.int p4), .val (.int ((p1.toUInt32 >>> ((0 : Int32) &&& 31).toUInt32).toInt32)), .val (.int (p2 &&& (2147483647 : Int32))), .unset, .unset] [(.int (0 : Int32)), (.int (3 : Int32)), (.int p4)])) _
        refine XS.imul X0.here hx rfl (hb hby d4_39) rfl ?_
        show Steps p.tables e below (s₁.setTop (mkF m 40 #[.val (.ref a), .val (.int p1), .val (.int (0 : Int32)), .val (.int p2), .val (.int p3), .val (.int p4), .val (.int ((p1.toUInt32 >>> ((0 : Int32) &&& 31).toUInt32).toInt32)), .val (.int (p2 &&& (2147483647 : Int32))), .unset, .unset] [(.int (0 : Int32)), (.int p4)])) _
        refine XS.iushr X0.here hx rfl (hb hby d4_40) rfl ?_
        show Steps p.tables e below (s₁.setTop (mkF m 41 #[.val (.ref a), .val (.int p1), .val (.int (0 : Int32)), .val (.int p2), .val (.int p3), .val (.int p4), .val (.int ((p1.toUInt32 >>> ((0 : Int32) &&& 31).toUInt32).toInt32)), .val (.int (p2 &&& (2147483647 : Int32))), .unset, .unset] [(.int ((p4.toUInt32 >>> ((0 : Int32) &&& 31).toUInt32).toInt32))])) _
        refine XS.bipush X0.here hx rfl (hb hby d4_41) ?_
        show Steps p.tables e below (s₁.setTop (mkF m 43 #[.val (.ref a), .val (.int p1), .val (.int (0 : Int32)), .val (.int p2), .val (.int p3), .val (.int p4), .val (.int ((p1.toUInt32 >>> ((0 : Int32) &&& 31).toUInt32).toInt32)), .val (.int (p2 &&& (2147483647 : Int32))), .unset, .unset] [(.int (7 : Int32)), (.int ((p4.toUInt32 >>> ((0 : Int32) &&& 31).toUInt32).toInt32))])) _
        refine XS.iand X0.here hx rfl (hb hby d4_43) rfl ?_
        show Steps p.tables e below (s₁.setTop (mkF m 44 #[.val (.ref a), .val (.int p1), .val (.int (0 : Int32)), .val (.int p2), .val (.int p3), .val (.int p4), .val (.int ((p1.toUInt32 >>> ((0 : Int32) &&& 31).toUInt32).toInt32)), .val (.int (p2 &&& (2147483647 : Int32))), .unset, .unset] [(.int (((p4.toUInt32 >>> ((0 : Int32) &&& 31).toUInt32).toInt32) &&& (7 : Int32)))])) _
        refine XS.iconst X0.here hx rfl (hb hby d4_44) ?_
        show Steps p.tables e below (s₁.setTop (mkF m 45 #[.val (.ref a), .val (.int p1), .val (.int (0 : Int32)), .val (.int p2), .val (.int p3), .val (.int p4), .val (.int ((p1.toUInt32 >>> ((0 : Int32) &&& 31).toUInt32).toInt32)), .val (.int (p2 &&& (2147483647 : Int32))), .unset, .unset] [(.int (1 : Int32)), (.int (((p4.toUInt32 >>> ((0 : Int32) &&& 31).toUInt32).toInt32) &&& (7 : Int32)))])) _
        refine XS.iadd X0.here hx rfl (hb hby d4_45) rfl ?_
        show Steps p.tables e below (s₁.setTop (mkF m 46 #[.val (.ref a), .val (.int p1), .val (.int (0 : Int32)), .val (.int p2), .val (.int p3), .val (.int p4), .val (.int ((p1.toUInt32 >>> ((0 : Int32) &&& 31).toUInt32).toInt32)), .val (.int (p2 &&& (2147483647 : Int32))), .unset, .unset] [(.int ((((p4.toUInt32 >>> ((0 : Int32) &&& 31).toUInt32).toInt32) &&& (7 : Int32)) + (1 : Int32)))])) _
        refine XS.i2dS X0.here hx rfl (hb hby d4_46) rfl (v := (FP.l2d (((((p4.toUInt32 >>> ((0 : Int32) &&& 31).toUInt32).toInt32) &&& (7 : Int32)) + (1 : Int32))).toInt64)) (i2d_w _) ?_
        show Steps p.tables e below (s₁.setTop (mkF m 47 #[.val (.ref a), .val (.int p1), .val (.int (0 : Int32)), .val (.int p2), .val (.int p3), .val (.int p4), .val (.int ((p1.toUInt32 >>> ((0 : Int32) &&& 31).toUInt32).toInt32)), .val (.int (p2 &&& (2147483647 : Int32))), .unset, .unset] [(.double (FP.l2d (((((p4.toUInt32 >>> ((0 : Int32) &&& 31).toUInt32).toInt32) &&& (7 : Int32)) + (1 : Int32))).toInt64))])) _
        exact kt)
      obtain ⟨dvv, hdv, cn14⟩ : ∃ dvv : UInt64, (∃ v8 : Int64, dvv = FP.l2d v8 ∧ 1 ≤ v8.toInt ∧ v8.toInt ≤ 8) ∧ ∀ t, Steps p.tables e below (s₁.setTop (mkF m 47 #[.val (.ref a), .val (.int p1), .val (.int (0 : Int32)), .val (.int p2), .val (.int p3), .val (.int p4), .val (.int ((p1.toUInt32 >>> ((0 : Int32) &&& 31).toUInt32).toInt32)), .val (.int (p2 &&& (2147483647 : Int32))), .unset, .unset] [(.double dvv)])) t → Steps p.tables e below (s₁.setTop (entryFrame m #[(.ref a), (.int p1), (.int (0 : Int32)), (.int p2), (.int p3), (.int p4)] 10)) t := ⟨(FP.l2d (((((p4.toUInt32 >>> ((0 : Int32) &&& 31).toUInt32).toInt32) &&& (7 : Int32)) + (1 : Int32))).toInt64), ⟨_, rfl, own_x8 _⟩, cn13⟩
      obtain ⟨v8, rfl, hv8⟩ := hdv
      have cn15 := fun (t : State) (kt : Steps p.tables e below (s₁.setTop (mkF m 54 #[.val (.ref a), .val (.int p1), .val (.int (0 : Int32)), .val (.int p2), .val (.int p3), .val (.int p4), .val (.int ((p1.toUInt32 >>> ((0 : Int32) &&& 31).toUInt32).toInt32)), .val (.int (p2 &&& (2147483647 : Int32))), .val (.double (FP.l2d v8)), .second] [(.double (FP.l2d v8)), (.int (p2 &&& (2147483647 : Int32))), (.ref a)])) t) => cn14 t (by
        refine XS.dstore X0.here hx rfl (hb hby d4_47) rfl (l' := #[.val (.ref a), .val (.int p1), .val (.int (0 : Int32)), .val (.int p2), .val (.int p3), .val (.int p4), .val (.int ((p1.toUInt32 >>> ((0 : Int32) &&& 31).toUInt32).toInt32)), .val (.int (p2 &&& (2147483647 : Int32))), .val (.double (FP.l2d v8)), .second]) rfl ?_
        show Steps p.tables e below (s₁.setTop (mkF m 49 #[.val (.ref a), .val (.int p1), .val (.int (0 : Int32)), .val (.int p2), .val (.int p3), .val (.int p4), .val (.int ((p1.toUInt32 >>> ((0 : Int32) &&& 31).toUInt32).toInt32)), .val (.int (p2 &&& (2147483647 : Int32))), .val (.double (FP.l2d v8)), .second] [])) _
        refine XS.aloadN X0.here hx rfl (hb hby d4_49) rfl rfl ?_
        show Steps p.tables e below (s₁.setTop (mkF m 50 #[.val (.ref a), .val (.int p1), .val (.int (0 : Int32)), .val (.int p2), .val (.int p3), .val (.int p4), .val (.int ((p1.toUInt32 >>> ((0 : Int32) &&& 31).toUInt32).toInt32)), .val (.int (p2 &&& (2147483647 : Int32))), .val (.double (FP.l2d v8)), .second] [(.ref a)])) _
        refine XS.iload X0.here hx rfl (hb hby d4_50) rfl ?_
        show Steps p.tables e below (s₁.setTop (mkF m 52 #[.val (.ref a), .val (.int p1), .val (.int (0 : Int32)), .val (.int p2), .val (.int p3), .val (.int p4), .val (.int ((p1.toUInt32 >>> ((0 : Int32) &&& 31).toUInt32).toInt32)), .val (.int (p2 &&& (2147483647 : Int32))), .val (.double (FP.l2d v8)), .second] [(.int (p2 &&& (2147483647 : Int32))), (.ref a)])) _
        refine XS.dload X0.here hx rfl (hb hby d4_52) rfl ?_
        show Steps p.tables e below (s₁.setTop (mkF m 54 #[.val (.ref a), .val (.int p1), .val (.int (0 : Int32)), .val (.int p2), .val (.int p3), .val (.int p4), .val (.int ((p1.toUInt32 >>> ((0 : Int32) &&& 31).toUInt32).toInt32)), .val (.int (p2 &&& (2147483647 : Int32))), .val (.double (FP.l2d v8)), .second] [(.double (FP.l2d v8)), (.int (p2 &&& (2147483647 : Int32))), (.ref a)])) _
        exact kt)
      obtain ⟨cq16, kq16, q16a, q16b, q16c⟩ := isOf hZ e0 E_a
      obtain ⟨_, _, ⟨T16, L16, k16, n16⟩, -, X16, ⟨Lc16, hQ16, l16, y16, z16⟩, st16⟩ := X0.virtualBack hx (y := (⟨"com/example/probver/probver/model/TransitionRows", "add", "(ID)V"⟩ : MethodName)) (z := (⟨"com/example/probver/probver/model/TransitionRows", "add", "(ID)V"⟩ : MethodName)) hown (mvT hZ (hw _ (List.mem_of_getElem? (i := 79) rfl))) (mvT hZ (hw _ (List.mem_of_getElem? (i := 80) rfl))) (notFace_of_selects (args := #[]) (mvT hZ (hw _ (List.mem_of_getElem? (i := 82) rfl)))) (mvT hZ (hw _ (List.mem_of_getElem? (i := 82) rfl))) (mvT hZ (hw _ (List.mem_of_getElem? (i := 81) rfl))) (by decide) (backOf (W := 0) (rm16 l Z a0 hw [] a AA1 AA2 AA3 AA4 kA1 kA2 kA3 kA4 f1 f2 f3 f4 rc (ft + c) (p2 &&& (2147483647 : Int32)) (FP.l2d v8) h0 n0 O0 TNh ⟨E_a, FfirstTransitions, FrowCount, Fsuccessors, Fprobabilities, FexactProbabilities, FtransitionCount, FsortKeys, AF1, AF2, AF3, AF4⟩ (by omega) (own_pos _) (own_dl hv8.1 hv8.2) own_dg) hZ (hw _ (List.mem_of_getElem? (i := 83) rfl)) (hw _ (List.mem_of_getElem? (i := 2) rfl)) (by decide) (by decide)) q16a q16c (g := (mkF m 54 #[.val (.ref a), .val (.int p1), .val (.int (0 : Int32)), .val (.int p2), .val (.int p3), .val (.int p4), .val (.int ((p1.toUInt32 >>> ((0 : Int32) &&& 31).toUInt32).toInt32)), .val (.int (p2 &&& (2147483647 : Int32))), .val (.double (FP.l2d v8)), .second] [(.double (FP.l2d v8)), (.int (p2 &&& (2147483647 : Int32))), (.ref a)])) rfl (by rw [hml]; rfl) (Steps.refl _) (argsL := [(.int (p2 &&& (2147483647 : Int32))), (.double (FP.l2d v8))]) (rest := []) (lenOf pd_1 rfl) rfl (by show 2 * 0 + _ ≤ _; exact Nat.le_of_eq rfl) (hb hby d4_54) (fun _ _ => ⟨rfl, e0, (by decide : 0 + 0 ≤ _), (by decide : 0 + 0 ≤ _)⟩)
      dsimp only [Pt.U, Pt.locs, Pt.cells, Pt.slots] at X16 l16 y16 z16 st16 hQ16
      subst l16 y16 z16
      obtain ⟨rfl, Nq16, Kq16, Bq16⟩ := hQ16
      have N16 := Fr.app N0 Nq16
      obtain ⟨E_a_16, FfirstTransitions_16, FrowCount_16, Fsuccessors_16, Fprobabilities_16, FexactProbabilities_16, FtransitionCount_16, FsortKeys_16, AF1_16, AF2_16, AF3_16, AF4_16⟩ := Bq16
      have K16 := Kq16
      have E_a_e16 := E_a.keep K16
      have AF1_e16 := AF1.keep K16 (ninS (Ne.symm ne_a_AA1) (ninS ne_AA1_AA2 (ninS ne_AA1_AA3 nin0)))
      have AF4_e16 := AF4.keep K16 (ninS (Ne.symm ne_a_AA4) (ninS (Ne.symm ne_AA2_AA4) (ninS (Ne.symm ne_AA3_AA4) nin0)))
      have O16 := O0.keep K16 (allS g_a (allS g_AA2 (allS g_AA3 all0)))
      have KK16 : Keep h0 T16.heap [a, AA1, AA2, AA3, AA4] := (Keep.refl h0 [a, AA1, AA2, AA3, AA4]).trans K16 (allS (Or.inl (List.mem_of_getElem? (i := 0) rfl)) (allS (Or.inl (List.mem_of_getElem? (i := 2) rfl)) (allS (Or.inl (List.mem_of_getElem? (i := 3) rfl)) all0)))
      have cn17 := fun (t : State) (kt : Steps p.tables e below (T16.setTop (mkF m 58 #[.val (.ref a), .val (.int p1), .val (.int (0 : Int32)), .val (.int p2), .val (.int p3), .val (.int p4), .val (.int ((p1.toUInt32 >>> ((0 : Int32) &&& 31).toUInt32).toInt32)), .val (.int (p2 &&& (2147483647 : Int32))), .val (.double (FP.l2d v8)), .second] [(.int (1 : Int32))])) t) => cn15 t (by
        refine st16.trans ?_
        show Steps p.tables e below (T16.setTop (mkF m 57 #[.val (.ref a), .val (.int p1), .val (.int (0 : Int32)), .val (.int p2), .val (.int p3), .val (.int p4), .val (.int ((p1.toUInt32 >>> ((0 : Int32) &&& 31).toUInt32).toInt32)), .val (.int (p2 &&& (2147483647 : Int32))), .val (.double (FP.l2d v8)), .second] [])) _
        refine XS.iconst X16.here hx rfl (hb hby d4_57) ?_
        show Steps p.tables e below (T16.setTop (mkF m 58 #[.val (.ref a), .val (.int p1), .val (.int (0 : Int32)), .val (.int p2), .val (.int p3), .val (.int p4), .val (.int ((p1.toUInt32 >>> ((0 : Int32) &&& 31).toUInt32).toInt32)), .val (.int (p2 &&& (2147483647 : Int32))), .val (.double (FP.l2d v8)), .second] [(.int (1 : Int32))])) _
        exact kt)
      obtain ⟨frs, hr, hrun, hended, hW, hsame⟩ := X16.leave (v := some (.int (1 : Int32))) (fun h => by rw [Bd.returns] at h; cases h)
      refine ⟨_, _, cn17 _ ?_, hrun, hended, _, _, rfl, ?_, ⟨_, rfl⟩, hW, hsame.mono (by decide) (by decide)⟩
      · exact retN X16 hx (t := .boolean) Bd.returns (by simp) (hb hby d4_58) hr
      · show QT Z a AA1 AA2 AA3 AA4 kA1 kA2 kA3 kA4 1 h0 n0 _ T16.heap _
        exact ⟨_, _, _, _, _, rc, ft, c + 1, rfl, N16, KK16, ⟨E_a_16, FfirstTransitions_16, FrowCount_16, Fsuccessors_16, Fprobabilities_16, FexactProbabilities_16, FtransitionCount_16, FsortKeys_16, AF1_16, AF2_16, AF3_16, AF4_16⟩, by omega, by omega, hft, H2.upd _ _, (HT.mono (by rw [← own_p1]; omega)).upd _ (by omega) (by have := own_p8 (0 + 1); omega), Or.inl ⟨rfl, Nat.succ_pos c⟩⟩

theorem ef_T1 (m : MethodId) (x0 : Addr) (x1 : Int32) (x2 : Int32) (x3 : Int32) (x4 : Int32) (x5 : Int32) : entryFrame m #[(.ref x0), (.int x1), (.int x2), (.int x3), (.int x4), (.int x5)] 10 = mkF m 0 #[.val (.ref x0), .val (.int x1), .val (.int x2), .val (.int x3), .val (.int x4), .val (.int x5), .unset, .unset, .unset, .unset] [] := by first | (simp [entryFrame, mkF, argsToLocals, Value.category]; done) | rfl
set_option maxRecDepth 65536 in
set_option maxHeartbeats 40000000 in
theorem rmT1 (l : Launch) (Z : State) (a0 : Array Value) (hw : ∀ d ∈ tables_1, d.before a0 Z = true) (ws : List Jvm.Cond) (a AA1 AA2 AA3 AA4 : Addr) (kA1 kA2 kA3 kA4 : ClassId) (f1 f2 f3 f4 : Nat → Value) (rc ft c : Nat) (p1 p2 p3 p4 r : Int32) (h0 : Heap) (n0 : Nat) (O0 : Old Z n0 h0) (TNh : TN n0 a AA1 AA2 AA3 AA4) (I : INV Z h0 a AA1 AA2 AA3 AA4 kA1 kA2 kA3 kA4 1 r f1 f2 f3 f4 rc ft c) :
    MetFree l (⟨"com/example/probver/probver/model/TransitionRowsRowOpenPinLaw", "step", "(Lcom/example/probver/probver/model/TransitionRows;IIIII)Z"⟩ : MethodName) (head1 (Jvm.Cond.code (⟨"com/example/probver/probver/model/TransitionRowsRowOpenPinLaw", "step", "(Lcom/example/probver/probver/model/TransitionRows;IIIII)Z"⟩ : MethodName) method_2_code 10 (some .boolean) :: ws) ({ frames := 6, cells := 1, slots := 4, locals := 123 } : Room)) (fun aQ U => aQ = #[(.ref a), (.int p1), (.int (1 : Int32)), (.int p2), (.int p3), (.int p4)] ∧ Z.Warmed39 U.vm ∧ U.heap = h0) (fun _ _ _ _ _ => True) (fun _ U o U' => ∃ v L, o = .returned v ∧ QT Z a AA1 AA2 AA3 AA4 kA1 kA2 kA3 kA4 2 h0 n0 v U'.heap L ∧ FrameEnd U o U' L ({ frames := 6, cells := 1, slots := 4, locals := 123 } : Room).cells ({ frames := 6, cells := 1, slots := 4, locals := 123 } : Room).slots) := by
  refine MetFree.of_bodySF (plainFor_of_name pn_com_example_probver_probver_model_TransitionRowsRowOpenPinLaw) hisR ?_
  intro p e s m args below meth kode s₁ Bd hml0 hP hK
  obtain ⟨rfl, hZ, hh⟩ := hP
  have hx := Bd.exec
  have hby := Bd.bytes
  have hml : kode.maxLocals = 10 := hml0
  have hown : s.vm.findClass "com/example/probver/probver/model/TransitionRowsRowOpenPinLaw" = some m.cls := findClass_of_methodNamed Bd.named
  have hnm := (name_of_methodNamed Bd.named Bd.method).1
  have X0 : Stand p l e ({ frames := 6, cells := 1, slots := 4, locals := 123 } : Room) s m #[(.ref a), (.int p1), (.int (1 : Int32)), (.int p2), (.int p3), (.int p4)] below meth kode s₁ [] 0 0 := Stand.of_body Bd
  have e0 : s₁.heap = h0 := by rw [← hh, Bd.state]; rfl
  have N0 := Fr.nil n0
  have pre0 : ∀ t, Steps p.tables e below (s₁.setTop (mkF m 0 #[.val (.ref a), .val (.int p1), .val (.int (1 : Int32)), .val (.int p2), .val (.int p3), .val (.int p4), .unset, .unset, .unset, .unset] [])) t → Steps p.tables e below (s₁.setTop (entryFrame m #[(.ref a), (.int p1), (.int (1 : Int32)), (.int p2), (.int p3), (.int p4)] 10)) t := fun t k => castTop (ef_T1 m a p1 (1 : Int32) p2 p3 p4) k
  have TNx := TNh
  obtain ⟨⟨g_a, g_AA1, g_AA2, g_AA3, g_AA4⟩, ne_a_AA1, ne_a_AA2, ne_a_AA3, ne_a_AA4, ne_AA1_AA2, ne_AA1_AA3, ne_AA1_AA4, ne_AA2_AA3, ne_AA2_AA4, ne_AA3_AA4⟩ := TNx
  obtain ⟨B, hrc, hfci, hft, H2, HT, hor⟩ := I
  obtain ⟨E_a, FfirstTransitions, FrowCount, Fsuccessors, Fprobabilities, FexactProbabilities, FtransitionCount, FsortKeys, AF1, AF2, AF3, AF4⟩ := B
  have cn1 := fun (t : State) (kt : Steps p.tables e below (s₁.setTop (mkF m 11 #[.val (.ref a), .val (.int p1), .val (.int (1 : Int32)), .val (.int p2), .val (.int p3), .val (.int p4), .val (.int ((p1.toUInt32 >>> ((2 : Int32) &&& 31).toUInt32).toInt32)), .unset, .unset, .unset] [(.int (((p1.toUInt32 >>> ((2 : Int32) &&& 31).toUInt32).toInt32) &&& (1 : Int32)))])) t) => pre0 t (by
    refine XS.iloadN X0.here hx rfl (hb hby d4_0) rfl ?_
    show Steps p.tables e below (s₁.setTop (mkF m 1 #[.val (.ref a), .val (.int p1), .val (.int (1 : Int32)), .val (.int p2), .val (.int p3), .val (.int p4), .unset, .unset, .unset, .unset] [(.int p1)])) _
    refine XS.iconst X0.here hx rfl (hb hby d4_1) ?_
    show Steps p.tables e below (s₁.setTop (mkF m 2 #[.val (.ref a), .val (.int p1), .val (.int (1 : Int32)), .val (.int p2), .val (.int p3), .val (.int p4), .unset, .unset, .unset, .unset] [(.int (2 : Int32)), (.int p1)])) _
    refine XS.iloadN X0.here hx rfl (hb hby d4_2) rfl ?_
    show Steps p.tables e below (s₁.setTop (mkF m 3 #[.val (.ref a), .val (.int p1), .val (.int (1 : Int32)), .val (.int p2), .val (.int p3), .val (.int p4), .unset, .unset, .unset, .unset] [(.int (1 : Int32)), (.int (2 : Int32)), (.int p1)])) _
    refine XS.imul X0.here hx rfl (hb hby d4_3) rfl ?_
    show Steps p.tables e below (s₁.setTop (mkF m 4 #[.val (.ref a), .val (.int p1), .val (.int (1 : Int32)), .val (.int p2), .val (.int p3), .val (.int p4), .unset, .unset, .unset, .unset] [(.int (2 : Int32)), (.int p1)])) _
    refine XS.iushr X0.here hx rfl (hb hby d4_4) rfl ?_
    show Steps p.tables e below (s₁.setTop (mkF m 5 #[.val (.ref a), .val (.int p1), .val (.int (1 : Int32)), .val (.int p2), .val (.int p3), .val (.int p4), .unset, .unset, .unset, .unset] [(.int ((p1.toUInt32 >>> ((2 : Int32) &&& 31).toUInt32).toInt32))])) _
    refine XS.istore X0.here hx rfl (hb hby d4_5) rfl (l' := #[.val (.ref a), .val (.int p1), .val (.int (1 : Int32)), .val (.int p2), .val (.int p3), .val (.int p4), .val (.int ((p1.toUInt32 >>> ((2 : Int32) &&& 31).toUInt32).toInt32)), .unset, .unset, .unset]) rfl ?_
    show Steps p.tables e below (s₁.setTop (mkF m 7 #[.val (.ref a), .val (.int p1), .val (.int (1 : Int32)), .val (.int p2), .val (.int p3), .val (.int p4), .val (.int ((p1.toUInt32 >>> ((2 : Int32) &&& 31).toUInt32).toInt32)), .unset, .unset, .unset] [])) _
    refine XS.iload X0.here hx rfl (hb hby d4_7) rfl ?_
    show Steps p.tables e below (s₁.setTop (mkF m 9 #[.val (.ref a), .val (.int p1), .val (.int (1 : Int32)), .val (.int p2), .val (.int p3), .val (.int p4), .val (.int ((p1.toUInt32 >>> ((2 : Int32) &&& 31).toUInt32).toInt32)), .unset, .unset, .unset] [(.int ((p1.toUInt32 >>> ((2 : Int32) &&& 31).toUInt32).toInt32))])) _
    refine XS.iconst X0.here hx rfl (hb hby d4_9) ?_
    show Steps p.tables e below (s₁.setTop (mkF m 10 #[.val (.ref a), .val (.int p1), .val (.int (1 : Int32)), .val (.int p2), .val (.int p3), .val (.int p4), .val (.int ((p1.toUInt32 >>> ((2 : Int32) &&& 31).toUInt32).toInt32)), .unset, .unset, .unset] [(.int (1 : Int32)), (.int ((p1.toUInt32 >>> ((2 : Int32) &&& 31).toUInt32).toInt32))])) _
    refine XS.iand X0.here hx rfl (hb hby d4_10) rfl ?_
    show Steps p.tables e below (s₁.setTop (mkF m 11 #[.val (.ref a), .val (.int p1), .val (.int (1 : Int32)), .val (.int p2), .val (.int p3), .val (.int p4), .val (.int ((p1.toUInt32 >>> ((2 : Int32) &&& 31).toUInt32).toInt32)), .unset, .unset, .unset] [(.int (((p1.toUInt32 >>> ((2 : Int32) &&& 31).toUInt32).toInt32) &&& (1 : Int32)))])) _
    exact kt)
  by_cases hc11_2 : (((p1.toUInt32 >>> ((2 : Int32) &&& 31).toUInt32).toInt32) &&& (1 : Int32)) = (0 : Int32)
  · have cn3 := fun (t : State) (kt : Steps p.tables e below (s₁.setTop (mkF m 60 #[.val (.ref a), .val (.int p1), .val (.int (1 : Int32)), .val (.int p2), .val (.int p3), .val (.int p4), .val (.int ((p1.toUInt32 >>> ((2 : Int32) &&& 31).toUInt32).toInt32)), .unset, .unset, .unset] [(.ref a)])) t) => cn1 t (by
      refine XS.ifYes X0.here hx rfl (pc0 := 11) (pc' := 59) rfl (hb hby d4_11) rfl ((if0 _ _).trans (teq hc11_2).1) (by decide) (by decide) ?_
      show Steps p.tables e below (s₁.setTop (mkF m 59 #[.val (.ref a), .val (.int p1), .val (.int (1 : Int32)), .val (.int p2), .val (.int p3), .val (.int p4), .val (.int ((p1.toUInt32 >>> ((2 : Int32) &&& 31).toUInt32).toInt32)), .unset, .unset, .unset] [])) _
      refine XS.aloadN X0.here hx rfl (hb hby d4_59) rfl rfl ?_
      show Steps p.tables e below (s₁.setTop (mkF m 60 #[.val (.ref a), .val (.int p1), .val (.int (1 : Int32)), .val (.int p2), .val (.int p3), .val (.int p4), .val (.int ((p1.toUInt32 >>> ((2 : Int32) &&& 31).toUInt32).toInt32)), .unset, .unset, .unset] [(.ref a)])) _
      exact kt)
    obtain ⟨cq4, kq4, q4a, q4b, q4c⟩ := isOf hZ e0 E_a
    obtain ⟨_, _, ⟨T4, L4, k4, n4⟩, -, X4, ⟨Lc4, hQ4, l4, y4, z4⟩, st4⟩ := X0.virtualBack hx (y := (⟨"com/example/probver/probver/model/TransitionRows", "endRow", "()V"⟩ : MethodName)) (z := (⟨"com/example/probver/probver/model/TransitionRows", "endRow", "()V"⟩ : MethodName)) hown (mvT hZ (hw _ (List.mem_of_getElem? (i := 33) rfl))) (mvT hZ (hw _ (List.mem_of_getElem? (i := 34) rfl))) (notFace_of_selects (args := #[]) (mvT hZ (hw _ (List.mem_of_getElem? (i := 36) rfl)))) (mvT hZ (hw _ (List.mem_of_getElem? (i := 36) rfl))) (mvT hZ (hw _ (List.mem_of_getElem? (i := 35) rfl))) (by decide) (backOf (W := 0) (rm5 l Z a0 hw [] a AA1 AA2 AA3 AA4 kA1 kA2 kA3 kA4 f1 f2 f3 f4 rc ft c (8 * 5 ^ 1) h0 n0 O0 TNh ⟨E_a, FfirstTransitions, FrowCount, Fsuccessors, Fprobabilities, FexactProbabilities, FtransitionCount, FsortKeys, AF1, AF2, AF3, AF4⟩ (by omega) hft (by omega) (by omega) H2 HT (own_pw 1 (by omega))) hZ (hw _ (List.mem_of_getElem? (i := 37) rfl)) (hw _ (List.mem_of_getElem? (i := 2) rfl)) (by decide) (by decide)) q4a q4c (g := (mkF m 60 #[.val (.ref a), .val (.int p1), .val (.int (1 : Int32)), .val (.int p2), .val (.int p3), .val (.int p4), .val (.int ((p1.toUInt32 >>> ((2 : Int32) &&& 31).toUInt32).toInt32)), .unset, .unset, .unset] [(.ref a)])) rfl (by rw [hml]; rfl) (Steps.refl _) (argsL := []) (rest := []) (lenOf pd_9 rfl) rfl (by show 2 * 0 + _ ≤ _; exact Nat.le_of_eq rfl) (hb hby d4_60) (fun _ _ => ⟨rfl, e0, (by decide : 0 + 1 ≤ _), (by decide : 0 + 4 ≤ _)⟩)
    dsimp only [Pt.U, Pt.locs, Pt.cells, Pt.slots] at X4 l4 y4 z4 st4 hQ4
    subst l4 y4 z4
    obtain ⟨mq, g2q4, g3q4, g4q4, rfl, Nq4, Kq4, hmc, Bq4, H2q4, H3q4⟩ := hQ4
    have N4 := Fr.app N0 Nq4
    obtain ⟨E_a_4, FfirstTransitions_4, FrowCount_4, Fsuccessors_4, Fprobabilities_4, FexactProbabilities_4, FtransitionCount_4, FsortKeys_4, AF1_4, AF2_4, AF3_4, AF4_4⟩ := Bq4
    have K4 := Kq4
    have E_a_e4 := E_a.keep K4
    have O4 := O0.keep K4 (allS g_a (allS g_AA1 (allS g_AA2 (allS g_AA3 (allS g_AA4 all0)))))
    have KK4 : Keep h0 T4.heap [a, AA1, AA2, AA3, AA4] := (Keep.refl h0 [a, AA1, AA2, AA3, AA4]).trans K4 (allS (Or.inl (List.mem_of_getElem? (i := 0) rfl)) (allS (Or.inl (List.mem_of_getElem? (i := 1) rfl)) (allS (Or.inl (List.mem_of_getElem? (i := 2) rfl)) (allS (Or.inl (List.mem_of_getElem? (i := 3) rfl)) (allS (Or.inl (List.mem_of_getElem? (i := 4) rfl)) all0)))))
    have cn5 := fun (t : State) (kt : Steps p.tables e below (T4.setTop (mkF m 64 #[.val (.ref a), .val (.int p1), .val (.int (1 : Int32)), .val (.int p2), .val (.int p3), .val (.int p4), .val (.int ((p1.toUInt32 >>> ((2 : Int32) &&& 31).toUInt32).toInt32)), .unset, .unset, .unset] [(.int (0 : Int32))])) t) => cn3 t (by
      refine st4.trans ?_
      show Steps p.tables e below (T4.setTop (mkF m 63 #[.val (.ref a), .val (.int p1), .val (.int (1 : Int32)), .val (.int p2), .val (.int p3), .val (.int p4), .val (.int ((p1.toUInt32 >>> ((2 : Int32) &&& 31).toUInt32).toInt32)), .unset, .unset, .unset] [])) _
      refine XS.iconst X4.here hx rfl (hb hby d4_63) ?_
      show Steps p.tables e below (T4.setTop (mkF m 64 #[.val (.ref a), .val (.int p1), .val (.int (1 : Int32)), .val (.int p2), .val (.int p3), .val (.int p4), .val (.int ((p1.toUInt32 >>> ((2 : Int32) &&& 31).toUInt32).toInt32)), .unset, .unset, .unset] [(.int (0 : Int32))])) _
      exact kt)
    obtain ⟨frs, hr, hrun, hended, hW, hsame⟩ := X4.leave (v := some (.int (0 : Int32))) (fun h => by rw [Bd.returns] at h; cases h)
    refine ⟨_, _, cn5 _ ?_, hrun, hended, _, _, rfl, ?_, ⟨_, rfl⟩, hW, hsame.mono (by decide) (by decide)⟩
    · exact retN X4 hx (t := .boolean) Bd.returns (by simp) (hb hby d4_64) hr
    · show QT Z a AA1 AA2 AA3 AA4 kA1 kA2 kA3 kA4 2 h0 n0 _ T4.heap _
      exact ⟨_, _, _, _, _, rc + 1, ft + mq, 0, rfl, N4, KK4, ⟨E_a_4, FfirstTransitions_4, FrowCount_4, Fsuccessors_4, Fprobabilities_4, FexactProbabilities_4, FtransitionCount_4, FsortKeys_4, AF1_4, AF2_4, AF3_4, AF4_4⟩, by omega, by omega, own_upd_eq _ _ _, H2q4, H3q4.mono (Nat.le_trans (Nat.mul_le_mul_left (8 * 5 ^ 1) (show c + 1 ≤ 5 by omega)) (Nat.le_of_eq (own_p1 1))), Or.inr ⟨rfl, rfl⟩⟩
  · have cn6 := fun (t : State) (kt : Steps p.tables e below (s₁.setTop (mkF m 18 #[.val (.ref a), .val (.int p1), .val (.int (1 : Int32)), .val (.int p2), .val (.int p3), .val (.int p4), .val (.int ((p1.toUInt32 >>> ((2 : Int32) &&& 31).toUInt32).toInt32)), .unset, .unset, .unset] [(.int (((p1.toUInt32 >>> ((2 : Int32) &&& 31).toUInt32).toInt32) &&& (2 : Int32)))])) t) => cn1 t (by
      refine XS.ifNo X0.here hx rfl (hb hby d4_11) rfl ((if0 _ _).trans (feq hc11_2).1) ?_
      show Steps p.tables e below (s₁.setTop (mkF m 14 #[.val (.ref a), .val (.int p1), .val (.int (1 : Int32)), .val (.int p2), .val (.int p3), .val (.int p4), .val (.int ((p1.toUInt32 >>> ((2 : Int32) &&& 31).toUInt32).toInt32)), .unset, .unset, .unset] [])) _
      refine XS.iload X0.here hx rfl (hb hby d4_14) rfl ?_
      show Steps p.tables e below (s₁.setTop (mkF m 16 #[.val (.ref a), .val (.int p1), .val (.int (1 : Int32)), .val (.int p2), .val (.int p3), .val (.int p4), .val (.int ((p1.toUInt32 >>> ((2 : Int32) &&& 31).toUInt32).toInt32)), .unset, .unset, .unset] [(.int ((p1.toUInt32 >>> ((2 : Int32) &&& 31).toUInt32).toInt32))])) _
      refine XS.iconst X0.here hx rfl (hb hby d4_16) ?_
      show Steps p.tables e below (s₁.setTop (mkF m 17 #[.val (.ref a), .val (.int p1), .val (.int (1 : Int32)), .val (.int p2), .val (.int p3), .val (.int p4), .val (.int ((p1.toUInt32 >>> ((2 : Int32) &&& 31).toUInt32).toInt32)), .unset, .unset, .unset] [(.int (2 : Int32)), (.int ((p1.toUInt32 >>> ((2 : Int32) &&& 31).toUInt32).toInt32))])) _
      refine XS.iand X0.here hx rfl (hb hby d4_17) rfl ?_
      show Steps p.tables e below (s₁.setTop (mkF m 18 #[.val (.ref a), .val (.int p1), .val (.int (1 : Int32)), .val (.int p2), .val (.int p3), .val (.int p4), .val (.int ((p1.toUInt32 >>> ((2 : Int32) &&& 31).toUInt32).toInt32)), .unset, .unset, .unset] [(.int (((p1.toUInt32 >>> ((2 : Int32) &&& 31).toUInt32).toInt32) &&& (2 : Int32)))])) _
      exact kt)
    by_cases hc18_7 : (((p1.toUInt32 >>> ((2 : Int32) &&& 31).toUInt32).toInt32) &&& (2 : Int32)) = (0 : Int32)
    · have cn8 := fun (t : State) (kt : Steps p.tables e below (s₁.setTop (mkF m 47 #[.val (.ref a), .val (.int p1), .val (.int (1 : Int32)), .val (.int p2), .val (.int p3), .val (.int p4), .val (.int ((p1.toUInt32 >>> ((2 : Int32) &&& 31).toUInt32).toInt32)), .val (.int (p3 &&& (2147483647 : Int32))), .unset, .unset] [(.double (FP.l2d (((((p4.toUInt32 >>> ((3 : Int32) &&& 31).toUInt32).toInt32) &&& (7 : Int32)) + (1 : Int32))).toInt64))])) t) => cn6 t (by
        refine XS.ifYes X0.here hx rfl (pc0 := 18) (pc' := 28) rfl (hb hby d4_18) rfl ((if0 _ _).trans (teq hc18_7).1) (by decide) (by decide) ?_
        show Steps p.tables e below (s₁.setTop (mkF m 28 #[.val (.ref a), .val (.int p1), .val (.int (1 : Int32)), .val (.int p2), .val (.int p3), .val (.int p4), .val (.int ((p1.toUInt32 >>> ((2 : Int32) &&& 31).toUInt32).toInt32)), .unset, .unset, .unset] [])) _
        refine XS.iload X0.here hx rfl (hb hby d4_28) rfl ?_
        show Steps p.tables e below (s₁.setTop (mkF m 30 #[.val (.ref a), .val (.int p1), .val (.int (1 : Int32)), .val (.int p2), .val (.int p3), .val (.int p4), .val (.int ((p1.toUInt32 >>> ((2 : Int32) &&& 31).toUInt32).toInt32)), .unset, .unset, .unset] [(.int p3)])) _
        refine X0.ldcInt hx hown (mvT hZ (hw _ (List.mem_of_getElem? (i := 78) rfl))) (g := (mkF m 30 #[.val (.ref a), .val (.int p1), .val (.int (1 : Int32)), .val (.int p2), .val (.int p3), .val (.int p4), .val (.int ((p1.toUInt32 >>> ((2 : Int32) &&& 31).toUInt32).toInt32)), .unset, .unset, .unset] [(.int p3)])) rfl (hb hby d4_30) _ ?_
        show Steps p.tables e below (s₁.setTop (mkF m 32 #[.val (.ref a), .val (.int p1), .val (.int (1 : Int32)), .val (.int p2), .val (.int p3), .val (.int p4), .val (.int ((p1.toUInt32 >>> ((2 : Int32) &&& 31).toUInt32).toInt32)), .unset, .unset, .unset] [(.int (2147483647 : Int32)), (.int p3)])) _
        refine XS.iand X0.here hx rfl (hb hby d4_32) rfl ?_
        show Steps p.tables e below (s₁.setTop (mkF m 33 #[.val (.ref a), .val (.int p1), .val (.int (1 : Int32)), .val (.int p2), .val (.int p3), .val (.int p4), .val (.int ((p1.toUInt32 >>> ((2 : Int32) &&& 31).toUInt32).toInt32)), .unset, .unset, .unset] [(.int (p3 &&& (2147483647 : Int32)))])) _
        refine XS.istore X0.here hx rfl (hb hby d4_33) rfl (l' := #[.val (.ref a), .val (.int p1), .val (.int (1 : Int32)), .val (.int p2), .val (.int p3), .val (.int p4), .val (.int ((p1.toUInt32 >>> ((2 : Int32) &&& 31).toUInt32).toInt32)), .val (.int (p3 &&& (2147483647 : Int32))), .unset, .unset]) rfl ?_
        show Steps p.tables e below (s₁.setTop (mkF m 35 #[.val (.ref a), .val (.int p1), .val (.int (1 : Int32)), .val (.int p2), .val (.int p3), .val (.int p4), .val (.int ((p1.toUInt32 >>> ((2 : Int32) &&& 31).toUInt32).toInt32)), .val (.int (p3 &&& (2147483647 : Int32))), .unset, .unset] [])) _
        refine XS.iload X0.here hx rfl (hb hby d4_35) rfl ?_
        show Steps p.tables e below (s₁.setTop (mkF m 37 #[.val (.ref a), .val (.int p1), .val (.int (1 : Int32)), .val (.int p2), .val (.int p3), .val (.int p4), .val (.int ((p1.toUInt32 >>> ((2 : Int32) &&& 31).toUInt32).toInt32)), .val (.int (p3 &&& (2147483647 : Int32))), .unset, .unset] [(.int p4)])) _
        refine XS.iconst X0.here hx rfl (hb hby d4_37) ?_
        show Steps p.tables e below (s₁.setTop (mkF m 38 #[.val (.ref a), .val (.int p1), .val (.int (1 : Int32)), .val (.int p2), .val (.int p3), .val (.int p4), .val (.int ((p1.toUInt32 >>> ((2 : Int32) &&& 31).toUInt32).toInt32)), .val (.int (p3 &&& (2147483647 : Int32))), .unset, .unset] [(.int (3 : Int32)), (.int p4)])) _
        refine XS.iloadN X0.here hx rfl (hb hby d4_38) rfl ?_
        show Steps p.tables e below (s₁.setTop (mkF m 39 #[.val (.ref a), .val (.int p1), .val (.int (1 : Int32)), .val (.int p2), .val (.int p3), .val (.int p4), .val (.int ((p1.toUInt32 >>> ((2 : Int32) &&& 31).toUInt32).toInt32)), .val (.int (p3 &&& (2147483647 : Int32))), .unset, .unset] [(.int (1 : Int32)), (.int (3 : Int32)), (.int p4)])) _
        refine XS.imul X0.here hx rfl (hb hby d4_39) rfl ?_
        show Steps p.tables e below (s₁.setTop (mkF m 40 #[.val (.ref a), .val (.int p1), .val (.int (1 : Int32)), .val (.int p2), .val (.int p3), .val (.int p4), .val (.int ((p1.toUInt32 >>> ((2 : Int32) &&& 31).toUInt32).toInt32)), .val (.int (p3 &&& (2147483647 : Int32))), .unset, .unset] [(.int (3 : Int32)), (.int p4)])) _
        refine XS.iushr X0.here hx rfl (hb hby d4_40) rfl ?_
        show Steps p.tables e below (s₁.setTop (mkF m 41 #[.val (.ref a), .val (.int p1), .val (.int (1 : Int32)), .val (.int p2), .val (.int p3), .val (.int p4), .val (.int ((p1.toUInt32 >>> ((2 : Int32) &&& 31).toUInt32).toInt32)), .val (.int (p3 &&& (2147483647 : Int32))), .unset, .unset] [(.int ((p4.toUInt32 >>> ((3 : Int32) &&& 31).toUInt32).toInt32))])) _
        refine XS.bipush X0.here hx rfl (hb hby d4_41) ?_
        show Steps p.tables e below (s₁.setTop (mkF m 43 #[.val (.ref a), .val (.int p1), .val (.int (1 : Int32)), .val (.int p2), .val (.int p3), .val (.int p4), .val (.int ((p1.toUInt32 >>> ((2 : Int32) &&& 31).toUInt32).toInt32)), .val (.int (p3 &&& (2147483647 : Int32))), .unset, .unset] [(.int (7 : Int32)), (.int ((p4.toUInt32 >>> ((3 : Int32) &&& 31).toUInt32).toInt32))])) _
        refine XS.iand X0.here hx rfl (hb hby d4_43) rfl ?_
        show Steps p.tables e below (s₁.setTop (mkF m 44 #[.val (.ref a), .val (.int p1), .val (.int (1 : Int32)), .val (.int p2), .val (.int p3), .val (.int p4), .val (.int ((p1.toUInt32 >>> ((2 : Int32) &&& 31).toUInt32).toInt32)), .val (.int (p3 &&& (2147483647 : Int32))), .unset, .unset] [(.int (((p4.toUInt32 >>> ((3 : Int32) &&& 31).toUInt32).toInt32) &&& (7 : Int32)))])) _
        refine XS.iconst X0.here hx rfl (hb hby d4_44) ?_
        show Steps p.tables e below (s₁.setTop (mkF m 45 #[.val (.ref a), .val (.int p1), .val (.int (1 : Int32)), .val (.int p2), .val (.int p3), .val (.int p4), .val (.int ((p1.toUInt32 >>> ((2 : Int32) &&& 31).toUInt32).toInt32)), .val (.int (p3 &&& (2147483647 : Int32))), .unset, .unset] [(.int (1 : Int32)), (.int (((p4.toUInt32 >>> ((3 : Int32) &&& 31).toUInt32).toInt32) &&& (7 : Int32)))])) _
        refine XS.iadd X0.here hx rfl (hb hby d4_45) rfl ?_
        show Steps p.tables e below (s₁.setTop (mkF m 46 #[.val (.ref a), .val (.int p1), .val (.int (1 : Int32)), .val (.int p2), .val (.int p3), .val (.int p4), .val (.int ((p1.toUInt32 >>> ((2 : Int32) &&& 31).toUInt32).toInt32)), .val (.int (p3 &&& (2147483647 : Int32))), .unset, .unset] [(.int ((((p4.toUInt32 >>> ((3 : Int32) &&& 31).toUInt32).toInt32) &&& (7 : Int32)) + (1 : Int32)))])) _
        refine XS.i2dS X0.here hx rfl (hb hby d4_46) rfl (v := (FP.l2d (((((p4.toUInt32 >>> ((3 : Int32) &&& 31).toUInt32).toInt32) &&& (7 : Int32)) + (1 : Int32))).toInt64)) (i2d_w _) ?_
        show Steps p.tables e below (s₁.setTop (mkF m 47 #[.val (.ref a), .val (.int p1), .val (.int (1 : Int32)), .val (.int p2), .val (.int p3), .val (.int p4), .val (.int ((p1.toUInt32 >>> ((2 : Int32) &&& 31).toUInt32).toInt32)), .val (.int (p3 &&& (2147483647 : Int32))), .unset, .unset] [(.double (FP.l2d (((((p4.toUInt32 >>> ((3 : Int32) &&& 31).toUInt32).toInt32) &&& (7 : Int32)) + (1 : Int32))).toInt64))])) _
        exact kt)
      obtain ⟨dvv, hdv, cn9⟩ : ∃ dvv : UInt64, (∃ v8 : Int64, dvv = FP.l2d v8 ∧ 1 ≤ v8.toInt ∧ v8.toInt ≤ 8) ∧ ∀ t, Steps p.tables e below (s₁.setTop (mkF m 47 #[.val (.ref a), .val (.int p1), .val (.int (1 : Int32)), .val (.int p2), .val (.int p3), .val (.int p4), .val (.int ((p1.toUInt32 >>> ((2 : Int32) &&& 31).toUInt32).toInt32)), .val (.int (p3 &&& (2147483647 : Int32))), .unset, .unset] [(.double dvv)])) t → Steps p.tables e below (s₁.setTop (entryFrame m #[(.ref a), (.int p1), (.int (1 : Int32)), (.int p2), (.int p3), (.int p4)] 10)) t := ⟨(FP.l2d (((((p4.toUInt32 >>> ((3 : Int32) &&& 31).toUInt32).toInt32) &&& (7 : Int32)) + (1 : Int32))).toInt64), ⟨_, rfl, own_x8 _⟩, cn8⟩
      obtain ⟨v8, rfl, hv8⟩ := hdv
      have cn10 := fun (t : State) (kt : Steps p.tables e below (s₁.setTop (mkF m 54 #[.val (.ref a), .val (.int p1), .val (.int (1 : Int32)), .val (.int p2), .val (.int p3), .val (.int p4), .val (.int ((p1.toUInt32 >>> ((2 : Int32) &&& 31).toUInt32).toInt32)), .val (.int (p3 &&& (2147483647 : Int32))), .val (.double (FP.l2d v8)), .second] [(.double (FP.l2d v8)), (.int (p3 &&& (2147483647 : Int32))), (.ref a)])) t) => cn9 t (by
        refine XS.dstore X0.here hx rfl (hb hby d4_47) rfl (l' := #[.val (.ref a), .val (.int p1), .val (.int (1 : Int32)), .val (.int p2), .val (.int p3), .val (.int p4), .val (.int ((p1.toUInt32 >>> ((2 : Int32) &&& 31).toUInt32).toInt32)), .val (.int (p3 &&& (2147483647 : Int32))), .val (.double (FP.l2d v8)), .second]) rfl ?_
        show Steps p.tables e below (s₁.setTop (mkF m 49 #[.val (.ref a), .val (.int p1), .val (.int (1 : Int32)), .val (.int p2), .val (.int p3), .val (.int p4), .val (.int ((p1.toUInt32 >>> ((2 : Int32) &&& 31).toUInt32).toInt32)), .val (.int (p3 &&& (2147483647 : Int32))), .val (.double (FP.l2d v8)), .second] [])) _
        refine XS.aloadN X0.here hx rfl (hb hby d4_49) rfl rfl ?_
        show Steps p.tables e below (s₁.setTop (mkF m 50 #[.val (.ref a), .val (.int p1), .val (.int (1 : Int32)), .val (.int p2), .val (.int p3), .val (.int p4), .val (.int ((p1.toUInt32 >>> ((2 : Int32) &&& 31).toUInt32).toInt32)), .val (.int (p3 &&& (2147483647 : Int32))), .val (.double (FP.l2d v8)), .second] [(.ref a)])) _
        refine XS.iload X0.here hx rfl (hb hby d4_50) rfl ?_
        show Steps p.tables e below (s₁.setTop (mkF m 52 #[.val (.ref a), .val (.int p1), .val (.int (1 : Int32)), .val (.int p2), .val (.int p3), .val (.int p4), .val (.int ((p1.toUInt32 >>> ((2 : Int32) &&& 31).toUInt32).toInt32)), .val (.int (p3 &&& (2147483647 : Int32))), .val (.double (FP.l2d v8)), .second] [(.int (p3 &&& (2147483647 : Int32))), (.ref a)])) _
        refine XS.dload X0.here hx rfl (hb hby d4_52) rfl ?_
        show Steps p.tables e below (s₁.setTop (mkF m 54 #[.val (.ref a), .val (.int p1), .val (.int (1 : Int32)), .val (.int p2), .val (.int p3), .val (.int p4), .val (.int ((p1.toUInt32 >>> ((2 : Int32) &&& 31).toUInt32).toInt32)), .val (.int (p3 &&& (2147483647 : Int32))), .val (.double (FP.l2d v8)), .second] [(.double (FP.l2d v8)), (.int (p3 &&& (2147483647 : Int32))), (.ref a)])) _
        exact kt)
      obtain ⟨cq11, kq11, q11a, q11b, q11c⟩ := isOf hZ e0 E_a
      obtain ⟨_, _, ⟨T11, L11, k11, n11⟩, -, X11, ⟨Lc11, hQ11, l11, y11, z11⟩, st11⟩ := X0.virtualBack hx (y := (⟨"com/example/probver/probver/model/TransitionRows", "add", "(ID)V"⟩ : MethodName)) (z := (⟨"com/example/probver/probver/model/TransitionRows", "add", "(ID)V"⟩ : MethodName)) hown (mvT hZ (hw _ (List.mem_of_getElem? (i := 79) rfl))) (mvT hZ (hw _ (List.mem_of_getElem? (i := 80) rfl))) (notFace_of_selects (args := #[]) (mvT hZ (hw _ (List.mem_of_getElem? (i := 82) rfl)))) (mvT hZ (hw _ (List.mem_of_getElem? (i := 82) rfl))) (mvT hZ (hw _ (List.mem_of_getElem? (i := 81) rfl))) (by decide) (backOf (W := 0) (rm16 l Z a0 hw [] a AA1 AA2 AA3 AA4 kA1 kA2 kA3 kA4 f1 f2 f3 f4 rc (ft + c) (p3 &&& (2147483647 : Int32)) (FP.l2d v8) h0 n0 O0 TNh ⟨E_a, FfirstTransitions, FrowCount, Fsuccessors, Fprobabilities, FexactProbabilities, FtransitionCount, FsortKeys, AF1, AF2, AF3, AF4⟩ (by omega) (own_pos _) (own_dl hv8.1 hv8.2) own_dg) hZ (hw _ (List.mem_of_getElem? (i := 83) rfl)) (hw _ (List.mem_of_getElem? (i := 2) rfl)) (by decide) (by decide)) q11a q11c (g := (mkF m 54 #[.val (.ref a), .val (.int p1), .val (.int (1 : Int32)), .val (.int p2), .val (.int p3), .val (.int p4), .val (.int ((p1.toUInt32 >>> ((2 : Int32) &&& 31).toUInt32).toInt32)), .val (.int (p3 &&& (2147483647 : Int32))), .val (.double (FP.l2d v8)), .second] [(.double (FP.l2d v8)), (.int (p3 &&& (2147483647 : Int32))), (.ref a)])) rfl (by rw [hml]; rfl) (Steps.refl _) (argsL := [(.int (p3 &&& (2147483647 : Int32))), (.double (FP.l2d v8))]) (rest := []) (lenOf pd_1 rfl) rfl (by show 2 * 0 + _ ≤ _; exact Nat.le_of_eq rfl) (hb hby d4_54) (fun _ _ => ⟨rfl, e0, (by decide : 0 + 0 ≤ _), (by decide : 0 + 0 ≤ _)⟩)
      dsimp only [Pt.U, Pt.locs, Pt.cells, Pt.slots] at X11 l11 y11 z11 st11 hQ11
      subst l11 y11 z11
      obtain ⟨rfl, Nq11, Kq11, Bq11⟩ := hQ11
      have N11 := Fr.app N0 Nq11
      obtain ⟨E_a_11, FfirstTransitions_11, FrowCount_11, Fsuccessors_11, Fprobabilities_11, FexactProbabilities_11, FtransitionCount_11, FsortKeys_11, AF1_11, AF2_11, AF3_11, AF4_11⟩ := Bq11
      have K11 := Kq11
      have E_a_e11 := E_a.keep K11
      have AF1_e11 := AF1.keep K11 (ninS (Ne.symm ne_a_AA1) (ninS ne_AA1_AA2 (ninS ne_AA1_AA3 nin0)))
      have AF4_e11 := AF4.keep K11 (ninS (Ne.symm ne_a_AA4) (ninS (Ne.symm ne_AA2_AA4) (ninS (Ne.symm ne_AA3_AA4) nin0)))
      have O11 := O0.keep K11 (allS g_a (allS g_AA2 (allS g_AA3 all0)))
      have KK11 : Keep h0 T11.heap [a, AA1, AA2, AA3, AA4] := (Keep.refl h0 [a, AA1, AA2, AA3, AA4]).trans K11 (allS (Or.inl (List.mem_of_getElem? (i := 0) rfl)) (allS (Or.inl (List.mem_of_getElem? (i := 2) rfl)) (allS (Or.inl (List.mem_of_getElem? (i := 3) rfl)) all0)))
      have cn12 := fun (t : State) (kt : Steps p.tables e below (T11.setTop (mkF m 58 #[.val (.ref a), .val (.int p1), .val (.int (1 : Int32)), .val (.int p2), .val (.int p3), .val (.int p4), .val (.int ((p1.toUInt32 >>> ((2 : Int32) &&& 31).toUInt32).toInt32)), .val (.int (p3 &&& (2147483647 : Int32))), .val (.double (FP.l2d v8)), .second] [(.int (1 : Int32))])) t) => cn10 t (by
        refine st11.trans ?_
        show Steps p.tables e below (T11.setTop (mkF m 57 #[.val (.ref a), .val (.int p1), .val (.int (1 : Int32)), .val (.int p2), .val (.int p3), .val (.int p4), .val (.int ((p1.toUInt32 >>> ((2 : Int32) &&& 31).toUInt32).toInt32)), .val (.int (p3 &&& (2147483647 : Int32))), .val (.double (FP.l2d v8)), .second] [])) _
        refine XS.iconst X11.here hx rfl (hb hby d4_57) ?_
        show Steps p.tables e below (T11.setTop (mkF m 58 #[.val (.ref a), .val (.int p1), .val (.int (1 : Int32)), .val (.int p2), .val (.int p3), .val (.int p4), .val (.int ((p1.toUInt32 >>> ((2 : Int32) &&& 31).toUInt32).toInt32)), .val (.int (p3 &&& (2147483647 : Int32))), .val (.double (FP.l2d v8)), .second] [(.int (1 : Int32))])) _
        exact kt)
      obtain ⟨frs, hr, hrun, hended, hW, hsame⟩ := X11.leave (v := some (.int (1 : Int32))) (fun h => by rw [Bd.returns] at h; cases h)
      refine ⟨_, _, cn12 _ ?_, hrun, hended, _, _, rfl, ?_, ⟨_, rfl⟩, hW, hsame.mono (by decide) (by decide)⟩
      · exact retN X11 hx (t := .boolean) Bd.returns (by simp) (hb hby d4_58) hr
      · show QT Z a AA1 AA2 AA3 AA4 kA1 kA2 kA3 kA4 2 h0 n0 _ T11.heap _
        exact ⟨_, _, _, _, _, rc, ft, c + 1, rfl, N11, KK11, ⟨E_a_11, FfirstTransitions_11, FrowCount_11, Fsuccessors_11, Fprobabilities_11, FexactProbabilities_11, FtransitionCount_11, FsortKeys_11, AF1_11, AF2_11, AF3_11, AF4_11⟩, by omega, by omega, hft, H2.upd _ _, (HT.mono (by rw [← own_p1]; omega)).upd _ (by omega) (by have := own_p8 (1 + 1); omega), Or.inl ⟨rfl, Nat.succ_pos c⟩⟩
    · have cn13 := fun (t : State) (kt : Steps p.tables e below (s₁.setTop (mkF m 47 #[.val (.ref a), .val (.int p1), .val (.int (1 : Int32)), .val (.int p2), .val (.int p3), .val (.int p4), .val (.int ((p1.toUInt32 >>> ((2 : Int32) &&& 31).toUInt32).toInt32)), .val (.int (p2 &&& (2147483647 : Int32))), .unset, .unset] [(.double (FP.l2d (((((p4.toUInt32 >>> ((3 : Int32) &&& 31).toUInt32).toInt32) &&& (7 : Int32)) + (1 : Int32))).toInt64))])) t) => cn6 t (by
        refine XS.ifNo X0.here hx rfl (hb hby d4_18) rfl ((if0 _ _).trans (feq hc18_7).1) ?_
        show Steps p.tables e below (s₁.setTop (mkF m 21 #[.val (.ref a), .val (.int p1), .val (.int (1 : Int32)), .val (.int p2), .val (.int p3), .val (.int p4), .val (.int ((p1.toUInt32 >>> ((2 : Int32) &&& 31).toUInt32).toInt32)), .unset, .unset, .unset] [])) _
        refine XS.iloadN X0.here hx rfl (hb hby d4_21) rfl ?_
        show Steps p.tables e below (s₁.setTop (mkF m 22 #[.val (.ref a), .val (.int p1), .val (.int (1 : Int32)), .val (.int p2), .val (.int p3), .val (.int p4), .val (.int ((p1.toUInt32 >>> ((2 : Int32) &&& 31).toUInt32).toInt32)), .unset, .unset, .unset] [(.int p2)])) _
        refine X0.ldcInt hx hown (mvT hZ (hw _ (List.mem_of_getElem? (i := 78) rfl))) (g := (mkF m 22 #[.val (.ref a), .val (.int p1), .val (.int (1 : Int32)), .val (.int p2), .val (.int p3), .val (.int p4), .val (.int ((p1.toUInt32 >>> ((2 : Int32) &&& 31).toUInt32).toInt32)), .unset, .unset, .unset] [(.int p2)])) rfl (hb hby d4_22) _ ?_
        show Steps p.tables e below (s₁.setTop (mkF m 24 #[.val (.ref a), .val (.int p1), .val (.int (1 : Int32)), .val (.int p2), .val (.int p3), .val (.int p4), .val (.int ((p1.toUInt32 >>> ((2 : Int32) &&& 31).toUInt32).toInt32)), .unset, .unset, .unset] [(.int (2147483647 : Int32)), (.int p2)])) _
        refine XS.iand X0.here hx rfl (hb hby d4_24) rfl ?_
        show Steps p.tables e below (s₁.setTop (mkF m 25 #[.val (.ref a), .val (.int p1), .val (.int (1 : Int32)), .val (.int p2), .val (.int p3), .val (.int p4), .val (.int ((p1.toUInt32 >>> ((2 : Int32) &&& 31).toUInt32).toInt32)), .unset, .unset, .unset] [(.int (p2 &&& (2147483647 : Int32)))])) _
        refine XS.goto X0.here hx rfl (pc0 := 25) (pc' := 33) rfl (hb hby d4_25) (by decide) (by decide) ?_
        show Steps p.tables e below (s₁.setTop (mkF m 33 #[.val (.ref a), .val (.int p1), .val (.int (1 : Int32)), .val (.int p2), .val (.int p3), .val (.int p4), .val (.int ((p1.toUInt32 >>> ((2 : Int32) &&& 31).toUInt32).toInt32)), .unset, .unset, .unset] [(.int (p2 &&& (2147483647 : Int32)))])) _
        refine XS.istore X0.here hx rfl (hb hby d4_33) rfl (l' := #[.val (.ref a), .val (.int p1), .val (.int (1 : Int32)), .val (.int p2), .val (.int p3), .val (.int p4), .val (.int ((p1.toUInt32 >>> ((2 : Int32) &&& 31).toUInt32).toInt32)), .val (.int (p2 &&& (2147483647 : Int32))), .unset, .unset]) rfl ?_
        show Steps p.tables e below (s₁.setTop (mkF m 35 #[.val (.ref a), .val (.int p1), .val (.int (1 : Int32)), .val (.int p2), .val (.int p3), .val (.int p4), .val (.int ((p1.toUInt32 >>> ((2 : Int32) &&& 31).toUInt32).toInt32)), .val (.int (p2 &&& (2147483647 : Int32))), .unset, .unset] [])) _
        refine XS.iload X0.here hx rfl (hb hby d4_35) rfl ?_
        show Steps p.tables e below (s₁.setTop (mkF m 37 #[.val (.ref a), .val (.int p1), .val (.int (1 : Int32)), .val (.int p2), .val (.int p3), .val (.int p4), .val (.int ((p1.toUInt32 >>> ((2 : Int32) &&& 31).toUInt32).toInt32)), .val (.int (p2 &&& (2147483647 : Int32))), .unset, .unset] [(.int p4)])) _
        refine XS.iconst X0.here hx rfl (hb hby d4_37) ?_
        show Steps p.tables e below (s₁.setTop (mkF m 38 #[.val (.ref a), .val (.int p1), .val (.int (1 : Int32)), .val (.int p2), .val (.int p3), .val (.int p4), .val (.int ((p1.toUInt32 >>> ((2 : Int32) &&& 31).toUInt32).toInt32)), .val (.int (p2 &&& (2147483647 : Int32))), .unset, .unset] [(.int (3 : Int32)), (.int p4)])) _
        refine XS.iloadN X0.here hx rfl (hb hby d4_38) rfl ?_
        show Steps p.tables e below (s₁.setTop (mkF m 39 #[.val (.ref a), .val (.int p1), .val (.int (1 : Int32)), .val (.int p2), .val (.int p3), .val (.int p4), .val (.int ((p1.toUInt32 >>> ((2 : Int32) &&& 31).toUInt32).toInt32)), .val (.int (p2 &&& (2147483647 : Int32))), .unset, .unset] [(.int (1 : Int32)), (.int (3 : Int32)), (.int p4)])) _
        refine XS.imul X0.here hx rfl (hb hby d4_39) rfl ?_
        show Steps p.tables e below (s₁.setTop (mkF m 40 #[.val (.ref a), .val (.int p1), .val (.int (1 : Int32)), .val (.int p2), .val (.int p3), .val (.int p4), .val (.int ((p1.toUInt32 >>> ((2 : Int32) &&& 31).toUInt32).toInt32)), .val (.int (p2 &&& (2147483647 : Int32))), .unset, .unset] [(.int (3 : Int32)), (.int p4)])) _
        refine XS.iushr X0.here hx rfl (hb hby d4_40) rfl ?_
        show Steps p.tables e below (s₁.setTop (mkF m 41 #[.val (.ref a), .val (.int p1), .val (.int (1 : Int32)), .val (.int p2), .val (.int p3), .val (.int p4), .val (.int ((p1.toUInt32 >>> ((2 : Int32) &&& 31).toUInt32).toInt32)), .val (.int (p2 &&& (2147483647 : Int32))), .unset, .unset] [(.int ((p4.toUInt32 >>> ((3 : Int32) &&& 31).toUInt32).toInt32))])) _
        refine XS.bipush X0.here hx rfl (hb hby d4_41) ?_
        show Steps p.tables e below (s₁.setTop (mkF m 43 #[.val (.ref a), .val (.int p1), .val (.int (1 : Int32)), .val (.int p2), .val (.int p3), .val (.int p4), .val (.int ((p1.toUInt32 >>> ((2 : Int32) &&& 31).toUInt32).toInt32)), .val (.int (p2 &&& (2147483647 : Int32))), .unset, .unset] [(.int (7 : Int32)), (.int ((p4.toUInt32 >>> ((3 : Int32) &&& 31).toUInt32).toInt32))])) _
        refine XS.iand X0.here hx rfl (hb hby d4_43) rfl ?_
        show Steps p.tables e below (s₁.setTop (mkF m 44 #[.val (.ref a), .val (.int p1), .val (.int (1 : Int32)), .val (.int p2), .val (.int p3), .val (.int p4), .val (.int ((p1.toUInt32 >>> ((2 : Int32) &&& 31).toUInt32).toInt32)), .val (.int (p2 &&& (2147483647 : Int32))), .unset, .unset] [(.int (((p4.toUInt32 >>> ((3 : Int32) &&& 31).toUInt32).toInt32) &&& (7 : Int32)))])) _
        refine XS.iconst X0.here hx rfl (hb hby d4_44) ?_
        show Steps p.tables e below (s₁.setTop (mkF m 45 #[.val (.ref a), .val (.int p1), .val (.int (1 : Int32)), .val (.int p2), .val (.int p3), .val (.int p4), .val (.int ((p1.toUInt32 >>> ((2 : Int32) &&& 31).toUInt32).toInt32)), .val (.int (p2 &&& (2147483647 : Int32))), .unset, .unset] [(.int (1 : Int32)), (.int (((p4.toUInt32 >>> ((3 : Int32) &&& 31).toUInt32).toInt32) &&& (7 : Int32)))])) _
        refine XS.iadd X0.here hx rfl (hb hby d4_45) rfl ?_
        show Steps p.tables e below (s₁.setTop (mkF m 46 #[.val (.ref a), .val (.int p1), .val (.int (1 : Int32)), .val (.int p2), .val (.int p3), .val (.int p4), .val (.int ((p1.toUInt32 >>> ((2 : Int32) &&& 31).toUInt32).toInt32)), .val (.int (p2 &&& (2147483647 : Int32))), .unset, .unset] [(.int ((((p4.toUInt32 >>> ((3 : Int32) &&& 31).toUInt32).toInt32) &&& (7 : Int32)) + (1 : Int32)))])) _
        refine XS.i2dS X0.here hx rfl (hb hby d4_46) rfl (v := (FP.l2d (((((p4.toUInt32 >>> ((3 : Int32) &&& 31).toUInt32).toInt32) &&& (7 : Int32)) + (1 : Int32))).toInt64)) (i2d_w _) ?_
        show Steps p.tables e below (s₁.setTop (mkF m 47 #[.val (.ref a), .val (.int p1), .val (.int (1 : Int32)), .val (.int p2), .val (.int p3), .val (.int p4), .val (.int ((p1.toUInt32 >>> ((2 : Int32) &&& 31).toUInt32).toInt32)), .val (.int (p2 &&& (2147483647 : Int32))), .unset, .unset] [(.double (FP.l2d (((((p4.toUInt32 >>> ((3 : Int32) &&& 31).toUInt32).toInt32) &&& (7 : Int32)) + (1 : Int32))).toInt64))])) _
        exact kt)
      obtain ⟨dvv, hdv, cn14⟩ : ∃ dvv : UInt64, (∃ v8 : Int64, dvv = FP.l2d v8 ∧ 1 ≤ v8.toInt ∧ v8.toInt ≤ 8) ∧ ∀ t, Steps p.tables e below (s₁.setTop (mkF m 47 #[.val (.ref a), .val (.int p1), .val (.int (1 : Int32)), .val (.int p2), .val (.int p3), .val (.int p4), .val (.int ((p1.toUInt32 >>> ((2 : Int32) &&& 31).toUInt32).toInt32)), .val (.int (p2 &&& (2147483647 : Int32))), .unset, .unset] [(.double dvv)])) t → Steps p.tables e below (s₁.setTop (entryFrame m #[(.ref a), (.int p1), (.int (1 : Int32)), (.int p2), (.int p3), (.int p4)] 10)) t := ⟨(FP.l2d (((((p4.toUInt32 >>> ((3 : Int32) &&& 31).toUInt32).toInt32) &&& (7 : Int32)) + (1 : Int32))).toInt64), ⟨_, rfl, own_x8 _⟩, cn13⟩
      obtain ⟨v8, rfl, hv8⟩ := hdv
      have cn15 := fun (t : State) (kt : Steps p.tables e below (s₁.setTop (mkF m 54 #[.val (.ref a), .val (.int p1), .val (.int (1 : Int32)), .val (.int p2), .val (.int p3), .val (.int p4), .val (.int ((p1.toUInt32 >>> ((2 : Int32) &&& 31).toUInt32).toInt32)), .val (.int (p2 &&& (2147483647 : Int32))), .val (.double (FP.l2d v8)), .second] [(.double (FP.l2d v8)), (.int (p2 &&& (2147483647 : Int32))), (.ref a)])) t) => cn14 t (by
        refine XS.dstore X0.here hx rfl (hb hby d4_47) rfl (l' := #[.val (.ref a), .val (.int p1), .val (.int (1 : Int32)), .val (.int p2), .val (.int p3), .val (.int p4), .val (.int ((p1.toUInt32 >>> ((2 : Int32) &&& 31).toUInt32).toInt32)), .val (.int (p2 &&& (2147483647 : Int32))), .val (.double (FP.l2d v8)), .second]) rfl ?_
        show Steps p.tables e below (s₁.setTop (mkF m 49 #[.val (.ref a), .val (.int p1), .val (.int (1 : Int32)), .val (.int p2), .val (.int p3), .val (.int p4), .val (.int ((p1.toUInt32 >>> ((2 : Int32) &&& 31).toUInt32).toInt32)), .val (.int (p2 &&& (2147483647 : Int32))), .val (.double (FP.l2d v8)), .second] [])) _
        refine XS.aloadN X0.here hx rfl (hb hby d4_49) rfl rfl ?_
        show Steps p.tables e below (s₁.setTop (mkF m 50 #[.val (.ref a), .val (.int p1), .val (.int (1 : Int32)), .val (.int p2), .val (.int p3), .val (.int p4), .val (.int ((p1.toUInt32 >>> ((2 : Int32) &&& 31).toUInt32).toInt32)), .val (.int (p2 &&& (2147483647 : Int32))), .val (.double (FP.l2d v8)), .second] [(.ref a)])) _
        refine XS.iload X0.here hx rfl (hb hby d4_50) rfl ?_
        show Steps p.tables e below (s₁.setTop (mkF m 52 #[.val (.ref a), .val (.int p1), .val (.int (1 : Int32)), .val (.int p2), .val (.int p3), .val (.int p4), .val (.int ((p1.toUInt32 >>> ((2 : Int32) &&& 31).toUInt32).toInt32)), .val (.int (p2 &&& (2147483647 : Int32))), .val (.double (FP.l2d v8)), .second] [(.int (p2 &&& (2147483647 : Int32))), (.ref a)])) _
        refine XS.dload X0.here hx rfl (hb hby d4_52) rfl ?_
        show Steps p.tables e below (s₁.setTop (mkF m 54 #[.val (.ref a), .val (.int p1), .val (.int (1 : Int32)), .val (.int p2), .val (.int p3), .val (.int p4), .val (.int ((p1.toUInt32 >>> ((2 : Int32) &&& 31).toUInt32).toInt32)), .val (.int (p2 &&& (2147483647 : Int32))), .val (.double (FP.l2d v8)), .second] [(.double (FP.l2d v8)), (.int (p2 &&& (2147483647 : Int32))), (.ref a)])) _
        exact kt)
      obtain ⟨cq16, kq16, q16a, q16b, q16c⟩ := isOf hZ e0 E_a
      obtain ⟨_, _, ⟨T16, L16, k16, n16⟩, -, X16, ⟨Lc16, hQ16, l16, y16, z16⟩, st16⟩ := X0.virtualBack hx (y := (⟨"com/example/probver/probver/model/TransitionRows", "add", "(ID)V"⟩ : MethodName)) (z := (⟨"com/example/probver/probver/model/TransitionRows", "add", "(ID)V"⟩ : MethodName)) hown (mvT hZ (hw _ (List.mem_of_getElem? (i := 79) rfl))) (mvT hZ (hw _ (List.mem_of_getElem? (i := 80) rfl))) (notFace_of_selects (args := #[]) (mvT hZ (hw _ (List.mem_of_getElem? (i := 82) rfl)))) (mvT hZ (hw _ (List.mem_of_getElem? (i := 82) rfl))) (mvT hZ (hw _ (List.mem_of_getElem? (i := 81) rfl))) (by decide) (backOf (W := 0) (rm16 l Z a0 hw [] a AA1 AA2 AA3 AA4 kA1 kA2 kA3 kA4 f1 f2 f3 f4 rc (ft + c) (p2 &&& (2147483647 : Int32)) (FP.l2d v8) h0 n0 O0 TNh ⟨E_a, FfirstTransitions, FrowCount, Fsuccessors, Fprobabilities, FexactProbabilities, FtransitionCount, FsortKeys, AF1, AF2, AF3, AF4⟩ (by omega) (own_pos _) (own_dl hv8.1 hv8.2) own_dg) hZ (hw _ (List.mem_of_getElem? (i := 83) rfl)) (hw _ (List.mem_of_getElem? (i := 2) rfl)) (by decide) (by decide)) q16a q16c (g := (mkF m 54 #[.val (.ref a), .val (.int p1), .val (.int (1 : Int32)), .val (.int p2), .val (.int p3), .val (.int p4), .val (.int ((p1.toUInt32 >>> ((2 : Int32) &&& 31).toUInt32).toInt32)), .val (.int (p2 &&& (2147483647 : Int32))), .val (.double (FP.l2d v8)), .second] [(.double (FP.l2d v8)), (.int (p2 &&& (2147483647 : Int32))), (.ref a)])) rfl (by rw [hml]; rfl) (Steps.refl _) (argsL := [(.int (p2 &&& (2147483647 : Int32))), (.double (FP.l2d v8))]) (rest := []) (lenOf pd_1 rfl) rfl (by show 2 * 0 + _ ≤ _; exact Nat.le_of_eq rfl) (hb hby d4_54) (fun _ _ => ⟨rfl, e0, (by decide : 0 + 0 ≤ _), (by decide : 0 + 0 ≤ _)⟩)
      dsimp only [Pt.U, Pt.locs, Pt.cells, Pt.slots] at X16 l16 y16 z16 st16 hQ16
      subst l16 y16 z16
      obtain ⟨rfl, Nq16, Kq16, Bq16⟩ := hQ16
      have N16 := Fr.app N0 Nq16
      obtain ⟨E_a_16, FfirstTransitions_16, FrowCount_16, Fsuccessors_16, Fprobabilities_16, FexactProbabilities_16, FtransitionCount_16, FsortKeys_16, AF1_16, AF2_16, AF3_16, AF4_16⟩ := Bq16
      have K16 := Kq16
      have E_a_e16 := E_a.keep K16
      have AF1_e16 := AF1.keep K16 (ninS (Ne.symm ne_a_AA1) (ninS ne_AA1_AA2 (ninS ne_AA1_AA3 nin0)))
      have AF4_e16 := AF4.keep K16 (ninS (Ne.symm ne_a_AA4) (ninS (Ne.symm ne_AA2_AA4) (ninS (Ne.symm ne_AA3_AA4) nin0)))
      have O16 := O0.keep K16 (allS g_a (allS g_AA2 (allS g_AA3 all0)))
      have KK16 : Keep h0 T16.heap [a, AA1, AA2, AA3, AA4] := (Keep.refl h0 [a, AA1, AA2, AA3, AA4]).trans K16 (allS (Or.inl (List.mem_of_getElem? (i := 0) rfl)) (allS (Or.inl (List.mem_of_getElem? (i := 2) rfl)) (allS (Or.inl (List.mem_of_getElem? (i := 3) rfl)) all0)))
      have cn17 := fun (t : State) (kt : Steps p.tables e below (T16.setTop (mkF m 58 #[.val (.ref a), .val (.int p1), .val (.int (1 : Int32)), .val (.int p2), .val (.int p3), .val (.int p4), .val (.int ((p1.toUInt32 >>> ((2 : Int32) &&& 31).toUInt32).toInt32)), .val (.int (p2 &&& (2147483647 : Int32))), .val (.double (FP.l2d v8)), .second] [(.int (1 : Int32))])) t) => cn15 t (by
        refine st16.trans ?_
        show Steps p.tables e below (T16.setTop (mkF m 57 #[.val (.ref a), .val (.int p1), .val (.int (1 : Int32)), .val (.int p2), .val (.int p3), .val (.int p4), .val (.int ((p1.toUInt32 >>> ((2 : Int32) &&& 31).toUInt32).toInt32)), .val (.int (p2 &&& (2147483647 : Int32))), .val (.double (FP.l2d v8)), .second] [])) _
        refine XS.iconst X16.here hx rfl (hb hby d4_57) ?_
        show Steps p.tables e below (T16.setTop (mkF m 58 #[.val (.ref a), .val (.int p1), .val (.int (1 : Int32)), .val (.int p2), .val (.int p3), .val (.int p4), .val (.int ((p1.toUInt32 >>> ((2 : Int32) &&& 31).toUInt32).toInt32)), .val (.int (p2 &&& (2147483647 : Int32))), .val (.double (FP.l2d v8)), .second] [(.int (1 : Int32))])) _
        exact kt)
      obtain ⟨frs, hr, hrun, hended, hW, hsame⟩ := X16.leave (v := some (.int (1 : Int32))) (fun h => by rw [Bd.returns] at h; cases h)
      refine ⟨_, _, cn17 _ ?_, hrun, hended, _, _, rfl, ?_, ⟨_, rfl⟩, hW, hsame.mono (by decide) (by decide)⟩
      · exact retN X16 hx (t := .boolean) Bd.returns (by simp) (hb hby d4_58) hr
      · show QT Z a AA1 AA2 AA3 AA4 kA1 kA2 kA3 kA4 2 h0 n0 _ T16.heap _
        exact ⟨_, _, _, _, _, rc, ft, c + 1, rfl, N16, KK16, ⟨E_a_16, FfirstTransitions_16, FrowCount_16, Fsuccessors_16, Fprobabilities_16, FexactProbabilities_16, FtransitionCount_16, FsortKeys_16, AF1_16, AF2_16, AF3_16, AF4_16⟩, by omega, by omega, hft, H2.upd _ _, (HT.mono (by rw [← own_p1]; omega)).upd _ (by omega) (by have := own_p8 (1 + 1); omega), Or.inl ⟨rfl, Nat.succ_pos c⟩⟩

theorem ef_T2 (m : MethodId) (x0 : Addr) (x1 : Int32) (x2 : Int32) (x3 : Int32) (x4 : Int32) (x5 : Int32) : entryFrame m #[(.ref x0), (.int x1), (.int x2), (.int x3), (.int x4), (.int x5)] 10 = mkF m 0 #[.val (.ref x0), .val (.int x1), .val (.int x2), .val (.int x3), .val (.int x4), .val (.int x5), .unset, .unset, .unset, .unset] [] := by first | (simp [entryFrame, mkF, argsToLocals, Value.category]; done) | rfl
set_option maxRecDepth 65536 in
set_option maxHeartbeats 40000000 in
theorem rmT2 (l : Launch) (Z : State) (a0 : Array Value) (hw : ∀ d ∈ tables_1, d.before a0 Z = true) (ws : List Jvm.Cond) (a AA1 AA2 AA3 AA4 : Addr) (kA1 kA2 kA3 kA4 : ClassId) (f1 f2 f3 f4 : Nat → Value) (rc ft c : Nat) (p1 p2 p3 p4 r : Int32) (h0 : Heap) (n0 : Nat) (O0 : Old Z n0 h0) (TNh : TN n0 a AA1 AA2 AA3 AA4) (I : INV Z h0 a AA1 AA2 AA3 AA4 kA1 kA2 kA3 kA4 2 r f1 f2 f3 f4 rc ft c) :
    MetFree l (⟨"com/example/probver/probver/model/TransitionRowsRowOpenPinLaw", "step", "(Lcom/example/probver/probver/model/TransitionRows;IIIII)Z"⟩ : MethodName) (head1 (Jvm.Cond.code (⟨"com/example/probver/probver/model/TransitionRowsRowOpenPinLaw", "step", "(Lcom/example/probver/probver/model/TransitionRows;IIIII)Z"⟩ : MethodName) method_2_code 10 (some .boolean) :: ws) ({ frames := 6, cells := 1, slots := 4, locals := 123 } : Room)) (fun aQ U => aQ = #[(.ref a), (.int p1), (.int (2 : Int32)), (.int p2), (.int p3), (.int p4)] ∧ Z.Warmed39 U.vm ∧ U.heap = h0) (fun _ _ _ _ _ => True) (fun _ U o U' => ∃ v L, o = .returned v ∧ QT Z a AA1 AA2 AA3 AA4 kA1 kA2 kA3 kA4 3 h0 n0 v U'.heap L ∧ FrameEnd U o U' L ({ frames := 6, cells := 1, slots := 4, locals := 123 } : Room).cells ({ frames := 6, cells := 1, slots := 4, locals := 123 } : Room).slots) := by
  refine MetFree.of_bodySF (plainFor_of_name pn_com_example_probver_probver_model_TransitionRowsRowOpenPinLaw) hisR ?_
  intro p e s m args below meth kode s₁ Bd hml0 hP hK
  obtain ⟨rfl, hZ, hh⟩ := hP
  have hx := Bd.exec
  have hby := Bd.bytes
  have hml : kode.maxLocals = 10 := hml0
  have hown : s.vm.findClass "com/example/probver/probver/model/TransitionRowsRowOpenPinLaw" = some m.cls := findClass_of_methodNamed Bd.named
  have hnm := (name_of_methodNamed Bd.named Bd.method).1
  have X0 : Stand p l e ({ frames := 6, cells := 1, slots := 4, locals := 123 } : Room) s m #[(.ref a), (.int p1), (.int (2 : Int32)), (.int p2), (.int p3), (.int p4)] below meth kode s₁ [] 0 0 := Stand.of_body Bd
  have e0 : s₁.heap = h0 := by rw [← hh, Bd.state]; rfl
  have N0 := Fr.nil n0
  have pre0 : ∀ t, Steps p.tables e below (s₁.setTop (mkF m 0 #[.val (.ref a), .val (.int p1), .val (.int (2 : Int32)), .val (.int p2), .val (.int p3), .val (.int p4), .unset, .unset, .unset, .unset] [])) t → Steps p.tables e below (s₁.setTop (entryFrame m #[(.ref a), (.int p1), (.int (2 : Int32)), (.int p2), (.int p3), (.int p4)] 10)) t := fun t k => castTop (ef_T2 m a p1 (2 : Int32) p2 p3 p4) k
  have TNx := TNh
  obtain ⟨⟨g_a, g_AA1, g_AA2, g_AA3, g_AA4⟩, ne_a_AA1, ne_a_AA2, ne_a_AA3, ne_a_AA4, ne_AA1_AA2, ne_AA1_AA3, ne_AA1_AA4, ne_AA2_AA3, ne_AA2_AA4, ne_AA3_AA4⟩ := TNx
  obtain ⟨B, hrc, hfci, hft, H2, HT, hor⟩ := I
  obtain ⟨E_a, FfirstTransitions, FrowCount, Fsuccessors, Fprobabilities, FexactProbabilities, FtransitionCount, FsortKeys, AF1, AF2, AF3, AF4⟩ := B
  have cn1 := fun (t : State) (kt : Steps p.tables e below (s₁.setTop (mkF m 11 #[.val (.ref a), .val (.int p1), .val (.int (2 : Int32)), .val (.int p2), .val (.int p3), .val (.int p4), .val (.int ((p1.toUInt32 >>> ((4 : Int32) &&& 31).toUInt32).toInt32)), .unset, .unset, .unset] [(.int (((p1.toUInt32 >>> ((4 : Int32) &&& 31).toUInt32).toInt32) &&& (1 : Int32)))])) t) => pre0 t (by
    refine XS.iloadN X0.here hx rfl (hb hby d4_0) rfl ?_
    show Steps p.tables e below (s₁.setTop (mkF m 1 #[.val (.ref a), .val (.int p1), .val (.int (2 : Int32)), .val (.int p2), .val (.int p3), .val (.int p4), .unset, .unset, .unset, .unset] [(.int p1)])) _
    refine XS.iconst X0.here hx rfl (hb hby d4_1) ?_
    show Steps p.tables e below (s₁.setTop (mkF m 2 #[.val (.ref a), .val (.int p1), .val (.int (2 : Int32)), .val (.int p2), .val (.int p3), .val (.int p4), .unset, .unset, .unset, .unset] [(.int (2 : Int32)), (.int p1)])) _
    refine XS.iloadN X0.here hx rfl (hb hby d4_2) rfl ?_
    show Steps p.tables e below (s₁.setTop (mkF m 3 #[.val (.ref a), .val (.int p1), .val (.int (2 : Int32)), .val (.int p2), .val (.int p3), .val (.int p4), .unset, .unset, .unset, .unset] [(.int (2 : Int32)), (.int (2 : Int32)), (.int p1)])) _
    refine XS.imul X0.here hx rfl (hb hby d4_3) rfl ?_
    show Steps p.tables e below (s₁.setTop (mkF m 4 #[.val (.ref a), .val (.int p1), .val (.int (2 : Int32)), .val (.int p2), .val (.int p3), .val (.int p4), .unset, .unset, .unset, .unset] [(.int (4 : Int32)), (.int p1)])) _
    refine XS.iushr X0.here hx rfl (hb hby d4_4) rfl ?_
    show Steps p.tables e below (s₁.setTop (mkF m 5 #[.val (.ref a), .val (.int p1), .val (.int (2 : Int32)), .val (.int p2), .val (.int p3), .val (.int p4), .unset, .unset, .unset, .unset] [(.int ((p1.toUInt32 >>> ((4 : Int32) &&& 31).toUInt32).toInt32))])) _
    refine XS.istore X0.here hx rfl (hb hby d4_5) rfl (l' := #[.val (.ref a), .val (.int p1), .val (.int (2 : Int32)), .val (.int p2), .val (.int p3), .val (.int p4), .val (.int ((p1.toUInt32 >>> ((4 : Int32) &&& 31).toUInt32).toInt32)), .unset, .unset, .unset]) rfl ?_
    show Steps p.tables e below (s₁.setTop (mkF m 7 #[.val (.ref a), .val (.int p1), .val (.int (2 : Int32)), .val (.int p2), .val (.int p3), .val (.int p4), .val (.int ((p1.toUInt32 >>> ((4 : Int32) &&& 31).toUInt32).toInt32)), .unset, .unset, .unset] [])) _
    refine XS.iload X0.here hx rfl (hb hby d4_7) rfl ?_
    show Steps p.tables e below (s₁.setTop (mkF m 9 #[.val (.ref a), .val (.int p1), .val (.int (2 : Int32)), .val (.int p2), .val (.int p3), .val (.int p4), .val (.int ((p1.toUInt32 >>> ((4 : Int32) &&& 31).toUInt32).toInt32)), .unset, .unset, .unset] [(.int ((p1.toUInt32 >>> ((4 : Int32) &&& 31).toUInt32).toInt32))])) _
    refine XS.iconst X0.here hx rfl (hb hby d4_9) ?_
    show Steps p.tables e below (s₁.setTop (mkF m 10 #[.val (.ref a), .val (.int p1), .val (.int (2 : Int32)), .val (.int p2), .val (.int p3), .val (.int p4), .val (.int ((p1.toUInt32 >>> ((4 : Int32) &&& 31).toUInt32).toInt32)), .unset, .unset, .unset] [(.int (1 : Int32)), (.int ((p1.toUInt32 >>> ((4 : Int32) &&& 31).toUInt32).toInt32))])) _
    refine XS.iand X0.here hx rfl (hb hby d4_10) rfl ?_
    show Steps p.tables e below (s₁.setTop (mkF m 11 #[.val (.ref a), .val (.int p1), .val (.int (2 : Int32)), .val (.int p2), .val (.int p3), .val (.int p4), .val (.int ((p1.toUInt32 >>> ((4 : Int32) &&& 31).toUInt32).toInt32)), .unset, .unset, .unset] [(.int (((p1.toUInt32 >>> ((4 : Int32) &&& 31).toUInt32).toInt32) &&& (1 : Int32)))])) _
    exact kt)
  by_cases hc11_2 : (((p1.toUInt32 >>> ((4 : Int32) &&& 31).toUInt32).toInt32) &&& (1 : Int32)) = (0 : Int32)
  · have cn3 := fun (t : State) (kt : Steps p.tables e below (s₁.setTop (mkF m 60 #[.val (.ref a), .val (.int p1), .val (.int (2 : Int32)), .val (.int p2), .val (.int p3), .val (.int p4), .val (.int ((p1.toUInt32 >>> ((4 : Int32) &&& 31).toUInt32).toInt32)), .unset, .unset, .unset] [(.ref a)])) t) => cn1 t (by
      refine XS.ifYes X0.here hx rfl (pc0 := 11) (pc' := 59) rfl (hb hby d4_11) rfl ((if0 _ _).trans (teq hc11_2).1) (by decide) (by decide) ?_
      show Steps p.tables e below (s₁.setTop (mkF m 59 #[.val (.ref a), .val (.int p1), .val (.int (2 : Int32)), .val (.int p2), .val (.int p3), .val (.int p4), .val (.int ((p1.toUInt32 >>> ((4 : Int32) &&& 31).toUInt32).toInt32)), .unset, .unset, .unset] [])) _
      refine XS.aloadN X0.here hx rfl (hb hby d4_59) rfl rfl ?_
      show Steps p.tables e below (s₁.setTop (mkF m 60 #[.val (.ref a), .val (.int p1), .val (.int (2 : Int32)), .val (.int p2), .val (.int p3), .val (.int p4), .val (.int ((p1.toUInt32 >>> ((4 : Int32) &&& 31).toUInt32).toInt32)), .unset, .unset, .unset] [(.ref a)])) _
      exact kt)
    obtain ⟨cq4, kq4, q4a, q4b, q4c⟩ := isOf hZ e0 E_a
    obtain ⟨_, _, ⟨T4, L4, k4, n4⟩, -, X4, ⟨Lc4, hQ4, l4, y4, z4⟩, st4⟩ := X0.virtualBack hx (y := (⟨"com/example/probver/probver/model/TransitionRows", "endRow", "()V"⟩ : MethodName)) (z := (⟨"com/example/probver/probver/model/TransitionRows", "endRow", "()V"⟩ : MethodName)) hown (mvT hZ (hw _ (List.mem_of_getElem? (i := 33) rfl))) (mvT hZ (hw _ (List.mem_of_getElem? (i := 34) rfl))) (notFace_of_selects (args := #[]) (mvT hZ (hw _ (List.mem_of_getElem? (i := 36) rfl)))) (mvT hZ (hw _ (List.mem_of_getElem? (i := 36) rfl))) (mvT hZ (hw _ (List.mem_of_getElem? (i := 35) rfl))) (by decide) (backOf (W := 0) (rm5 l Z a0 hw [] a AA1 AA2 AA3 AA4 kA1 kA2 kA3 kA4 f1 f2 f3 f4 rc ft c (8 * 5 ^ 2) h0 n0 O0 TNh ⟨E_a, FfirstTransitions, FrowCount, Fsuccessors, Fprobabilities, FexactProbabilities, FtransitionCount, FsortKeys, AF1, AF2, AF3, AF4⟩ (by omega) hft (by omega) (by omega) H2 HT (own_pw 2 (by omega))) hZ (hw _ (List.mem_of_getElem? (i := 37) rfl)) (hw _ (List.mem_of_getElem? (i := 2) rfl)) (by decide) (by decide)) q4a q4c (g := (mkF m 60 #[.val (.ref a), .val (.int p1), .val (.int (2 : Int32)), .val (.int p2), .val (.int p3), .val (.int p4), .val (.int ((p1.toUInt32 >>> ((4 : Int32) &&& 31).toUInt32).toInt32)), .unset, .unset, .unset] [(.ref a)])) rfl (by rw [hml]; rfl) (Steps.refl _) (argsL := []) (rest := []) (lenOf pd_9 rfl) rfl (by show 2 * 0 + _ ≤ _; exact Nat.le_of_eq rfl) (hb hby d4_60) (fun _ _ => ⟨rfl, e0, (by decide : 0 + 1 ≤ _), (by decide : 0 + 4 ≤ _)⟩)
    dsimp only [Pt.U, Pt.locs, Pt.cells, Pt.slots] at X4 l4 y4 z4 st4 hQ4
    subst l4 y4 z4
    obtain ⟨mq, g2q4, g3q4, g4q4, rfl, Nq4, Kq4, hmc, Bq4, H2q4, H3q4⟩ := hQ4
    have N4 := Fr.app N0 Nq4
    obtain ⟨E_a_4, FfirstTransitions_4, FrowCount_4, Fsuccessors_4, Fprobabilities_4, FexactProbabilities_4, FtransitionCount_4, FsortKeys_4, AF1_4, AF2_4, AF3_4, AF4_4⟩ := Bq4
    have K4 := Kq4
    have E_a_e4 := E_a.keep K4
    have O4 := O0.keep K4 (allS g_a (allS g_AA1 (allS g_AA2 (allS g_AA3 (allS g_AA4 all0)))))
    have KK4 : Keep h0 T4.heap [a, AA1, AA2, AA3, AA4] := (Keep.refl h0 [a, AA1, AA2, AA3, AA4]).trans K4 (allS (Or.inl (List.mem_of_getElem? (i := 0) rfl)) (allS (Or.inl (List.mem_of_getElem? (i := 1) rfl)) (allS (Or.inl (List.mem_of_getElem? (i := 2) rfl)) (allS (Or.inl (List.mem_of_getElem? (i := 3) rfl)) (allS (Or.inl (List.mem_of_getElem? (i := 4) rfl)) all0)))))
    have cn5 := fun (t : State) (kt : Steps p.tables e below (T4.setTop (mkF m 64 #[.val (.ref a), .val (.int p1), .val (.int (2 : Int32)), .val (.int p2), .val (.int p3), .val (.int p4), .val (.int ((p1.toUInt32 >>> ((4 : Int32) &&& 31).toUInt32).toInt32)), .unset, .unset, .unset] [(.int (0 : Int32))])) t) => cn3 t (by
      refine st4.trans ?_
      show Steps p.tables e below (T4.setTop (mkF m 63 #[.val (.ref a), .val (.int p1), .val (.int (2 : Int32)), .val (.int p2), .val (.int p3), .val (.int p4), .val (.int ((p1.toUInt32 >>> ((4 : Int32) &&& 31).toUInt32).toInt32)), .unset, .unset, .unset] [])) _
      refine XS.iconst X4.here hx rfl (hb hby d4_63) ?_
      show Steps p.tables e below (T4.setTop (mkF m 64 #[.val (.ref a), .val (.int p1), .val (.int (2 : Int32)), .val (.int p2), .val (.int p3), .val (.int p4), .val (.int ((p1.toUInt32 >>> ((4 : Int32) &&& 31).toUInt32).toInt32)), .unset, .unset, .unset] [(.int (0 : Int32))])) _
      exact kt)
    obtain ⟨frs, hr, hrun, hended, hW, hsame⟩ := X4.leave (v := some (.int (0 : Int32))) (fun h => by rw [Bd.returns] at h; cases h)
    refine ⟨_, _, cn5 _ ?_, hrun, hended, _, _, rfl, ?_, ⟨_, rfl⟩, hW, hsame.mono (by decide) (by decide)⟩
    · exact retN X4 hx (t := .boolean) Bd.returns (by simp) (hb hby d4_64) hr
    · show QT Z a AA1 AA2 AA3 AA4 kA1 kA2 kA3 kA4 3 h0 n0 _ T4.heap _
      exact ⟨_, _, _, _, _, rc + 1, ft + mq, 0, rfl, N4, KK4, ⟨E_a_4, FfirstTransitions_4, FrowCount_4, Fsuccessors_4, Fprobabilities_4, FexactProbabilities_4, FtransitionCount_4, FsortKeys_4, AF1_4, AF2_4, AF3_4, AF4_4⟩, by omega, by omega, own_upd_eq _ _ _, H2q4, H3q4.mono (Nat.le_trans (Nat.mul_le_mul_left (8 * 5 ^ 2) (show c + 1 ≤ 5 by omega)) (Nat.le_of_eq (own_p1 2))), Or.inr ⟨rfl, rfl⟩⟩
  · have cn6 := fun (t : State) (kt : Steps p.tables e below (s₁.setTop (mkF m 18 #[.val (.ref a), .val (.int p1), .val (.int (2 : Int32)), .val (.int p2), .val (.int p3), .val (.int p4), .val (.int ((p1.toUInt32 >>> ((4 : Int32) &&& 31).toUInt32).toInt32)), .unset, .unset, .unset] [(.int (((p1.toUInt32 >>> ((4 : Int32) &&& 31).toUInt32).toInt32) &&& (2 : Int32)))])) t) => cn1 t (by
      refine XS.ifNo X0.here hx rfl (hb hby d4_11) rfl ((if0 _ _).trans (feq hc11_2).1) ?_
      show Steps p.tables e below (s₁.setTop (mkF m 14 #[.val (.ref a), .val (.int p1), .val (.int (2 : Int32)), .val (.int p2), .val (.int p3), .val (.int p4), .val (.int ((p1.toUInt32 >>> ((4 : Int32) &&& 31).toUInt32).toInt32)), .unset, .unset, .unset] [])) _
      refine XS.iload X0.here hx rfl (hb hby d4_14) rfl ?_
      show Steps p.tables e below (s₁.setTop (mkF m 16 #[.val (.ref a), .val (.int p1), .val (.int (2 : Int32)), .val (.int p2), .val (.int p3), .val (.int p4), .val (.int ((p1.toUInt32 >>> ((4 : Int32) &&& 31).toUInt32).toInt32)), .unset, .unset, .unset] [(.int ((p1.toUInt32 >>> ((4 : Int32) &&& 31).toUInt32).toInt32))])) _
      refine XS.iconst X0.here hx rfl (hb hby d4_16) ?_
      show Steps p.tables e below (s₁.setTop (mkF m 17 #[.val (.ref a), .val (.int p1), .val (.int (2 : Int32)), .val (.int p2), .val (.int p3), .val (.int p4), .val (.int ((p1.toUInt32 >>> ((4 : Int32) &&& 31).toUInt32).toInt32)), .unset, .unset, .unset] [(.int (2 : Int32)), (.int ((p1.toUInt32 >>> ((4 : Int32) &&& 31).toUInt32).toInt32))])) _
      refine XS.iand X0.here hx rfl (hb hby d4_17) rfl ?_
      show Steps p.tables e below (s₁.setTop (mkF m 18 #[.val (.ref a), .val (.int p1), .val (.int (2 : Int32)), .val (.int p2), .val (.int p3), .val (.int p4), .val (.int ((p1.toUInt32 >>> ((4 : Int32) &&& 31).toUInt32).toInt32)), .unset, .unset, .unset] [(.int (((p1.toUInt32 >>> ((4 : Int32) &&& 31).toUInt32).toInt32) &&& (2 : Int32)))])) _
      exact kt)
    by_cases hc18_7 : (((p1.toUInt32 >>> ((4 : Int32) &&& 31).toUInt32).toInt32) &&& (2 : Int32)) = (0 : Int32)
    · have cn8 := fun (t : State) (kt : Steps p.tables e below (s₁.setTop (mkF m 47 #[.val (.ref a), .val (.int p1), .val (.int (2 : Int32)), .val (.int p2), .val (.int p3), .val (.int p4), .val (.int ((p1.toUInt32 >>> ((4 : Int32) &&& 31).toUInt32).toInt32)), .val (.int (p3 &&& (2147483647 : Int32))), .unset, .unset] [(.double (FP.l2d (((((p4.toUInt32 >>> ((6 : Int32) &&& 31).toUInt32).toInt32) &&& (7 : Int32)) + (1 : Int32))).toInt64))])) t) => cn6 t (by
        refine XS.ifYes X0.here hx rfl (pc0 := 18) (pc' := 28) rfl (hb hby d4_18) rfl ((if0 _ _).trans (teq hc18_7).1) (by decide) (by decide) ?_
        show Steps p.tables e below (s₁.setTop (mkF m 28 #[.val (.ref a), .val (.int p1), .val (.int (2 : Int32)), .val (.int p2), .val (.int p3), .val (.int p4), .val (.int ((p1.toUInt32 >>> ((4 : Int32) &&& 31).toUInt32).toInt32)), .unset, .unset, .unset] [])) _
        refine XS.iload X0.here hx rfl (hb hby d4_28) rfl ?_
        show Steps p.tables e below (s₁.setTop (mkF m 30 #[.val (.ref a), .val (.int p1), .val (.int (2 : Int32)), .val (.int p2), .val (.int p3), .val (.int p4), .val (.int ((p1.toUInt32 >>> ((4 : Int32) &&& 31).toUInt32).toInt32)), .unset, .unset, .unset] [(.int p3)])) _
        refine X0.ldcInt hx hown (mvT hZ (hw _ (List.mem_of_getElem? (i := 78) rfl))) (g := (mkF m 30 #[.val (.ref a), .val (.int p1), .val (.int (2 : Int32)), .val (.int p2), .val (.int p3), .val (.int p4), .val (.int ((p1.toUInt32 >>> ((4 : Int32) &&& 31).toUInt32).toInt32)), .unset, .unset, .unset] [(.int p3)])) rfl (hb hby d4_30) _ ?_
        show Steps p.tables e below (s₁.setTop (mkF m 32 #[.val (.ref a), .val (.int p1), .val (.int (2 : Int32)), .val (.int p2), .val (.int p3), .val (.int p4), .val (.int ((p1.toUInt32 >>> ((4 : Int32) &&& 31).toUInt32).toInt32)), .unset, .unset, .unset] [(.int (2147483647 : Int32)), (.int p3)])) _
        refine XS.iand X0.here hx rfl (hb hby d4_32) rfl ?_
        show Steps p.tables e below (s₁.setTop (mkF m 33 #[.val (.ref a), .val (.int p1), .val (.int (2 : Int32)), .val (.int p2), .val (.int p3), .val (.int p4), .val (.int ((p1.toUInt32 >>> ((4 : Int32) &&& 31).toUInt32).toInt32)), .unset, .unset, .unset] [(.int (p3 &&& (2147483647 : Int32)))])) _
        refine XS.istore X0.here hx rfl (hb hby d4_33) rfl (l' := #[.val (.ref a), .val (.int p1), .val (.int (2 : Int32)), .val (.int p2), .val (.int p3), .val (.int p4), .val (.int ((p1.toUInt32 >>> ((4 : Int32) &&& 31).toUInt32).toInt32)), .val (.int (p3 &&& (2147483647 : Int32))), .unset, .unset]) rfl ?_
        show Steps p.tables e below (s₁.setTop (mkF m 35 #[.val (.ref a), .val (.int p1), .val (.int (2 : Int32)), .val (.int p2), .val (.int p3), .val (.int p4), .val (.int ((p1.toUInt32 >>> ((4 : Int32) &&& 31).toUInt32).toInt32)), .val (.int (p3 &&& (2147483647 : Int32))), .unset, .unset] [])) _
        refine XS.iload X0.here hx rfl (hb hby d4_35) rfl ?_
        show Steps p.tables e below (s₁.setTop (mkF m 37 #[.val (.ref a), .val (.int p1), .val (.int (2 : Int32)), .val (.int p2), .val (.int p3), .val (.int p4), .val (.int ((p1.toUInt32 >>> ((4 : Int32) &&& 31).toUInt32).toInt32)), .val (.int (p3 &&& (2147483647 : Int32))), .unset, .unset] [(.int p4)])) _
        refine XS.iconst X0.here hx rfl (hb hby d4_37) ?_
        show Steps p.tables e below (s₁.setTop (mkF m 38 #[.val (.ref a), .val (.int p1), .val (.int (2 : Int32)), .val (.int p2), .val (.int p3), .val (.int p4), .val (.int ((p1.toUInt32 >>> ((4 : Int32) &&& 31).toUInt32).toInt32)), .val (.int (p3 &&& (2147483647 : Int32))), .unset, .unset] [(.int (3 : Int32)), (.int p4)])) _
        refine XS.iloadN X0.here hx rfl (hb hby d4_38) rfl ?_
        show Steps p.tables e below (s₁.setTop (mkF m 39 #[.val (.ref a), .val (.int p1), .val (.int (2 : Int32)), .val (.int p2), .val (.int p3), .val (.int p4), .val (.int ((p1.toUInt32 >>> ((4 : Int32) &&& 31).toUInt32).toInt32)), .val (.int (p3 &&& (2147483647 : Int32))), .unset, .unset] [(.int (2 : Int32)), (.int (3 : Int32)), (.int p4)])) _
        refine XS.imul X0.here hx rfl (hb hby d4_39) rfl ?_
        show Steps p.tables e below (s₁.setTop (mkF m 40 #[.val (.ref a), .val (.int p1), .val (.int (2 : Int32)), .val (.int p2), .val (.int p3), .val (.int p4), .val (.int ((p1.toUInt32 >>> ((4 : Int32) &&& 31).toUInt32).toInt32)), .val (.int (p3 &&& (2147483647 : Int32))), .unset, .unset] [(.int (6 : Int32)), (.int p4)])) _
        refine XS.iushr X0.here hx rfl (hb hby d4_40) rfl ?_
        show Steps p.tables e below (s₁.setTop (mkF m 41 #[.val (.ref a), .val (.int p1), .val (.int (2 : Int32)), .val (.int p2), .val (.int p3), .val (.int p4), .val (.int ((p1.toUInt32 >>> ((4 : Int32) &&& 31).toUInt32).toInt32)), .val (.int (p3 &&& (2147483647 : Int32))), .unset, .unset] [(.int ((p4.toUInt32 >>> ((6 : Int32) &&& 31).toUInt32).toInt32))])) _
        refine XS.bipush X0.here hx rfl (hb hby d4_41) ?_
        show Steps p.tables e below (s₁.setTop (mkF m 43 #[.val (.ref a), .val (.int p1), .val (.int (2 : Int32)), .val (.int p2), .val (.int p3), .val (.int p4), .val (.int ((p1.toUInt32 >>> ((4 : Int32) &&& 31).toUInt32).toInt32)), .val (.int (p3 &&& (2147483647 : Int32))), .unset, .unset] [(.int (7 : Int32)), (.int ((p4.toUInt32 >>> ((6 : Int32) &&& 31).toUInt32).toInt32))])) _
        refine XS.iand X0.here hx rfl (hb hby d4_43) rfl ?_
        show Steps p.tables e below (s₁.setTop (mkF m 44 #[.val (.ref a), .val (.int p1), .val (.int (2 : Int32)), .val (.int p2), .val (.int p3), .val (.int p4), .val (.int ((p1.toUInt32 >>> ((4 : Int32) &&& 31).toUInt32).toInt32)), .val (.int (p3 &&& (2147483647 : Int32))), .unset, .unset] [(.int (((p4.toUInt32 >>> ((6 : Int32) &&& 31).toUInt32).toInt32) &&& (7 : Int32)))])) _
        refine XS.iconst X0.here hx rfl (hb hby d4_44) ?_
        show Steps p.tables e below (s₁.setTop (mkF m 45 #[.val (.ref a), .val (.int p1), .val (.int (2 : Int32)), .val (.int p2), .val (.int p3), .val (.int p4), .val (.int ((p1.toUInt32 >>> ((4 : Int32) &&& 31).toUInt32).toInt32)), .val (.int (p3 &&& (2147483647 : Int32))), .unset, .unset] [(.int (1 : Int32)), (.int (((p4.toUInt32 >>> ((6 : Int32) &&& 31).toUInt32).toInt32) &&& (7 : Int32)))])) _
        refine XS.iadd X0.here hx rfl (hb hby d4_45) rfl ?_
        show Steps p.tables e below (s₁.setTop (mkF m 46 #[.val (.ref a), .val (.int p1), .val (.int (2 : Int32)), .val (.int p2), .val (.int p3), .val (.int p4), .val (.int ((p1.toUInt32 >>> ((4 : Int32) &&& 31).toUInt32).toInt32)), .val (.int (p3 &&& (2147483647 : Int32))), .unset, .unset] [(.int ((((p4.toUInt32 >>> ((6 : Int32) &&& 31).toUInt32).toInt32) &&& (7 : Int32)) + (1 : Int32)))])) _
        refine XS.i2dS X0.here hx rfl (hb hby d4_46) rfl (v := (FP.l2d (((((p4.toUInt32 >>> ((6 : Int32) &&& 31).toUInt32).toInt32) &&& (7 : Int32)) + (1 : Int32))).toInt64)) (i2d_w _) ?_
        show Steps p.tables e below (s₁.setTop (mkF m 47 #[.val (.ref a), .val (.int p1), .val (.int (2 : Int32)), .val (.int p2), .val (.int p3), .val (.int p4), .val (.int ((p1.toUInt32 >>> ((4 : Int32) &&& 31).toUInt32).toInt32)), .val (.int (p3 &&& (2147483647 : Int32))), .unset, .unset] [(.double (FP.l2d (((((p4.toUInt32 >>> ((6 : Int32) &&& 31).toUInt32).toInt32) &&& (7 : Int32)) + (1 : Int32))).toInt64))])) _
        exact kt)
      obtain ⟨dvv, hdv, cn9⟩ : ∃ dvv : UInt64, (∃ v8 : Int64, dvv = FP.l2d v8 ∧ 1 ≤ v8.toInt ∧ v8.toInt ≤ 8) ∧ ∀ t, Steps p.tables e below (s₁.setTop (mkF m 47 #[.val (.ref a), .val (.int p1), .val (.int (2 : Int32)), .val (.int p2), .val (.int p3), .val (.int p4), .val (.int ((p1.toUInt32 >>> ((4 : Int32) &&& 31).toUInt32).toInt32)), .val (.int (p3 &&& (2147483647 : Int32))), .unset, .unset] [(.double dvv)])) t → Steps p.tables e below (s₁.setTop (entryFrame m #[(.ref a), (.int p1), (.int (2 : Int32)), (.int p2), (.int p3), (.int p4)] 10)) t := ⟨(FP.l2d (((((p4.toUInt32 >>> ((6 : Int32) &&& 31).toUInt32).toInt32) &&& (7 : Int32)) + (1 : Int32))).toInt64), ⟨_, rfl, own_x8 _⟩, cn8⟩
      obtain ⟨v8, rfl, hv8⟩ := hdv
      have cn10 := fun (t : State) (kt : Steps p.tables e below (s₁.setTop (mkF m 54 #[.val (.ref a), .val (.int p1), .val (.int (2 : Int32)), .val (.int p2), .val (.int p3), .val (.int p4), .val (.int ((p1.toUInt32 >>> ((4 : Int32) &&& 31).toUInt32).toInt32)), .val (.int (p3 &&& (2147483647 : Int32))), .val (.double (FP.l2d v8)), .second] [(.double (FP.l2d v8)), (.int (p3 &&& (2147483647 : Int32))), (.ref a)])) t) => cn9 t (by
        refine XS.dstore X0.here hx rfl (hb hby d4_47) rfl (l' := #[.val (.ref a), .val (.int p1), .val (.int (2 : Int32)), .val (.int p2), .val (.int p3), .val (.int p4), .val (.int ((p1.toUInt32 >>> ((4 : Int32) &&& 31).toUInt32).toInt32)), .val (.int (p3 &&& (2147483647 : Int32))), .val (.double (FP.l2d v8)), .second]) rfl ?_
        show Steps p.tables e below (s₁.setTop (mkF m 49 #[.val (.ref a), .val (.int p1), .val (.int (2 : Int32)), .val (.int p2), .val (.int p3), .val (.int p4), .val (.int ((p1.toUInt32 >>> ((4 : Int32) &&& 31).toUInt32).toInt32)), .val (.int (p3 &&& (2147483647 : Int32))), .val (.double (FP.l2d v8)), .second] [])) _
        refine XS.aloadN X0.here hx rfl (hb hby d4_49) rfl rfl ?_
        show Steps p.tables e below (s₁.setTop (mkF m 50 #[.val (.ref a), .val (.int p1), .val (.int (2 : Int32)), .val (.int p2), .val (.int p3), .val (.int p4), .val (.int ((p1.toUInt32 >>> ((4 : Int32) &&& 31).toUInt32).toInt32)), .val (.int (p3 &&& (2147483647 : Int32))), .val (.double (FP.l2d v8)), .second] [(.ref a)])) _
        refine XS.iload X0.here hx rfl (hb hby d4_50) rfl ?_
        show Steps p.tables e below (s₁.setTop (mkF m 52 #[.val (.ref a), .val (.int p1), .val (.int (2 : Int32)), .val (.int p2), .val (.int p3), .val (.int p4), .val (.int ((p1.toUInt32 >>> ((4 : Int32) &&& 31).toUInt32).toInt32)), .val (.int (p3 &&& (2147483647 : Int32))), .val (.double (FP.l2d v8)), .second] [(.int (p3 &&& (2147483647 : Int32))), (.ref a)])) _
        refine XS.dload X0.here hx rfl (hb hby d4_52) rfl ?_
        show Steps p.tables e below (s₁.setTop (mkF m 54 #[.val (.ref a), .val (.int p1), .val (.int (2 : Int32)), .val (.int p2), .val (.int p3), .val (.int p4), .val (.int ((p1.toUInt32 >>> ((4 : Int32) &&& 31).toUInt32).toInt32)), .val (.int (p3 &&& (2147483647 : Int32))), .val (.double (FP.l2d v8)), .second] [(.double (FP.l2d v8)), (.int (p3 &&& (2147483647 : Int32))), (.ref a)])) _
        exact kt)
      obtain ⟨cq11, kq11, q11a, q11b, q11c⟩ := isOf hZ e0 E_a
      obtain ⟨_, _, ⟨T11, L11, k11, n11⟩, -, X11, ⟨Lc11, hQ11, l11, y11, z11⟩, st11⟩ := X0.virtualBack hx (y := (⟨"com/example/probver/probver/model/TransitionRows", "add", "(ID)V"⟩ : MethodName)) (z := (⟨"com/example/probver/probver/model/TransitionRows", "add", "(ID)V"⟩ : MethodName)) hown (mvT hZ (hw _ (List.mem_of_getElem? (i := 79) rfl))) (mvT hZ (hw _ (List.mem_of_getElem? (i := 80) rfl))) (notFace_of_selects (args := #[]) (mvT hZ (hw _ (List.mem_of_getElem? (i := 82) rfl)))) (mvT hZ (hw _ (List.mem_of_getElem? (i := 82) rfl))) (mvT hZ (hw _ (List.mem_of_getElem? (i := 81) rfl))) (by decide) (backOf (W := 0) (rm16 l Z a0 hw [] a AA1 AA2 AA3 AA4 kA1 kA2 kA3 kA4 f1 f2 f3 f4 rc (ft + c) (p3 &&& (2147483647 : Int32)) (FP.l2d v8) h0 n0 O0 TNh ⟨E_a, FfirstTransitions, FrowCount, Fsuccessors, Fprobabilities, FexactProbabilities, FtransitionCount, FsortKeys, AF1, AF2, AF3, AF4⟩ (by omega) (own_pos _) (own_dl hv8.1 hv8.2) own_dg) hZ (hw _ (List.mem_of_getElem? (i := 83) rfl)) (hw _ (List.mem_of_getElem? (i := 2) rfl)) (by decide) (by decide)) q11a q11c (g := (mkF m 54 #[.val (.ref a), .val (.int p1), .val (.int (2 : Int32)), .val (.int p2), .val (.int p3), .val (.int p4), .val (.int ((p1.toUInt32 >>> ((4 : Int32) &&& 31).toUInt32).toInt32)), .val (.int (p3 &&& (2147483647 : Int32))), .val (.double (FP.l2d v8)), .second] [(.double (FP.l2d v8)), (.int (p3 &&& (2147483647 : Int32))), (.ref a)])) rfl (by rw [hml]; rfl) (Steps.refl _) (argsL := [(.int (p3 &&& (2147483647 : Int32))), (.double (FP.l2d v8))]) (rest := []) (lenOf pd_1 rfl) rfl (by show 2 * 0 + _ ≤ _; exact Nat.le_of_eq rfl) (hb hby d4_54) (fun _ _ => ⟨rfl, e0, (by decide : 0 + 0 ≤ _), (by decide : 0 + 0 ≤ _)⟩)
      dsimp only [Pt.U, Pt.locs, Pt.cells, Pt.slots] at X11 l11 y11 z11 st11 hQ11
      subst l11 y11 z11
      obtain ⟨rfl, Nq11, Kq11, Bq11⟩ := hQ11
      have N11 := Fr.app N0 Nq11
      obtain ⟨E_a_11, FfirstTransitions_11, FrowCount_11, Fsuccessors_11, Fprobabilities_11, FexactProbabilities_11, FtransitionCount_11, FsortKeys_11, AF1_11, AF2_11, AF3_11, AF4_11⟩ := Bq11
      have K11 := Kq11
      have E_a_e11 := E_a.keep K11
      have AF1_e11 := AF1.keep K11 (ninS (Ne.symm ne_a_AA1) (ninS ne_AA1_AA2 (ninS ne_AA1_AA3 nin0)))
      have AF4_e11 := AF4.keep K11 (ninS (Ne.symm ne_a_AA4) (ninS (Ne.symm ne_AA2_AA4) (ninS (Ne.symm ne_AA3_AA4) nin0)))
      have O11 := O0.keep K11 (allS g_a (allS g_AA2 (allS g_AA3 all0)))
      have KK11 : Keep h0 T11.heap [a, AA1, AA2, AA3, AA4] := (Keep.refl h0 [a, AA1, AA2, AA3, AA4]).trans K11 (allS (Or.inl (List.mem_of_getElem? (i := 0) rfl)) (allS (Or.inl (List.mem_of_getElem? (i := 2) rfl)) (allS (Or.inl (List.mem_of_getElem? (i := 3) rfl)) all0)))
      have cn12 := fun (t : State) (kt : Steps p.tables e below (T11.setTop (mkF m 58 #[.val (.ref a), .val (.int p1), .val (.int (2 : Int32)), .val (.int p2), .val (.int p3), .val (.int p4), .val (.int ((p1.toUInt32 >>> ((4 : Int32) &&& 31).toUInt32).toInt32)), .val (.int (p3 &&& (2147483647 : Int32))), .val (.double (FP.l2d v8)), .second] [(.int (1 : Int32))])) t) => cn10 t (by
        refine st11.trans ?_
        show Steps p.tables e below (T11.setTop (mkF m 57 #[.val (.ref a), .val (.int p1), .val (.int (2 : Int32)), .val (.int p2), .val (.int p3), .val (.int p4), .val (.int ((p1.toUInt32 >>> ((4 : Int32) &&& 31).toUInt32).toInt32)), .val (.int (p3 &&& (2147483647 : Int32))), .val (.double (FP.l2d v8)), .second] [])) _
        refine XS.iconst X11.here hx rfl (hb hby d4_57) ?_
        show Steps p.tables e below (T11.setTop (mkF m 58 #[.val (.ref a), .val (.int p1), .val (.int (2 : Int32)), .val (.int p2), .val (.int p3), .val (.int p4), .val (.int ((p1.toUInt32 >>> ((4 : Int32) &&& 31).toUInt32).toInt32)), .val (.int (p3 &&& (2147483647 : Int32))), .val (.double (FP.l2d v8)), .second] [(.int (1 : Int32))])) _
        exact kt)
      obtain ⟨frs, hr, hrun, hended, hW, hsame⟩ := X11.leave (v := some (.int (1 : Int32))) (fun h => by rw [Bd.returns] at h; cases h)
      refine ⟨_, _, cn12 _ ?_, hrun, hended, _, _, rfl, ?_, ⟨_, rfl⟩, hW, hsame.mono (by decide) (by decide)⟩
      · exact retN X11 hx (t := .boolean) Bd.returns (by simp) (hb hby d4_58) hr
      · show QT Z a AA1 AA2 AA3 AA4 kA1 kA2 kA3 kA4 3 h0 n0 _ T11.heap _
        exact ⟨_, _, _, _, _, rc, ft, c + 1, rfl, N11, KK11, ⟨E_a_11, FfirstTransitions_11, FrowCount_11, Fsuccessors_11, Fprobabilities_11, FexactProbabilities_11, FtransitionCount_11, FsortKeys_11, AF1_11, AF2_11, AF3_11, AF4_11⟩, by omega, by omega, hft, H2.upd _ _, (HT.mono (by rw [← own_p1]; omega)).upd _ (by omega) (by have := own_p8 (2 + 1); omega), Or.inl ⟨rfl, Nat.succ_pos c⟩⟩
    · have cn13 := fun (t : State) (kt : Steps p.tables e below (s₁.setTop (mkF m 47 #[.val (.ref a), .val (.int p1), .val (.int (2 : Int32)), .val (.int p2), .val (.int p3), .val (.int p4), .val (.int ((p1.toUInt32 >>> ((4 : Int32) &&& 31).toUInt32).toInt32)), .val (.int (p2 &&& (2147483647 : Int32))), .unset, .unset] [(.double (FP.l2d (((((p4.toUInt32 >>> ((6 : Int32) &&& 31).toUInt32).toInt32) &&& (7 : Int32)) + (1 : Int32))).toInt64))])) t) => cn6 t (by
        refine XS.ifNo X0.here hx rfl (hb hby d4_18) rfl ((if0 _ _).trans (feq hc18_7).1) ?_
        show Steps p.tables e below (s₁.setTop (mkF m 21 #[.val (.ref a), .val (.int p1), .val (.int (2 : Int32)), .val (.int p2), .val (.int p3), .val (.int p4), .val (.int ((p1.toUInt32 >>> ((4 : Int32) &&& 31).toUInt32).toInt32)), .unset, .unset, .unset] [])) _
        refine XS.iloadN X0.here hx rfl (hb hby d4_21) rfl ?_
        show Steps p.tables e below (s₁.setTop (mkF m 22 #[.val (.ref a), .val (.int p1), .val (.int (2 : Int32)), .val (.int p2), .val (.int p3), .val (.int p4), .val (.int ((p1.toUInt32 >>> ((4 : Int32) &&& 31).toUInt32).toInt32)), .unset, .unset, .unset] [(.int p2)])) _
        refine X0.ldcInt hx hown (mvT hZ (hw _ (List.mem_of_getElem? (i := 78) rfl))) (g := (mkF m 22 #[.val (.ref a), .val (.int p1), .val (.int (2 : Int32)), .val (.int p2), .val (.int p3), .val (.int p4), .val (.int ((p1.toUInt32 >>> ((4 : Int32) &&& 31).toUInt32).toInt32)), .unset, .unset, .unset] [(.int p2)])) rfl (hb hby d4_22) _ ?_
        show Steps p.tables e below (s₁.setTop (mkF m 24 #[.val (.ref a), .val (.int p1), .val (.int (2 : Int32)), .val (.int p2), .val (.int p3), .val (.int p4), .val (.int ((p1.toUInt32 >>> ((4 : Int32) &&& 31).toUInt32).toInt32)), .unset, .unset, .unset] [(.int (2147483647 : Int32)), (.int p2)])) _
        refine XS.iand X0.here hx rfl (hb hby d4_24) rfl ?_
        show Steps p.tables e below (s₁.setTop (mkF m 25 #[.val (.ref a), .val (.int p1), .val (.int (2 : Int32)), .val (.int p2), .val (.int p3), .val (.int p4), .val (.int ((p1.toUInt32 >>> ((4 : Int32) &&& 31).toUInt32).toInt32)), .unset, .unset, .unset] [(.int (p2 &&& (2147483647 : Int32)))])) _
        refine XS.goto X0.here hx rfl (pc0 := 25) (pc' := 33) rfl (hb hby d4_25) (by decide) (by decide) ?_
        show Steps p.tables e below (s₁.setTop (mkF m 33 #[.val (.ref a), .val (.int p1), .val (.int (2 : Int32)), .val (.int p2), .val (.int p3), .val (.int p4), .val (.int ((p1.toUInt32 >>> ((4 : Int32) &&& 31).toUInt32).toInt32)), .unset, .unset, .unset] [(.int (p2 &&& (2147483647 : Int32)))])) _
        refine XS.istore X0.here hx rfl (hb hby d4_33) rfl (l' := #[.val (.ref a), .val (.int p1), .val (.int (2 : Int32)), .val (.int p2), .val (.int p3), .val (.int p4), .val (.int ((p1.toUInt32 >>> ((4 : Int32) &&& 31).toUInt32).toInt32)), .val (.int (p2 &&& (2147483647 : Int32))), .unset, .unset]) rfl ?_
        show Steps p.tables e below (s₁.setTop (mkF m 35 #[.val (.ref a), .val (.int p1), .val (.int (2 : Int32)), .val (.int p2), .val (.int p3), .val (.int p4), .val (.int ((p1.toUInt32 >>> ((4 : Int32) &&& 31).toUInt32).toInt32)), .val (.int (p2 &&& (2147483647 : Int32))), .unset, .unset] [])) _
        refine XS.iload X0.here hx rfl (hb hby d4_35) rfl ?_
        show Steps p.tables e below (s₁.setTop (mkF m 37 #[.val (.ref a), .val (.int p1), .val (.int (2 : Int32)), .val (.int p2), .val (.int p3), .val (.int p4), .val (.int ((p1.toUInt32 >>> ((4 : Int32) &&& 31).toUInt32).toInt32)), .val (.int (p2 &&& (2147483647 : Int32))), .unset, .unset] [(.int p4)])) _
        refine XS.iconst X0.here hx rfl (hb hby d4_37) ?_
        show Steps p.tables e below (s₁.setTop (mkF m 38 #[.val (.ref a), .val (.int p1), .val (.int (2 : Int32)), .val (.int p2), .val (.int p3), .val (.int p4), .val (.int ((p1.toUInt32 >>> ((4 : Int32) &&& 31).toUInt32).toInt32)), .val (.int (p2 &&& (2147483647 : Int32))), .unset, .unset] [(.int (3 : Int32)), (.int p4)])) _
        refine XS.iloadN X0.here hx rfl (hb hby d4_38) rfl ?_
        show Steps p.tables e below (s₁.setTop (mkF m 39 #[.val (.ref a), .val (.int p1), .val (.int (2 : Int32)), .val (.int p2), .val (.int p3), .val (.int p4), .val (.int ((p1.toUInt32 >>> ((4 : Int32) &&& 31).toUInt32).toInt32)), .val (.int (p2 &&& (2147483647 : Int32))), .unset, .unset] [(.int (2 : Int32)), (.int (3 : Int32)), (.int p4)])) _
        refine XS.imul X0.here hx rfl (hb hby d4_39) rfl ?_
        show Steps p.tables e below (s₁.setTop (mkF m 40 #[.val (.ref a), .val (.int p1), .val (.int (2 : Int32)), .val (.int p2), .val (.int p3), .val (.int p4), .val (.int ((p1.toUInt32 >>> ((4 : Int32) &&& 31).toUInt32).toInt32)), .val (.int (p2 &&& (2147483647 : Int32))), .unset, .unset] [(.int (6 : Int32)), (.int p4)])) _
        refine XS.iushr X0.here hx rfl (hb hby d4_40) rfl ?_
        show Steps p.tables e below (s₁.setTop (mkF m 41 #[.val (.ref a), .val (.int p1), .val (.int (2 : Int32)), .val (.int p2), .val (.int p3), .val (.int p4), .val (.int ((p1.toUInt32 >>> ((4 : Int32) &&& 31).toUInt32).toInt32)), .val (.int (p2 &&& (2147483647 : Int32))), .unset, .unset] [(.int ((p4.toUInt32 >>> ((6 : Int32) &&& 31).toUInt32).toInt32))])) _
        refine XS.bipush X0.here hx rfl (hb hby d4_41) ?_
        show Steps p.tables e below (s₁.setTop (mkF m 43 #[.val (.ref a), .val (.int p1), .val (.int (2 : Int32)), .val (.int p2), .val (.int p3), .val (.int p4), .val (.int ((p1.toUInt32 >>> ((4 : Int32) &&& 31).toUInt32).toInt32)), .val (.int (p2 &&& (2147483647 : Int32))), .unset, .unset] [(.int (7 : Int32)), (.int ((p4.toUInt32 >>> ((6 : Int32) &&& 31).toUInt32).toInt32))])) _
        refine XS.iand X0.here hx rfl (hb hby d4_43) rfl ?_
        show Steps p.tables e below (s₁.setTop (mkF m 44 #[.val (.ref a), .val (.int p1), .val (.int (2 : Int32)), .val (.int p2), .val (.int p3), .val (.int p4), .val (.int ((p1.toUInt32 >>> ((4 : Int32) &&& 31).toUInt32).toInt32)), .val (.int (p2 &&& (2147483647 : Int32))), .unset, .unset] [(.int (((p4.toUInt32 >>> ((6 : Int32) &&& 31).toUInt32).toInt32) &&& (7 : Int32)))])) _
        refine XS.iconst X0.here hx rfl (hb hby d4_44) ?_
        show Steps p.tables e below (s₁.setTop (mkF m 45 #[.val (.ref a), .val (.int p1), .val (.int (2 : Int32)), .val (.int p2), .val (.int p3), .val (.int p4), .val (.int ((p1.toUInt32 >>> ((4 : Int32) &&& 31).toUInt32).toInt32)), .val (.int (p2 &&& (2147483647 : Int32))), .unset, .unset] [(.int (1 : Int32)), (.int (((p4.toUInt32 >>> ((6 : Int32) &&& 31).toUInt32).toInt32) &&& (7 : Int32)))])) _
        refine XS.iadd X0.here hx rfl (hb hby d4_45) rfl ?_
        show Steps p.tables e below (s₁.setTop (mkF m 46 #[.val (.ref a), .val (.int p1), .val (.int (2 : Int32)), .val (.int p2), .val (.int p3), .val (.int p4), .val (.int ((p1.toUInt32 >>> ((4 : Int32) &&& 31).toUInt32).toInt32)), .val (.int (p2 &&& (2147483647 : Int32))), .unset, .unset] [(.int ((((p4.toUInt32 >>> ((6 : Int32) &&& 31).toUInt32).toInt32) &&& (7 : Int32)) + (1 : Int32)))])) _
        refine XS.i2dS X0.here hx rfl (hb hby d4_46) rfl (v := (FP.l2d (((((p4.toUInt32 >>> ((6 : Int32) &&& 31).toUInt32).toInt32) &&& (7 : Int32)) + (1 : Int32))).toInt64)) (i2d_w _) ?_
        show Steps p.tables e below (s₁.setTop (mkF m 47 #[.val (.ref a), .val (.int p1), .val (.int (2 : Int32)), .val (.int p2), .val (.int p3), .val (.int p4), .val (.int ((p1.toUInt32 >>> ((4 : Int32) &&& 31).toUInt32).toInt32)), .val (.int (p2 &&& (2147483647 : Int32))), .unset, .unset] [(.double (FP.l2d (((((p4.toUInt32 >>> ((6 : Int32) &&& 31).toUInt32).toInt32) &&& (7 : Int32)) + (1 : Int32))).toInt64))])) _
        exact kt)
      obtain ⟨dvv, hdv, cn14⟩ : ∃ dvv : UInt64, (∃ v8 : Int64, dvv = FP.l2d v8 ∧ 1 ≤ v8.toInt ∧ v8.toInt ≤ 8) ∧ ∀ t, Steps p.tables e below (s₁.setTop (mkF m 47 #[.val (.ref a), .val (.int p1), .val (.int (2 : Int32)), .val (.int p2), .val (.int p3), .val (.int p4), .val (.int ((p1.toUInt32 >>> ((4 : Int32) &&& 31).toUInt32).toInt32)), .val (.int (p2 &&& (2147483647 : Int32))), .unset, .unset] [(.double dvv)])) t → Steps p.tables e below (s₁.setTop (entryFrame m #[(.ref a), (.int p1), (.int (2 : Int32)), (.int p2), (.int p3), (.int p4)] 10)) t := ⟨(FP.l2d (((((p4.toUInt32 >>> ((6 : Int32) &&& 31).toUInt32).toInt32) &&& (7 : Int32)) + (1 : Int32))).toInt64), ⟨_, rfl, own_x8 _⟩, cn13⟩
      obtain ⟨v8, rfl, hv8⟩ := hdv
      have cn15 := fun (t : State) (kt : Steps p.tables e below (s₁.setTop (mkF m 54 #[.val (.ref a), .val (.int p1), .val (.int (2 : Int32)), .val (.int p2), .val (.int p3), .val (.int p4), .val (.int ((p1.toUInt32 >>> ((4 : Int32) &&& 31).toUInt32).toInt32)), .val (.int (p2 &&& (2147483647 : Int32))), .val (.double (FP.l2d v8)), .second] [(.double (FP.l2d v8)), (.int (p2 &&& (2147483647 : Int32))), (.ref a)])) t) => cn14 t (by
        refine XS.dstore X0.here hx rfl (hb hby d4_47) rfl (l' := #[.val (.ref a), .val (.int p1), .val (.int (2 : Int32)), .val (.int p2), .val (.int p3), .val (.int p4), .val (.int ((p1.toUInt32 >>> ((4 : Int32) &&& 31).toUInt32).toInt32)), .val (.int (p2 &&& (2147483647 : Int32))), .val (.double (FP.l2d v8)), .second]) rfl ?_
        show Steps p.tables e below (s₁.setTop (mkF m 49 #[.val (.ref a), .val (.int p1), .val (.int (2 : Int32)), .val (.int p2), .val (.int p3), .val (.int p4), .val (.int ((p1.toUInt32 >>> ((4 : Int32) &&& 31).toUInt32).toInt32)), .val (.int (p2 &&& (2147483647 : Int32))), .val (.double (FP.l2d v8)), .second] [])) _
        refine XS.aloadN X0.here hx rfl (hb hby d4_49) rfl rfl ?_
        show Steps p.tables e below (s₁.setTop (mkF m 50 #[.val (.ref a), .val (.int p1), .val (.int (2 : Int32)), .val (.int p2), .val (.int p3), .val (.int p4), .val (.int ((p1.toUInt32 >>> ((4 : Int32) &&& 31).toUInt32).toInt32)), .val (.int (p2 &&& (2147483647 : Int32))), .val (.double (FP.l2d v8)), .second] [(.ref a)])) _
        refine XS.iload X0.here hx rfl (hb hby d4_50) rfl ?_
        show Steps p.tables e below (s₁.setTop (mkF m 52 #[.val (.ref a), .val (.int p1), .val (.int (2 : Int32)), .val (.int p2), .val (.int p3), .val (.int p4), .val (.int ((p1.toUInt32 >>> ((4 : Int32) &&& 31).toUInt32).toInt32)), .val (.int (p2 &&& (2147483647 : Int32))), .val (.double (FP.l2d v8)), .second] [(.int (p2 &&& (2147483647 : Int32))), (.ref a)])) _
        refine XS.dload X0.here hx rfl (hb hby d4_52) rfl ?_
        show Steps p.tables e below (s₁.setTop (mkF m 54 #[.val (.ref a), .val (.int p1), .val (.int (2 : Int32)), .val (.int p2), .val (.int p3), .val (.int p4), .val (.int ((p1.toUInt32 >>> ((4 : Int32) &&& 31).toUInt32).toInt32)), .val (.int (p2 &&& (2147483647 : Int32))), .val (.double (FP.l2d v8)), .second] [(.double (FP.l2d v8)), (.int (p2 &&& (2147483647 : Int32))), (.ref a)])) _
        exact kt)
      obtain ⟨cq16, kq16, q16a, q16b, q16c⟩ := isOf hZ e0 E_a
      obtain ⟨_, _, ⟨T16, L16, k16, n16⟩, -, X16, ⟨Lc16, hQ16, l16, y16, z16⟩, st16⟩ := X0.virtualBack hx (y := (⟨"com/example/probver/probver/model/TransitionRows", "add", "(ID)V"⟩ : MethodName)) (z := (⟨"com/example/probver/probver/model/TransitionRows", "add", "(ID)V"⟩ : MethodName)) hown (mvT hZ (hw _ (List.mem_of_getElem? (i := 79) rfl))) (mvT hZ (hw _ (List.mem_of_getElem? (i := 80) rfl))) (notFace_of_selects (args := #[]) (mvT hZ (hw _ (List.mem_of_getElem? (i := 82) rfl)))) (mvT hZ (hw _ (List.mem_of_getElem? (i := 82) rfl))) (mvT hZ (hw _ (List.mem_of_getElem? (i := 81) rfl))) (by decide) (backOf (W := 0) (rm16 l Z a0 hw [] a AA1 AA2 AA3 AA4 kA1 kA2 kA3 kA4 f1 f2 f3 f4 rc (ft + c) (p2 &&& (2147483647 : Int32)) (FP.l2d v8) h0 n0 O0 TNh ⟨E_a, FfirstTransitions, FrowCount, Fsuccessors, Fprobabilities, FexactProbabilities, FtransitionCount, FsortKeys, AF1, AF2, AF3, AF4⟩ (by omega) (own_pos _) (own_dl hv8.1 hv8.2) own_dg) hZ (hw _ (List.mem_of_getElem? (i := 83) rfl)) (hw _ (List.mem_of_getElem? (i := 2) rfl)) (by decide) (by decide)) q16a q16c (g := (mkF m 54 #[.val (.ref a), .val (.int p1), .val (.int (2 : Int32)), .val (.int p2), .val (.int p3), .val (.int p4), .val (.int ((p1.toUInt32 >>> ((4 : Int32) &&& 31).toUInt32).toInt32)), .val (.int (p2 &&& (2147483647 : Int32))), .val (.double (FP.l2d v8)), .second] [(.double (FP.l2d v8)), (.int (p2 &&& (2147483647 : Int32))), (.ref a)])) rfl (by rw [hml]; rfl) (Steps.refl _) (argsL := [(.int (p2 &&& (2147483647 : Int32))), (.double (FP.l2d v8))]) (rest := []) (lenOf pd_1 rfl) rfl (by show 2 * 0 + _ ≤ _; exact Nat.le_of_eq rfl) (hb hby d4_54) (fun _ _ => ⟨rfl, e0, (by decide : 0 + 0 ≤ _), (by decide : 0 + 0 ≤ _)⟩)
      dsimp only [Pt.U, Pt.locs, Pt.cells, Pt.slots] at X16 l16 y16 z16 st16 hQ16
      subst l16 y16 z16
      obtain ⟨rfl, Nq16, Kq16, Bq16⟩ := hQ16
      have N16 := Fr.app N0 Nq16
      obtain ⟨E_a_16, FfirstTransitions_16, FrowCount_16, Fsuccessors_16, Fprobabilities_16, FexactProbabilities_16, FtransitionCount_16, FsortKeys_16, AF1_16, AF2_16, AF3_16, AF4_16⟩ := Bq16
      have K16 := Kq16
      have E_a_e16 := E_a.keep K16
      have AF1_e16 := AF1.keep K16 (ninS (Ne.symm ne_a_AA1) (ninS ne_AA1_AA2 (ninS ne_AA1_AA3 nin0)))
      have AF4_e16 := AF4.keep K16 (ninS (Ne.symm ne_a_AA4) (ninS (Ne.symm ne_AA2_AA4) (ninS (Ne.symm ne_AA3_AA4) nin0)))
      have O16 := O0.keep K16 (allS g_a (allS g_AA2 (allS g_AA3 all0)))
      have KK16 : Keep h0 T16.heap [a, AA1, AA2, AA3, AA4] := (Keep.refl h0 [a, AA1, AA2, AA3, AA4]).trans K16 (allS (Or.inl (List.mem_of_getElem? (i := 0) rfl)) (allS (Or.inl (List.mem_of_getElem? (i := 2) rfl)) (allS (Or.inl (List.mem_of_getElem? (i := 3) rfl)) all0)))
      have cn17 := fun (t : State) (kt : Steps p.tables e below (T16.setTop (mkF m 58 #[.val (.ref a), .val (.int p1), .val (.int (2 : Int32)), .val (.int p2), .val (.int p3), .val (.int p4), .val (.int ((p1.toUInt32 >>> ((4 : Int32) &&& 31).toUInt32).toInt32)), .val (.int (p2 &&& (2147483647 : Int32))), .val (.double (FP.l2d v8)), .second] [(.int (1 : Int32))])) t) => cn15 t (by
        refine st16.trans ?_
        show Steps p.tables e below (T16.setTop (mkF m 57 #[.val (.ref a), .val (.int p1), .val (.int (2 : Int32)), .val (.int p2), .val (.int p3), .val (.int p4), .val (.int ((p1.toUInt32 >>> ((4 : Int32) &&& 31).toUInt32).toInt32)), .val (.int (p2 &&& (2147483647 : Int32))), .val (.double (FP.l2d v8)), .second] [])) _
        refine XS.iconst X16.here hx rfl (hb hby d4_57) ?_
        show Steps p.tables e below (T16.setTop (mkF m 58 #[.val (.ref a), .val (.int p1), .val (.int (2 : Int32)), .val (.int p2), .val (.int p3), .val (.int p4), .val (.int ((p1.toUInt32 >>> ((4 : Int32) &&& 31).toUInt32).toInt32)), .val (.int (p2 &&& (2147483647 : Int32))), .val (.double (FP.l2d v8)), .second] [(.int (1 : Int32))])) _
        exact kt)
      obtain ⟨frs, hr, hrun, hended, hW, hsame⟩ := X16.leave (v := some (.int (1 : Int32))) (fun h => by rw [Bd.returns] at h; cases h)
      refine ⟨_, _, cn17 _ ?_, hrun, hended, _, _, rfl, ?_, ⟨_, rfl⟩, hW, hsame.mono (by decide) (by decide)⟩
      · exact retN X16 hx (t := .boolean) Bd.returns (by simp) (hb hby d4_58) hr
      · show QT Z a AA1 AA2 AA3 AA4 kA1 kA2 kA3 kA4 3 h0 n0 _ T16.heap _
        exact ⟨_, _, _, _, _, rc, ft, c + 1, rfl, N16, KK16, ⟨E_a_16, FfirstTransitions_16, FrowCount_16, Fsuccessors_16, Fprobabilities_16, FexactProbabilities_16, FtransitionCount_16, FsortKeys_16, AF1_16, AF2_16, AF3_16, AF4_16⟩, by omega, by omega, hft, H2.upd _ _, (HT.mono (by rw [← own_p1]; omega)).upd _ (by omega) (by have := own_p8 (2 + 1); omega), Or.inl ⟨rfl, Nat.succ_pos c⟩⟩

theorem ef_T3 (m : MethodId) (x0 : Addr) (x1 : Int32) (x2 : Int32) (x3 : Int32) (x4 : Int32) (x5 : Int32) : entryFrame m #[(.ref x0), (.int x1), (.int x2), (.int x3), (.int x4), (.int x5)] 10 = mkF m 0 #[.val (.ref x0), .val (.int x1), .val (.int x2), .val (.int x3), .val (.int x4), .val (.int x5), .unset, .unset, .unset, .unset] [] := by first | (simp [entryFrame, mkF, argsToLocals, Value.category]; done) | rfl
set_option maxRecDepth 65536 in
set_option maxHeartbeats 40000000 in
theorem rmT3 (l : Launch) (Z : State) (a0 : Array Value) (hw : ∀ d ∈ tables_1, d.before a0 Z = true) (ws : List Jvm.Cond) (a AA1 AA2 AA3 AA4 : Addr) (kA1 kA2 kA3 kA4 : ClassId) (f1 f2 f3 f4 : Nat → Value) (rc ft c : Nat) (p1 p2 p3 p4 r : Int32) (h0 : Heap) (n0 : Nat) (O0 : Old Z n0 h0) (TNh : TN n0 a AA1 AA2 AA3 AA4) (I : INV Z h0 a AA1 AA2 AA3 AA4 kA1 kA2 kA3 kA4 3 r f1 f2 f3 f4 rc ft c) :
    MetFree l (⟨"com/example/probver/probver/model/TransitionRowsRowOpenPinLaw", "step", "(Lcom/example/probver/probver/model/TransitionRows;IIIII)Z"⟩ : MethodName) (head1 (Jvm.Cond.code (⟨"com/example/probver/probver/model/TransitionRowsRowOpenPinLaw", "step", "(Lcom/example/probver/probver/model/TransitionRows;IIIII)Z"⟩ : MethodName) method_2_code 10 (some .boolean) :: ws) ({ frames := 6, cells := 1, slots := 4, locals := 123 } : Room)) (fun aQ U => aQ = #[(.ref a), (.int p1), (.int (3 : Int32)), (.int p2), (.int p3), (.int p4)] ∧ Z.Warmed39 U.vm ∧ U.heap = h0) (fun _ _ _ _ _ => True) (fun _ U o U' => ∃ v L, o = .returned v ∧ QT Z a AA1 AA2 AA3 AA4 kA1 kA2 kA3 kA4 4 h0 n0 v U'.heap L ∧ FrameEnd U o U' L ({ frames := 6, cells := 1, slots := 4, locals := 123 } : Room).cells ({ frames := 6, cells := 1, slots := 4, locals := 123 } : Room).slots) := by
  refine MetFree.of_bodySF (plainFor_of_name pn_com_example_probver_probver_model_TransitionRowsRowOpenPinLaw) hisR ?_
  intro p e s m args below meth kode s₁ Bd hml0 hP hK
  obtain ⟨rfl, hZ, hh⟩ := hP
  have hx := Bd.exec
  have hby := Bd.bytes
  have hml : kode.maxLocals = 10 := hml0
  have hown : s.vm.findClass "com/example/probver/probver/model/TransitionRowsRowOpenPinLaw" = some m.cls := findClass_of_methodNamed Bd.named
  have hnm := (name_of_methodNamed Bd.named Bd.method).1
  have X0 : Stand p l e ({ frames := 6, cells := 1, slots := 4, locals := 123 } : Room) s m #[(.ref a), (.int p1), (.int (3 : Int32)), (.int p2), (.int p3), (.int p4)] below meth kode s₁ [] 0 0 := Stand.of_body Bd
  have e0 : s₁.heap = h0 := by rw [← hh, Bd.state]; rfl
  have N0 := Fr.nil n0
  have pre0 : ∀ t, Steps p.tables e below (s₁.setTop (mkF m 0 #[.val (.ref a), .val (.int p1), .val (.int (3 : Int32)), .val (.int p2), .val (.int p3), .val (.int p4), .unset, .unset, .unset, .unset] [])) t → Steps p.tables e below (s₁.setTop (entryFrame m #[(.ref a), (.int p1), (.int (3 : Int32)), (.int p2), (.int p3), (.int p4)] 10)) t := fun t k => castTop (ef_T3 m a p1 (3 : Int32) p2 p3 p4) k
  have TNx := TNh
  obtain ⟨⟨g_a, g_AA1, g_AA2, g_AA3, g_AA4⟩, ne_a_AA1, ne_a_AA2, ne_a_AA3, ne_a_AA4, ne_AA1_AA2, ne_AA1_AA3, ne_AA1_AA4, ne_AA2_AA3, ne_AA2_AA4, ne_AA3_AA4⟩ := TNx
  obtain ⟨B, hrc, hfci, hft, H2, HT, hor⟩ := I
  obtain ⟨E_a, FfirstTransitions, FrowCount, Fsuccessors, Fprobabilities, FexactProbabilities, FtransitionCount, FsortKeys, AF1, AF2, AF3, AF4⟩ := B
  have cn1 := fun (t : State) (kt : Steps p.tables e below (s₁.setTop (mkF m 11 #[.val (.ref a), .val (.int p1), .val (.int (3 : Int32)), .val (.int p2), .val (.int p3), .val (.int p4), .val (.int ((p1.toUInt32 >>> ((6 : Int32) &&& 31).toUInt32).toInt32)), .unset, .unset, .unset] [(.int (((p1.toUInt32 >>> ((6 : Int32) &&& 31).toUInt32).toInt32) &&& (1 : Int32)))])) t) => pre0 t (by
    refine XS.iloadN X0.here hx rfl (hb hby d4_0) rfl ?_
    show Steps p.tables e below (s₁.setTop (mkF m 1 #[.val (.ref a), .val (.int p1), .val (.int (3 : Int32)), .val (.int p2), .val (.int p3), .val (.int p4), .unset, .unset, .unset, .unset] [(.int p1)])) _
    refine XS.iconst X0.here hx rfl (hb hby d4_1) ?_
    show Steps p.tables e below (s₁.setTop (mkF m 2 #[.val (.ref a), .val (.int p1), .val (.int (3 : Int32)), .val (.int p2), .val (.int p3), .val (.int p4), .unset, .unset, .unset, .unset] [(.int (2 : Int32)), (.int p1)])) _
    refine XS.iloadN X0.here hx rfl (hb hby d4_2) rfl ?_
    show Steps p.tables e below (s₁.setTop (mkF m 3 #[.val (.ref a), .val (.int p1), .val (.int (3 : Int32)), .val (.int p2), .val (.int p3), .val (.int p4), .unset, .unset, .unset, .unset] [(.int (3 : Int32)), (.int (2 : Int32)), (.int p1)])) _
    refine XS.imul X0.here hx rfl (hb hby d4_3) rfl ?_
    show Steps p.tables e below (s₁.setTop (mkF m 4 #[.val (.ref a), .val (.int p1), .val (.int (3 : Int32)), .val (.int p2), .val (.int p3), .val (.int p4), .unset, .unset, .unset, .unset] [(.int (6 : Int32)), (.int p1)])) _
    refine XS.iushr X0.here hx rfl (hb hby d4_4) rfl ?_
    show Steps p.tables e below (s₁.setTop (mkF m 5 #[.val (.ref a), .val (.int p1), .val (.int (3 : Int32)), .val (.int p2), .val (.int p3), .val (.int p4), .unset, .unset, .unset, .unset] [(.int ((p1.toUInt32 >>> ((6 : Int32) &&& 31).toUInt32).toInt32))])) _
    refine XS.istore X0.here hx rfl (hb hby d4_5) rfl (l' := #[.val (.ref a), .val (.int p1), .val (.int (3 : Int32)), .val (.int p2), .val (.int p3), .val (.int p4), .val (.int ((p1.toUInt32 >>> ((6 : Int32) &&& 31).toUInt32).toInt32)), .unset, .unset, .unset]) rfl ?_
    show Steps p.tables e below (s₁.setTop (mkF m 7 #[.val (.ref a), .val (.int p1), .val (.int (3 : Int32)), .val (.int p2), .val (.int p3), .val (.int p4), .val (.int ((p1.toUInt32 >>> ((6 : Int32) &&& 31).toUInt32).toInt32)), .unset, .unset, .unset] [])) _
    refine XS.iload X0.here hx rfl (hb hby d4_7) rfl ?_
    show Steps p.tables e below (s₁.setTop (mkF m 9 #[.val (.ref a), .val (.int p1), .val (.int (3 : Int32)), .val (.int p2), .val (.int p3), .val (.int p4), .val (.int ((p1.toUInt32 >>> ((6 : Int32) &&& 31).toUInt32).toInt32)), .unset, .unset, .unset] [(.int ((p1.toUInt32 >>> ((6 : Int32) &&& 31).toUInt32).toInt32))])) _
    refine XS.iconst X0.here hx rfl (hb hby d4_9) ?_
    show Steps p.tables e below (s₁.setTop (mkF m 10 #[.val (.ref a), .val (.int p1), .val (.int (3 : Int32)), .val (.int p2), .val (.int p3), .val (.int p4), .val (.int ((p1.toUInt32 >>> ((6 : Int32) &&& 31).toUInt32).toInt32)), .unset, .unset, .unset] [(.int (1 : Int32)), (.int ((p1.toUInt32 >>> ((6 : Int32) &&& 31).toUInt32).toInt32))])) _
    refine XS.iand X0.here hx rfl (hb hby d4_10) rfl ?_
    show Steps p.tables e below (s₁.setTop (mkF m 11 #[.val (.ref a), .val (.int p1), .val (.int (3 : Int32)), .val (.int p2), .val (.int p3), .val (.int p4), .val (.int ((p1.toUInt32 >>> ((6 : Int32) &&& 31).toUInt32).toInt32)), .unset, .unset, .unset] [(.int (((p1.toUInt32 >>> ((6 : Int32) &&& 31).toUInt32).toInt32) &&& (1 : Int32)))])) _
    exact kt)
  by_cases hc11_2 : (((p1.toUInt32 >>> ((6 : Int32) &&& 31).toUInt32).toInt32) &&& (1 : Int32)) = (0 : Int32)
  · have cn3 := fun (t : State) (kt : Steps p.tables e below (s₁.setTop (mkF m 60 #[.val (.ref a), .val (.int p1), .val (.int (3 : Int32)), .val (.int p2), .val (.int p3), .val (.int p4), .val (.int ((p1.toUInt32 >>> ((6 : Int32) &&& 31).toUInt32).toInt32)), .unset, .unset, .unset] [(.ref a)])) t) => cn1 t (by
      refine XS.ifYes X0.here hx rfl (pc0 := 11) (pc' := 59) rfl (hb hby d4_11) rfl ((if0 _ _).trans (teq hc11_2).1) (by decide) (by decide) ?_
      show Steps p.tables e below (s₁.setTop (mkF m 59 #[.val (.ref a), .val (.int p1), .val (.int (3 : Int32)), .val (.int p2), .val (.int p3), .val (.int p4), .val (.int ((p1.toUInt32 >>> ((6 : Int32) &&& 31).toUInt32).toInt32)), .unset, .unset, .unset] [])) _
      refine XS.aloadN X0.here hx rfl (hb hby d4_59) rfl rfl ?_
      show Steps p.tables e below (s₁.setTop (mkF m 60 #[.val (.ref a), .val (.int p1), .val (.int (3 : Int32)), .val (.int p2), .val (.int p3), .val (.int p4), .val (.int ((p1.toUInt32 >>> ((6 : Int32) &&& 31).toUInt32).toInt32)), .unset, .unset, .unset] [(.ref a)])) _
      exact kt)
    obtain ⟨cq4, kq4, q4a, q4b, q4c⟩ := isOf hZ e0 E_a
    obtain ⟨_, _, ⟨T4, L4, k4, n4⟩, -, X4, ⟨Lc4, hQ4, l4, y4, z4⟩, st4⟩ := X0.virtualBack hx (y := (⟨"com/example/probver/probver/model/TransitionRows", "endRow", "()V"⟩ : MethodName)) (z := (⟨"com/example/probver/probver/model/TransitionRows", "endRow", "()V"⟩ : MethodName)) hown (mvT hZ (hw _ (List.mem_of_getElem? (i := 33) rfl))) (mvT hZ (hw _ (List.mem_of_getElem? (i := 34) rfl))) (notFace_of_selects (args := #[]) (mvT hZ (hw _ (List.mem_of_getElem? (i := 36) rfl)))) (mvT hZ (hw _ (List.mem_of_getElem? (i := 36) rfl))) (mvT hZ (hw _ (List.mem_of_getElem? (i := 35) rfl))) (by decide) (backOf (W := 0) (rm5 l Z a0 hw [] a AA1 AA2 AA3 AA4 kA1 kA2 kA3 kA4 f1 f2 f3 f4 rc ft c (8 * 5 ^ 3) h0 n0 O0 TNh ⟨E_a, FfirstTransitions, FrowCount, Fsuccessors, Fprobabilities, FexactProbabilities, FtransitionCount, FsortKeys, AF1, AF2, AF3, AF4⟩ (by omega) hft (by omega) (by omega) H2 HT (own_pw 3 (by omega))) hZ (hw _ (List.mem_of_getElem? (i := 37) rfl)) (hw _ (List.mem_of_getElem? (i := 2) rfl)) (by decide) (by decide)) q4a q4c (g := (mkF m 60 #[.val (.ref a), .val (.int p1), .val (.int (3 : Int32)), .val (.int p2), .val (.int p3), .val (.int p4), .val (.int ((p1.toUInt32 >>> ((6 : Int32) &&& 31).toUInt32).toInt32)), .unset, .unset, .unset] [(.ref a)])) rfl (by rw [hml]; rfl) (Steps.refl _) (argsL := []) (rest := []) (lenOf pd_9 rfl) rfl (by show 2 * 0 + _ ≤ _; exact Nat.le_of_eq rfl) (hb hby d4_60) (fun _ _ => ⟨rfl, e0, (by decide : 0 + 1 ≤ _), (by decide : 0 + 4 ≤ _)⟩)
    dsimp only [Pt.U, Pt.locs, Pt.cells, Pt.slots] at X4 l4 y4 z4 st4 hQ4
    subst l4 y4 z4
    obtain ⟨mq, g2q4, g3q4, g4q4, rfl, Nq4, Kq4, hmc, Bq4, H2q4, H3q4⟩ := hQ4
    have N4 := Fr.app N0 Nq4
    obtain ⟨E_a_4, FfirstTransitions_4, FrowCount_4, Fsuccessors_4, Fprobabilities_4, FexactProbabilities_4, FtransitionCount_4, FsortKeys_4, AF1_4, AF2_4, AF3_4, AF4_4⟩ := Bq4
    have K4 := Kq4
    have E_a_e4 := E_a.keep K4
    have O4 := O0.keep K4 (allS g_a (allS g_AA1 (allS g_AA2 (allS g_AA3 (allS g_AA4 all0)))))
    have KK4 : Keep h0 T4.heap [a, AA1, AA2, AA3, AA4] := (Keep.refl h0 [a, AA1, AA2, AA3, AA4]).trans K4 (allS (Or.inl (List.mem_of_getElem? (i := 0) rfl)) (allS (Or.inl (List.mem_of_getElem? (i := 1) rfl)) (allS (Or.inl (List.mem_of_getElem? (i := 2) rfl)) (allS (Or.inl (List.mem_of_getElem? (i := 3) rfl)) (allS (Or.inl (List.mem_of_getElem? (i := 4) rfl)) all0)))))
    have cn5 := fun (t : State) (kt : Steps p.tables e below (T4.setTop (mkF m 64 #[.val (.ref a), .val (.int p1), .val (.int (3 : Int32)), .val (.int p2), .val (.int p3), .val (.int p4), .val (.int ((p1.toUInt32 >>> ((6 : Int32) &&& 31).toUInt32).toInt32)), .unset, .unset, .unset] [(.int (0 : Int32))])) t) => cn3 t (by
      refine st4.trans ?_
      show Steps p.tables e below (T4.setTop (mkF m 63 #[.val (.ref a), .val (.int p1), .val (.int (3 : Int32)), .val (.int p2), .val (.int p3), .val (.int p4), .val (.int ((p1.toUInt32 >>> ((6 : Int32) &&& 31).toUInt32).toInt32)), .unset, .unset, .unset] [])) _
      refine XS.iconst X4.here hx rfl (hb hby d4_63) ?_
      show Steps p.tables e below (T4.setTop (mkF m 64 #[.val (.ref a), .val (.int p1), .val (.int (3 : Int32)), .val (.int p2), .val (.int p3), .val (.int p4), .val (.int ((p1.toUInt32 >>> ((6 : Int32) &&& 31).toUInt32).toInt32)), .unset, .unset, .unset] [(.int (0 : Int32))])) _
      exact kt)
    obtain ⟨frs, hr, hrun, hended, hW, hsame⟩ := X4.leave (v := some (.int (0 : Int32))) (fun h => by rw [Bd.returns] at h; cases h)
    refine ⟨_, _, cn5 _ ?_, hrun, hended, _, _, rfl, ?_, ⟨_, rfl⟩, hW, hsame.mono (by decide) (by decide)⟩
    · exact retN X4 hx (t := .boolean) Bd.returns (by simp) (hb hby d4_64) hr
    · show QT Z a AA1 AA2 AA3 AA4 kA1 kA2 kA3 kA4 4 h0 n0 _ T4.heap _
      exact ⟨_, _, _, _, _, rc + 1, ft + mq, 0, rfl, N4, KK4, ⟨E_a_4, FfirstTransitions_4, FrowCount_4, Fsuccessors_4, Fprobabilities_4, FexactProbabilities_4, FtransitionCount_4, FsortKeys_4, AF1_4, AF2_4, AF3_4, AF4_4⟩, by omega, by omega, own_upd_eq _ _ _, H2q4, H3q4.mono (Nat.le_trans (Nat.mul_le_mul_left (8 * 5 ^ 3) (show c + 1 ≤ 5 by omega)) (Nat.le_of_eq (own_p1 3))), Or.inr ⟨rfl, rfl⟩⟩
  · have cn6 := fun (t : State) (kt : Steps p.tables e below (s₁.setTop (mkF m 18 #[.val (.ref a), .val (.int p1), .val (.int (3 : Int32)), .val (.int p2), .val (.int p3), .val (.int p4), .val (.int ((p1.toUInt32 >>> ((6 : Int32) &&& 31).toUInt32).toInt32)), .unset, .unset, .unset] [(.int (((p1.toUInt32 >>> ((6 : Int32) &&& 31).toUInt32).toInt32) &&& (2 : Int32)))])) t) => cn1 t (by
      refine XS.ifNo X0.here hx rfl (hb hby d4_11) rfl ((if0 _ _).trans (feq hc11_2).1) ?_
      show Steps p.tables e below (s₁.setTop (mkF m 14 #[.val (.ref a), .val (.int p1), .val (.int (3 : Int32)), .val (.int p2), .val (.int p3), .val (.int p4), .val (.int ((p1.toUInt32 >>> ((6 : Int32) &&& 31).toUInt32).toInt32)), .unset, .unset, .unset] [])) _
      refine XS.iload X0.here hx rfl (hb hby d4_14) rfl ?_
      show Steps p.tables e below (s₁.setTop (mkF m 16 #[.val (.ref a), .val (.int p1), .val (.int (3 : Int32)), .val (.int p2), .val (.int p3), .val (.int p4), .val (.int ((p1.toUInt32 >>> ((6 : Int32) &&& 31).toUInt32).toInt32)), .unset, .unset, .unset] [(.int ((p1.toUInt32 >>> ((6 : Int32) &&& 31).toUInt32).toInt32))])) _
      refine XS.iconst X0.here hx rfl (hb hby d4_16) ?_
      show Steps p.tables e below (s₁.setTop (mkF m 17 #[.val (.ref a), .val (.int p1), .val (.int (3 : Int32)), .val (.int p2), .val (.int p3), .val (.int p4), .val (.int ((p1.toUInt32 >>> ((6 : Int32) &&& 31).toUInt32).toInt32)), .unset, .unset, .unset] [(.int (2 : Int32)), (.int ((p1.toUInt32 >>> ((6 : Int32) &&& 31).toUInt32).toInt32))])) _
      refine XS.iand X0.here hx rfl (hb hby d4_17) rfl ?_
      show Steps p.tables e below (s₁.setTop (mkF m 18 #[.val (.ref a), .val (.int p1), .val (.int (3 : Int32)), .val (.int p2), .val (.int p3), .val (.int p4), .val (.int ((p1.toUInt32 >>> ((6 : Int32) &&& 31).toUInt32).toInt32)), .unset, .unset, .unset] [(.int (((p1.toUInt32 >>> ((6 : Int32) &&& 31).toUInt32).toInt32) &&& (2 : Int32)))])) _
      exact kt)
    by_cases hc18_7 : (((p1.toUInt32 >>> ((6 : Int32) &&& 31).toUInt32).toInt32) &&& (2 : Int32)) = (0 : Int32)
    · have cn8 := fun (t : State) (kt : Steps p.tables e below (s₁.setTop (mkF m 47 #[.val (.ref a), .val (.int p1), .val (.int (3 : Int32)), .val (.int p2), .val (.int p3), .val (.int p4), .val (.int ((p1.toUInt32 >>> ((6 : Int32) &&& 31).toUInt32).toInt32)), .val (.int (p3 &&& (2147483647 : Int32))), .unset, .unset] [(.double (FP.l2d (((((p4.toUInt32 >>> ((9 : Int32) &&& 31).toUInt32).toInt32) &&& (7 : Int32)) + (1 : Int32))).toInt64))])) t) => cn6 t (by
        refine XS.ifYes X0.here hx rfl (pc0 := 18) (pc' := 28) rfl (hb hby d4_18) rfl ((if0 _ _).trans (teq hc18_7).1) (by decide) (by decide) ?_
        show Steps p.tables e below (s₁.setTop (mkF m 28 #[.val (.ref a), .val (.int p1), .val (.int (3 : Int32)), .val (.int p2), .val (.int p3), .val (.int p4), .val (.int ((p1.toUInt32 >>> ((6 : Int32) &&& 31).toUInt32).toInt32)), .unset, .unset, .unset] [])) _
        refine XS.iload X0.here hx rfl (hb hby d4_28) rfl ?_
        show Steps p.tables e below (s₁.setTop (mkF m 30 #[.val (.ref a), .val (.int p1), .val (.int (3 : Int32)), .val (.int p2), .val (.int p3), .val (.int p4), .val (.int ((p1.toUInt32 >>> ((6 : Int32) &&& 31).toUInt32).toInt32)), .unset, .unset, .unset] [(.int p3)])) _
        refine X0.ldcInt hx hown (mvT hZ (hw _ (List.mem_of_getElem? (i := 78) rfl))) (g := (mkF m 30 #[.val (.ref a), .val (.int p1), .val (.int (3 : Int32)), .val (.int p2), .val (.int p3), .val (.int p4), .val (.int ((p1.toUInt32 >>> ((6 : Int32) &&& 31).toUInt32).toInt32)), .unset, .unset, .unset] [(.int p3)])) rfl (hb hby d4_30) _ ?_
        show Steps p.tables e below (s₁.setTop (mkF m 32 #[.val (.ref a), .val (.int p1), .val (.int (3 : Int32)), .val (.int p2), .val (.int p3), .val (.int p4), .val (.int ((p1.toUInt32 >>> ((6 : Int32) &&& 31).toUInt32).toInt32)), .unset, .unset, .unset] [(.int (2147483647 : Int32)), (.int p3)])) _
        refine XS.iand X0.here hx rfl (hb hby d4_32) rfl ?_
        show Steps p.tables e below (s₁.setTop (mkF m 33 #[.val (.ref a), .val (.int p1), .val (.int (3 : Int32)), .val (.int p2), .val (.int p3), .val (.int p4), .val (.int ((p1.toUInt32 >>> ((6 : Int32) &&& 31).toUInt32).toInt32)), .unset, .unset, .unset] [(.int (p3 &&& (2147483647 : Int32)))])) _
        refine XS.istore X0.here hx rfl (hb hby d4_33) rfl (l' := #[.val (.ref a), .val (.int p1), .val (.int (3 : Int32)), .val (.int p2), .val (.int p3), .val (.int p4), .val (.int ((p1.toUInt32 >>> ((6 : Int32) &&& 31).toUInt32).toInt32)), .val (.int (p3 &&& (2147483647 : Int32))), .unset, .unset]) rfl ?_
        show Steps p.tables e below (s₁.setTop (mkF m 35 #[.val (.ref a), .val (.int p1), .val (.int (3 : Int32)), .val (.int p2), .val (.int p3), .val (.int p4), .val (.int ((p1.toUInt32 >>> ((6 : Int32) &&& 31).toUInt32).toInt32)), .val (.int (p3 &&& (2147483647 : Int32))), .unset, .unset] [])) _
        refine XS.iload X0.here hx rfl (hb hby d4_35) rfl ?_
        show Steps p.tables e below (s₁.setTop (mkF m 37 #[.val (.ref a), .val (.int p1), .val (.int (3 : Int32)), .val (.int p2), .val (.int p3), .val (.int p4), .val (.int ((p1.toUInt32 >>> ((6 : Int32) &&& 31).toUInt32).toInt32)), .val (.int (p3 &&& (2147483647 : Int32))), .unset, .unset] [(.int p4)])) _
        refine XS.iconst X0.here hx rfl (hb hby d4_37) ?_
        show Steps p.tables e below (s₁.setTop (mkF m 38 #[.val (.ref a), .val (.int p1), .val (.int (3 : Int32)), .val (.int p2), .val (.int p3), .val (.int p4), .val (.int ((p1.toUInt32 >>> ((6 : Int32) &&& 31).toUInt32).toInt32)), .val (.int (p3 &&& (2147483647 : Int32))), .unset, .unset] [(.int (3 : Int32)), (.int p4)])) _
        refine XS.iloadN X0.here hx rfl (hb hby d4_38) rfl ?_
        show Steps p.tables e below (s₁.setTop (mkF m 39 #[.val (.ref a), .val (.int p1), .val (.int (3 : Int32)), .val (.int p2), .val (.int p3), .val (.int p4), .val (.int ((p1.toUInt32 >>> ((6 : Int32) &&& 31).toUInt32).toInt32)), .val (.int (p3 &&& (2147483647 : Int32))), .unset, .unset] [(.int (3 : Int32)), (.int (3 : Int32)), (.int p4)])) _
        refine XS.imul X0.here hx rfl (hb hby d4_39) rfl ?_
        show Steps p.tables e below (s₁.setTop (mkF m 40 #[.val (.ref a), .val (.int p1), .val (.int (3 : Int32)), .val (.int p2), .val (.int p3), .val (.int p4), .val (.int ((p1.toUInt32 >>> ((6 : Int32) &&& 31).toUInt32).toInt32)), .val (.int (p3 &&& (2147483647 : Int32))), .unset, .unset] [(.int (9 : Int32)), (.int p4)])) _
        refine XS.iushr X0.here hx rfl (hb hby d4_40) rfl ?_
        show Steps p.tables e below (s₁.setTop (mkF m 41 #[.val (.ref a), .val (.int p1), .val (.int (3 : Int32)), .val (.int p2), .val (.int p3), .val (.int p4), .val (.int ((p1.toUInt32 >>> ((6 : Int32) &&& 31).toUInt32).toInt32)), .val (.int (p3 &&& (2147483647 : Int32))), .unset, .unset] [(.int ((p4.toUInt32 >>> ((9 : Int32) &&& 31).toUInt32).toInt32))])) _
        refine XS.bipush X0.here hx rfl (hb hby d4_41) ?_
        show Steps p.tables e below (s₁.setTop (mkF m 43 #[.val (.ref a), .val (.int p1), .val (.int (3 : Int32)), .val (.int p2), .val (.int p3), .val (.int p4), .val (.int ((p1.toUInt32 >>> ((6 : Int32) &&& 31).toUInt32).toInt32)), .val (.int (p3 &&& (2147483647 : Int32))), .unset, .unset] [(.int (7 : Int32)), (.int ((p4.toUInt32 >>> ((9 : Int32) &&& 31).toUInt32).toInt32))])) _
        refine XS.iand X0.here hx rfl (hb hby d4_43) rfl ?_
        show Steps p.tables e below (s₁.setTop (mkF m 44 #[.val (.ref a), .val (.int p1), .val (.int (3 : Int32)), .val (.int p2), .val (.int p3), .val (.int p4), .val (.int ((p1.toUInt32 >>> ((6 : Int32) &&& 31).toUInt32).toInt32)), .val (.int (p3 &&& (2147483647 : Int32))), .unset, .unset] [(.int (((p4.toUInt32 >>> ((9 : Int32) &&& 31).toUInt32).toInt32) &&& (7 : Int32)))])) _
        refine XS.iconst X0.here hx rfl (hb hby d4_44) ?_
        show Steps p.tables e below (s₁.setTop (mkF m 45 #[.val (.ref a), .val (.int p1), .val (.int (3 : Int32)), .val (.int p2), .val (.int p3), .val (.int p4), .val (.int ((p1.toUInt32 >>> ((6 : Int32) &&& 31).toUInt32).toInt32)), .val (.int (p3 &&& (2147483647 : Int32))), .unset, .unset] [(.int (1 : Int32)), (.int (((p4.toUInt32 >>> ((9 : Int32) &&& 31).toUInt32).toInt32) &&& (7 : Int32)))])) _
        refine XS.iadd X0.here hx rfl (hb hby d4_45) rfl ?_
        show Steps p.tables e below (s₁.setTop (mkF m 46 #[.val (.ref a), .val (.int p1), .val (.int (3 : Int32)), .val (.int p2), .val (.int p3), .val (.int p4), .val (.int ((p1.toUInt32 >>> ((6 : Int32) &&& 31).toUInt32).toInt32)), .val (.int (p3 &&& (2147483647 : Int32))), .unset, .unset] [(.int ((((p4.toUInt32 >>> ((9 : Int32) &&& 31).toUInt32).toInt32) &&& (7 : Int32)) + (1 : Int32)))])) _
        refine XS.i2dS X0.here hx rfl (hb hby d4_46) rfl (v := (FP.l2d (((((p4.toUInt32 >>> ((9 : Int32) &&& 31).toUInt32).toInt32) &&& (7 : Int32)) + (1 : Int32))).toInt64)) (i2d_w _) ?_
        show Steps p.tables e below (s₁.setTop (mkF m 47 #[.val (.ref a), .val (.int p1), .val (.int (3 : Int32)), .val (.int p2), .val (.int p3), .val (.int p4), .val (.int ((p1.toUInt32 >>> ((6 : Int32) &&& 31).toUInt32).toInt32)), .val (.int (p3 &&& (2147483647 : Int32))), .unset, .unset] [(.double (FP.l2d (((((p4.toUInt32 >>> ((9 : Int32) &&& 31).toUInt32).toInt32) &&& (7 : Int32)) + (1 : Int32))).toInt64))])) _
        exact kt)
      obtain ⟨dvv, hdv, cn9⟩ : ∃ dvv : UInt64, (∃ v8 : Int64, dvv = FP.l2d v8 ∧ 1 ≤ v8.toInt ∧ v8.toInt ≤ 8) ∧ ∀ t, Steps p.tables e below (s₁.setTop (mkF m 47 #[.val (.ref a), .val (.int p1), .val (.int (3 : Int32)), .val (.int p2), .val (.int p3), .val (.int p4), .val (.int ((p1.toUInt32 >>> ((6 : Int32) &&& 31).toUInt32).toInt32)), .val (.int (p3 &&& (2147483647 : Int32))), .unset, .unset] [(.double dvv)])) t → Steps p.tables e below (s₁.setTop (entryFrame m #[(.ref a), (.int p1), (.int (3 : Int32)), (.int p2), (.int p3), (.int p4)] 10)) t := ⟨(FP.l2d (((((p4.toUInt32 >>> ((9 : Int32) &&& 31).toUInt32).toInt32) &&& (7 : Int32)) + (1 : Int32))).toInt64), ⟨_, rfl, own_x8 _⟩, cn8⟩
      obtain ⟨v8, rfl, hv8⟩ := hdv
      have cn10 := fun (t : State) (kt : Steps p.tables e below (s₁.setTop (mkF m 54 #[.val (.ref a), .val (.int p1), .val (.int (3 : Int32)), .val (.int p2), .val (.int p3), .val (.int p4), .val (.int ((p1.toUInt32 >>> ((6 : Int32) &&& 31).toUInt32).toInt32)), .val (.int (p3 &&& (2147483647 : Int32))), .val (.double (FP.l2d v8)), .second] [(.double (FP.l2d v8)), (.int (p3 &&& (2147483647 : Int32))), (.ref a)])) t) => cn9 t (by
        refine XS.dstore X0.here hx rfl (hb hby d4_47) rfl (l' := #[.val (.ref a), .val (.int p1), .val (.int (3 : Int32)), .val (.int p2), .val (.int p3), .val (.int p4), .val (.int ((p1.toUInt32 >>> ((6 : Int32) &&& 31).toUInt32).toInt32)), .val (.int (p3 &&& (2147483647 : Int32))), .val (.double (FP.l2d v8)), .second]) rfl ?_
        show Steps p.tables e below (s₁.setTop (mkF m 49 #[.val (.ref a), .val (.int p1), .val (.int (3 : Int32)), .val (.int p2), .val (.int p3), .val (.int p4), .val (.int ((p1.toUInt32 >>> ((6 : Int32) &&& 31).toUInt32).toInt32)), .val (.int (p3 &&& (2147483647 : Int32))), .val (.double (FP.l2d v8)), .second] [])) _
        refine XS.aloadN X0.here hx rfl (hb hby d4_49) rfl rfl ?_
        show Steps p.tables e below (s₁.setTop (mkF m 50 #[.val (.ref a), .val (.int p1), .val (.int (3 : Int32)), .val (.int p2), .val (.int p3), .val (.int p4), .val (.int ((p1.toUInt32 >>> ((6 : Int32) &&& 31).toUInt32).toInt32)), .val (.int (p3 &&& (2147483647 : Int32))), .val (.double (FP.l2d v8)), .second] [(.ref a)])) _
        refine XS.iload X0.here hx rfl (hb hby d4_50) rfl ?_
        show Steps p.tables e below (s₁.setTop (mkF m 52 #[.val (.ref a), .val (.int p1), .val (.int (3 : Int32)), .val (.int p2), .val (.int p3), .val (.int p4), .val (.int ((p1.toUInt32 >>> ((6 : Int32) &&& 31).toUInt32).toInt32)), .val (.int (p3 &&& (2147483647 : Int32))), .val (.double (FP.l2d v8)), .second] [(.int (p3 &&& (2147483647 : Int32))), (.ref a)])) _
        refine XS.dload X0.here hx rfl (hb hby d4_52) rfl ?_
        show Steps p.tables e below (s₁.setTop (mkF m 54 #[.val (.ref a), .val (.int p1), .val (.int (3 : Int32)), .val (.int p2), .val (.int p3), .val (.int p4), .val (.int ((p1.toUInt32 >>> ((6 : Int32) &&& 31).toUInt32).toInt32)), .val (.int (p3 &&& (2147483647 : Int32))), .val (.double (FP.l2d v8)), .second] [(.double (FP.l2d v8)), (.int (p3 &&& (2147483647 : Int32))), (.ref a)])) _
        exact kt)
      obtain ⟨cq11, kq11, q11a, q11b, q11c⟩ := isOf hZ e0 E_a
      obtain ⟨_, _, ⟨T11, L11, k11, n11⟩, -, X11, ⟨Lc11, hQ11, l11, y11, z11⟩, st11⟩ := X0.virtualBack hx (y := (⟨"com/example/probver/probver/model/TransitionRows", "add", "(ID)V"⟩ : MethodName)) (z := (⟨"com/example/probver/probver/model/TransitionRows", "add", "(ID)V"⟩ : MethodName)) hown (mvT hZ (hw _ (List.mem_of_getElem? (i := 79) rfl))) (mvT hZ (hw _ (List.mem_of_getElem? (i := 80) rfl))) (notFace_of_selects (args := #[]) (mvT hZ (hw _ (List.mem_of_getElem? (i := 82) rfl)))) (mvT hZ (hw _ (List.mem_of_getElem? (i := 82) rfl))) (mvT hZ (hw _ (List.mem_of_getElem? (i := 81) rfl))) (by decide) (backOf (W := 0) (rm16 l Z a0 hw [] a AA1 AA2 AA3 AA4 kA1 kA2 kA3 kA4 f1 f2 f3 f4 rc (ft + c) (p3 &&& (2147483647 : Int32)) (FP.l2d v8) h0 n0 O0 TNh ⟨E_a, FfirstTransitions, FrowCount, Fsuccessors, Fprobabilities, FexactProbabilities, FtransitionCount, FsortKeys, AF1, AF2, AF3, AF4⟩ (by omega) (own_pos _) (own_dl hv8.1 hv8.2) own_dg) hZ (hw _ (List.mem_of_getElem? (i := 83) rfl)) (hw _ (List.mem_of_getElem? (i := 2) rfl)) (by decide) (by decide)) q11a q11c (g := (mkF m 54 #[.val (.ref a), .val (.int p1), .val (.int (3 : Int32)), .val (.int p2), .val (.int p3), .val (.int p4), .val (.int ((p1.toUInt32 >>> ((6 : Int32) &&& 31).toUInt32).toInt32)), .val (.int (p3 &&& (2147483647 : Int32))), .val (.double (FP.l2d v8)), .second] [(.double (FP.l2d v8)), (.int (p3 &&& (2147483647 : Int32))), (.ref a)])) rfl (by rw [hml]; rfl) (Steps.refl _) (argsL := [(.int (p3 &&& (2147483647 : Int32))), (.double (FP.l2d v8))]) (rest := []) (lenOf pd_1 rfl) rfl (by show 2 * 0 + _ ≤ _; exact Nat.le_of_eq rfl) (hb hby d4_54) (fun _ _ => ⟨rfl, e0, (by decide : 0 + 0 ≤ _), (by decide : 0 + 0 ≤ _)⟩)
      dsimp only [Pt.U, Pt.locs, Pt.cells, Pt.slots] at X11 l11 y11 z11 st11 hQ11
      subst l11 y11 z11
      obtain ⟨rfl, Nq11, Kq11, Bq11⟩ := hQ11
      have N11 := Fr.app N0 Nq11
      obtain ⟨E_a_11, FfirstTransitions_11, FrowCount_11, Fsuccessors_11, Fprobabilities_11, FexactProbabilities_11, FtransitionCount_11, FsortKeys_11, AF1_11, AF2_11, AF3_11, AF4_11⟩ := Bq11
      have K11 := Kq11
      have E_a_e11 := E_a.keep K11
      have AF1_e11 := AF1.keep K11 (ninS (Ne.symm ne_a_AA1) (ninS ne_AA1_AA2 (ninS ne_AA1_AA3 nin0)))
      have AF4_e11 := AF4.keep K11 (ninS (Ne.symm ne_a_AA4) (ninS (Ne.symm ne_AA2_AA4) (ninS (Ne.symm ne_AA3_AA4) nin0)))
      have O11 := O0.keep K11 (allS g_a (allS g_AA2 (allS g_AA3 all0)))
      have KK11 : Keep h0 T11.heap [a, AA1, AA2, AA3, AA4] := (Keep.refl h0 [a, AA1, AA2, AA3, AA4]).trans K11 (allS (Or.inl (List.mem_of_getElem? (i := 0) rfl)) (allS (Or.inl (List.mem_of_getElem? (i := 2) rfl)) (allS (Or.inl (List.mem_of_getElem? (i := 3) rfl)) all0)))
      have cn12 := fun (t : State) (kt : Steps p.tables e below (T11.setTop (mkF m 58 #[.val (.ref a), .val (.int p1), .val (.int (3 : Int32)), .val (.int p2), .val (.int p3), .val (.int p4), .val (.int ((p1.toUInt32 >>> ((6 : Int32) &&& 31).toUInt32).toInt32)), .val (.int (p3 &&& (2147483647 : Int32))), .val (.double (FP.l2d v8)), .second] [(.int (1 : Int32))])) t) => cn10 t (by
        refine st11.trans ?_
        show Steps p.tables e below (T11.setTop (mkF m 57 #[.val (.ref a), .val (.int p1), .val (.int (3 : Int32)), .val (.int p2), .val (.int p3), .val (.int p4), .val (.int ((p1.toUInt32 >>> ((6 : Int32) &&& 31).toUInt32).toInt32)), .val (.int (p3 &&& (2147483647 : Int32))), .val (.double (FP.l2d v8)), .second] [])) _
        refine XS.iconst X11.here hx rfl (hb hby d4_57) ?_
        show Steps p.tables e below (T11.setTop (mkF m 58 #[.val (.ref a), .val (.int p1), .val (.int (3 : Int32)), .val (.int p2), .val (.int p3), .val (.int p4), .val (.int ((p1.toUInt32 >>> ((6 : Int32) &&& 31).toUInt32).toInt32)), .val (.int (p3 &&& (2147483647 : Int32))), .val (.double (FP.l2d v8)), .second] [(.int (1 : Int32))])) _
        exact kt)
      obtain ⟨frs, hr, hrun, hended, hW, hsame⟩ := X11.leave (v := some (.int (1 : Int32))) (fun h => by rw [Bd.returns] at h; cases h)
      refine ⟨_, _, cn12 _ ?_, hrun, hended, _, _, rfl, ?_, ⟨_, rfl⟩, hW, hsame.mono (by decide) (by decide)⟩
      · exact retN X11 hx (t := .boolean) Bd.returns (by simp) (hb hby d4_58) hr
      · show QT Z a AA1 AA2 AA3 AA4 kA1 kA2 kA3 kA4 4 h0 n0 _ T11.heap _
        exact ⟨_, _, _, _, _, rc, ft, c + 1, rfl, N11, KK11, ⟨E_a_11, FfirstTransitions_11, FrowCount_11, Fsuccessors_11, Fprobabilities_11, FexactProbabilities_11, FtransitionCount_11, FsortKeys_11, AF1_11, AF2_11, AF3_11, AF4_11⟩, by omega, by omega, hft, H2.upd _ _, (HT.mono (by rw [← own_p1]; omega)).upd _ (by omega) (by have := own_p8 (3 + 1); omega), Or.inl ⟨rfl, Nat.succ_pos c⟩⟩
    · have cn13 := fun (t : State) (kt : Steps p.tables e below (s₁.setTop (mkF m 47 #[.val (.ref a), .val (.int p1), .val (.int (3 : Int32)), .val (.int p2), .val (.int p3), .val (.int p4), .val (.int ((p1.toUInt32 >>> ((6 : Int32) &&& 31).toUInt32).toInt32)), .val (.int (p2 &&& (2147483647 : Int32))), .unset, .unset] [(.double (FP.l2d (((((p4.toUInt32 >>> ((9 : Int32) &&& 31).toUInt32).toInt32) &&& (7 : Int32)) + (1 : Int32))).toInt64))])) t) => cn6 t (by
        refine XS.ifNo X0.here hx rfl (hb hby d4_18) rfl ((if0 _ _).trans (feq hc18_7).1) ?_
        show Steps p.tables e below (s₁.setTop (mkF m 21 #[.val (.ref a), .val (.int p1), .val (.int (3 : Int32)), .val (.int p2), .val (.int p3), .val (.int p4), .val (.int ((p1.toUInt32 >>> ((6 : Int32) &&& 31).toUInt32).toInt32)), .unset, .unset, .unset] [])) _
        refine XS.iloadN X0.here hx rfl (hb hby d4_21) rfl ?_
        show Steps p.tables e below (s₁.setTop (mkF m 22 #[.val (.ref a), .val (.int p1), .val (.int (3 : Int32)), .val (.int p2), .val (.int p3), .val (.int p4), .val (.int ((p1.toUInt32 >>> ((6 : Int32) &&& 31).toUInt32).toInt32)), .unset, .unset, .unset] [(.int p2)])) _
        refine X0.ldcInt hx hown (mvT hZ (hw _ (List.mem_of_getElem? (i := 78) rfl))) (g := (mkF m 22 #[.val (.ref a), .val (.int p1), .val (.int (3 : Int32)), .val (.int p2), .val (.int p3), .val (.int p4), .val (.int ((p1.toUInt32 >>> ((6 : Int32) &&& 31).toUInt32).toInt32)), .unset, .unset, .unset] [(.int p2)])) rfl (hb hby d4_22) _ ?_
        show Steps p.tables e below (s₁.setTop (mkF m 24 #[.val (.ref a), .val (.int p1), .val (.int (3 : Int32)), .val (.int p2), .val (.int p3), .val (.int p4), .val (.int ((p1.toUInt32 >>> ((6 : Int32) &&& 31).toUInt32).toInt32)), .unset, .unset, .unset] [(.int (2147483647 : Int32)), (.int p2)])) _
        refine XS.iand X0.here hx rfl (hb hby d4_24) rfl ?_
        show Steps p.tables e below (s₁.setTop (mkF m 25 #[.val (.ref a), .val (.int p1), .val (.int (3 : Int32)), .val (.int p2), .val (.int p3), .val (.int p4), .val (.int ((p1.toUInt32 >>> ((6 : Int32) &&& 31).toUInt32).toInt32)), .unset, .unset, .unset] [(.int (p2 &&& (2147483647 : Int32)))])) _
        refine XS.goto X0.here hx rfl (pc0 := 25) (pc' := 33) rfl (hb hby d4_25) (by decide) (by decide) ?_
        show Steps p.tables e below (s₁.setTop (mkF m 33 #[.val (.ref a), .val (.int p1), .val (.int (3 : Int32)), .val (.int p2), .val (.int p3), .val (.int p4), .val (.int ((p1.toUInt32 >>> ((6 : Int32) &&& 31).toUInt32).toInt32)), .unset, .unset, .unset] [(.int (p2 &&& (2147483647 : Int32)))])) _
        refine XS.istore X0.here hx rfl (hb hby d4_33) rfl (l' := #[.val (.ref a), .val (.int p1), .val (.int (3 : Int32)), .val (.int p2), .val (.int p3), .val (.int p4), .val (.int ((p1.toUInt32 >>> ((6 : Int32) &&& 31).toUInt32).toInt32)), .val (.int (p2 &&& (2147483647 : Int32))), .unset, .unset]) rfl ?_
        show Steps p.tables e below (s₁.setTop (mkF m 35 #[.val (.ref a), .val (.int p1), .val (.int (3 : Int32)), .val (.int p2), .val (.int p3), .val (.int p4), .val (.int ((p1.toUInt32 >>> ((6 : Int32) &&& 31).toUInt32).toInt32)), .val (.int (p2 &&& (2147483647 : Int32))), .unset, .unset] [])) _
        refine XS.iload X0.here hx rfl (hb hby d4_35) rfl ?_
        show Steps p.tables e below (s₁.setTop (mkF m 37 #[.val (.ref a), .val (.int p1), .val (.int (3 : Int32)), .val (.int p2), .val (.int p3), .val (.int p4), .val (.int ((p1.toUInt32 >>> ((6 : Int32) &&& 31).toUInt32).toInt32)), .val (.int (p2 &&& (2147483647 : Int32))), .unset, .unset] [(.int p4)])) _
        refine XS.iconst X0.here hx rfl (hb hby d4_37) ?_
        show Steps p.tables e below (s₁.setTop (mkF m 38 #[.val (.ref a), .val (.int p1), .val (.int (3 : Int32)), .val (.int p2), .val (.int p3), .val (.int p4), .val (.int ((p1.toUInt32 >>> ((6 : Int32) &&& 31).toUInt32).toInt32)), .val (.int (p2 &&& (2147483647 : Int32))), .unset, .unset] [(.int (3 : Int32)), (.int p4)])) _
        refine XS.iloadN X0.here hx rfl (hb hby d4_38) rfl ?_
        show Steps p.tables e below (s₁.setTop (mkF m 39 #[.val (.ref a), .val (.int p1), .val (.int (3 : Int32)), .val (.int p2), .val (.int p3), .val (.int p4), .val (.int ((p1.toUInt32 >>> ((6 : Int32) &&& 31).toUInt32).toInt32)), .val (.int (p2 &&& (2147483647 : Int32))), .unset, .unset] [(.int (3 : Int32)), (.int (3 : Int32)), (.int p4)])) _
        refine XS.imul X0.here hx rfl (hb hby d4_39) rfl ?_
        show Steps p.tables e below (s₁.setTop (mkF m 40 #[.val (.ref a), .val (.int p1), .val (.int (3 : Int32)), .val (.int p2), .val (.int p3), .val (.int p4), .val (.int ((p1.toUInt32 >>> ((6 : Int32) &&& 31).toUInt32).toInt32)), .val (.int (p2 &&& (2147483647 : Int32))), .unset, .unset] [(.int (9 : Int32)), (.int p4)])) _
        refine XS.iushr X0.here hx rfl (hb hby d4_40) rfl ?_
        show Steps p.tables e below (s₁.setTop (mkF m 41 #[.val (.ref a), .val (.int p1), .val (.int (3 : Int32)), .val (.int p2), .val (.int p3), .val (.int p4), .val (.int ((p1.toUInt32 >>> ((6 : Int32) &&& 31).toUInt32).toInt32)), .val (.int (p2 &&& (2147483647 : Int32))), .unset, .unset] [(.int ((p4.toUInt32 >>> ((9 : Int32) &&& 31).toUInt32).toInt32))])) _
        refine XS.bipush X0.here hx rfl (hb hby d4_41) ?_
        show Steps p.tables e below (s₁.setTop (mkF m 43 #[.val (.ref a), .val (.int p1), .val (.int (3 : Int32)), .val (.int p2), .val (.int p3), .val (.int p4), .val (.int ((p1.toUInt32 >>> ((6 : Int32) &&& 31).toUInt32).toInt32)), .val (.int (p2 &&& (2147483647 : Int32))), .unset, .unset] [(.int (7 : Int32)), (.int ((p4.toUInt32 >>> ((9 : Int32) &&& 31).toUInt32).toInt32))])) _
        refine XS.iand X0.here hx rfl (hb hby d4_43) rfl ?_
        show Steps p.tables e below (s₁.setTop (mkF m 44 #[.val (.ref a), .val (.int p1), .val (.int (3 : Int32)), .val (.int p2), .val (.int p3), .val (.int p4), .val (.int ((p1.toUInt32 >>> ((6 : Int32) &&& 31).toUInt32).toInt32)), .val (.int (p2 &&& (2147483647 : Int32))), .unset, .unset] [(.int (((p4.toUInt32 >>> ((9 : Int32) &&& 31).toUInt32).toInt32) &&& (7 : Int32)))])) _
        refine XS.iconst X0.here hx rfl (hb hby d4_44) ?_
        show Steps p.tables e below (s₁.setTop (mkF m 45 #[.val (.ref a), .val (.int p1), .val (.int (3 : Int32)), .val (.int p2), .val (.int p3), .val (.int p4), .val (.int ((p1.toUInt32 >>> ((6 : Int32) &&& 31).toUInt32).toInt32)), .val (.int (p2 &&& (2147483647 : Int32))), .unset, .unset] [(.int (1 : Int32)), (.int (((p4.toUInt32 >>> ((9 : Int32) &&& 31).toUInt32).toInt32) &&& (7 : Int32)))])) _
        refine XS.iadd X0.here hx rfl (hb hby d4_45) rfl ?_
        show Steps p.tables e below (s₁.setTop (mkF m 46 #[.val (.ref a), .val (.int p1), .val (.int (3 : Int32)), .val (.int p2), .val (.int p3), .val (.int p4), .val (.int ((p1.toUInt32 >>> ((6 : Int32) &&& 31).toUInt32).toInt32)), .val (.int (p2 &&& (2147483647 : Int32))), .unset, .unset] [(.int ((((p4.toUInt32 >>> ((9 : Int32) &&& 31).toUInt32).toInt32) &&& (7 : Int32)) + (1 : Int32)))])) _
        refine XS.i2dS X0.here hx rfl (hb hby d4_46) rfl (v := (FP.l2d (((((p4.toUInt32 >>> ((9 : Int32) &&& 31).toUInt32).toInt32) &&& (7 : Int32)) + (1 : Int32))).toInt64)) (i2d_w _) ?_
        show Steps p.tables e below (s₁.setTop (mkF m 47 #[.val (.ref a), .val (.int p1), .val (.int (3 : Int32)), .val (.int p2), .val (.int p3), .val (.int p4), .val (.int ((p1.toUInt32 >>> ((6 : Int32) &&& 31).toUInt32).toInt32)), .val (.int (p2 &&& (2147483647 : Int32))), .unset, .unset] [(.double (FP.l2d (((((p4.toUInt32 >>> ((9 : Int32) &&& 31).toUInt32).toInt32) &&& (7 : Int32)) + (1 : Int32))).toInt64))])) _
        exact kt)
      obtain ⟨dvv, hdv, cn14⟩ : ∃ dvv : UInt64, (∃ v8 : Int64, dvv = FP.l2d v8 ∧ 1 ≤ v8.toInt ∧ v8.toInt ≤ 8) ∧ ∀ t, Steps p.tables e below (s₁.setTop (mkF m 47 #[.val (.ref a), .val (.int p1), .val (.int (3 : Int32)), .val (.int p2), .val (.int p3), .val (.int p4), .val (.int ((p1.toUInt32 >>> ((6 : Int32) &&& 31).toUInt32).toInt32)), .val (.int (p2 &&& (2147483647 : Int32))), .unset, .unset] [(.double dvv)])) t → Steps p.tables e below (s₁.setTop (entryFrame m #[(.ref a), (.int p1), (.int (3 : Int32)), (.int p2), (.int p3), (.int p4)] 10)) t := ⟨(FP.l2d (((((p4.toUInt32 >>> ((9 : Int32) &&& 31).toUInt32).toInt32) &&& (7 : Int32)) + (1 : Int32))).toInt64), ⟨_, rfl, own_x8 _⟩, cn13⟩
      obtain ⟨v8, rfl, hv8⟩ := hdv
      have cn15 := fun (t : State) (kt : Steps p.tables e below (s₁.setTop (mkF m 54 #[.val (.ref a), .val (.int p1), .val (.int (3 : Int32)), .val (.int p2), .val (.int p3), .val (.int p4), .val (.int ((p1.toUInt32 >>> ((6 : Int32) &&& 31).toUInt32).toInt32)), .val (.int (p2 &&& (2147483647 : Int32))), .val (.double (FP.l2d v8)), .second] [(.double (FP.l2d v8)), (.int (p2 &&& (2147483647 : Int32))), (.ref a)])) t) => cn14 t (by
        refine XS.dstore X0.here hx rfl (hb hby d4_47) rfl (l' := #[.val (.ref a), .val (.int p1), .val (.int (3 : Int32)), .val (.int p2), .val (.int p3), .val (.int p4), .val (.int ((p1.toUInt32 >>> ((6 : Int32) &&& 31).toUInt32).toInt32)), .val (.int (p2 &&& (2147483647 : Int32))), .val (.double (FP.l2d v8)), .second]) rfl ?_
        show Steps p.tables e below (s₁.setTop (mkF m 49 #[.val (.ref a), .val (.int p1), .val (.int (3 : Int32)), .val (.int p2), .val (.int p3), .val (.int p4), .val (.int ((p1.toUInt32 >>> ((6 : Int32) &&& 31).toUInt32).toInt32)), .val (.int (p2 &&& (2147483647 : Int32))), .val (.double (FP.l2d v8)), .second] [])) _
        refine XS.aloadN X0.here hx rfl (hb hby d4_49) rfl rfl ?_
        show Steps p.tables e below (s₁.setTop (mkF m 50 #[.val (.ref a), .val (.int p1), .val (.int (3 : Int32)), .val (.int p2), .val (.int p3), .val (.int p4), .val (.int ((p1.toUInt32 >>> ((6 : Int32) &&& 31).toUInt32).toInt32)), .val (.int (p2 &&& (2147483647 : Int32))), .val (.double (FP.l2d v8)), .second] [(.ref a)])) _
        refine XS.iload X0.here hx rfl (hb hby d4_50) rfl ?_
        show Steps p.tables e below (s₁.setTop (mkF m 52 #[.val (.ref a), .val (.int p1), .val (.int (3 : Int32)), .val (.int p2), .val (.int p3), .val (.int p4), .val (.int ((p1.toUInt32 >>> ((6 : Int32) &&& 31).toUInt32).toInt32)), .val (.int (p2 &&& (2147483647 : Int32))), .val (.double (FP.l2d v8)), .second] [(.int (p2 &&& (2147483647 : Int32))), (.ref a)])) _
        refine XS.dload X0.here hx rfl (hb hby d4_52) rfl ?_
        show Steps p.tables e below (s₁.setTop (mkF m 54 #[.val (.ref a), .val (.int p1), .val (.int (3 : Int32)), .val (.int p2), .val (.int p3), .val (.int p4), .val (.int ((p1.toUInt32 >>> ((6 : Int32) &&& 31).toUInt32).toInt32)), .val (.int (p2 &&& (2147483647 : Int32))), .val (.double (FP.l2d v8)), .second] [(.double (FP.l2d v8)), (.int (p2 &&& (2147483647 : Int32))), (.ref a)])) _
        exact kt)
      obtain ⟨cq16, kq16, q16a, q16b, q16c⟩ := isOf hZ e0 E_a
      obtain ⟨_, _, ⟨T16, L16, k16, n16⟩, -, X16, ⟨Lc16, hQ16, l16, y16, z16⟩, st16⟩ := X0.virtualBack hx (y := (⟨"com/example/probver/probver/model/TransitionRows", "add", "(ID)V"⟩ : MethodName)) (z := (⟨"com/example/probver/probver/model/TransitionRows", "add", "(ID)V"⟩ : MethodName)) hown (mvT hZ (hw _ (List.mem_of_getElem? (i := 79) rfl))) (mvT hZ (hw _ (List.mem_of_getElem? (i := 80) rfl))) (notFace_of_selects (args := #[]) (mvT hZ (hw _ (List.mem_of_getElem? (i := 82) rfl)))) (mvT hZ (hw _ (List.mem_of_getElem? (i := 82) rfl))) (mvT hZ (hw _ (List.mem_of_getElem? (i := 81) rfl))) (by decide) (backOf (W := 0) (rm16 l Z a0 hw [] a AA1 AA2 AA3 AA4 kA1 kA2 kA3 kA4 f1 f2 f3 f4 rc (ft + c) (p2 &&& (2147483647 : Int32)) (FP.l2d v8) h0 n0 O0 TNh ⟨E_a, FfirstTransitions, FrowCount, Fsuccessors, Fprobabilities, FexactProbabilities, FtransitionCount, FsortKeys, AF1, AF2, AF3, AF4⟩ (by omega) (own_pos _) (own_dl hv8.1 hv8.2) own_dg) hZ (hw _ (List.mem_of_getElem? (i := 83) rfl)) (hw _ (List.mem_of_getElem? (i := 2) rfl)) (by decide) (by decide)) q16a q16c (g := (mkF m 54 #[.val (.ref a), .val (.int p1), .val (.int (3 : Int32)), .val (.int p2), .val (.int p3), .val (.int p4), .val (.int ((p1.toUInt32 >>> ((6 : Int32) &&& 31).toUInt32).toInt32)), .val (.int (p2 &&& (2147483647 : Int32))), .val (.double (FP.l2d v8)), .second] [(.double (FP.l2d v8)), (.int (p2 &&& (2147483647 : Int32))), (.ref a)])) rfl (by rw [hml]; rfl) (Steps.refl _) (argsL := [(.int (p2 &&& (2147483647 : Int32))), (.double (FP.l2d v8))]) (rest := []) (lenOf pd_1 rfl) rfl (by show 2 * 0 + _ ≤ _; exact Nat.le_of_eq rfl) (hb hby d4_54) (fun _ _ => ⟨rfl, e0, (by decide : 0 + 0 ≤ _), (by decide : 0 + 0 ≤ _)⟩)
      dsimp only [Pt.U, Pt.locs, Pt.cells, Pt.slots] at X16 l16 y16 z16 st16 hQ16
      subst l16 y16 z16
      obtain ⟨rfl, Nq16, Kq16, Bq16⟩ := hQ16
      have N16 := Fr.app N0 Nq16
      obtain ⟨E_a_16, FfirstTransitions_16, FrowCount_16, Fsuccessors_16, Fprobabilities_16, FexactProbabilities_16, FtransitionCount_16, FsortKeys_16, AF1_16, AF2_16, AF3_16, AF4_16⟩ := Bq16
      have K16 := Kq16
      have E_a_e16 := E_a.keep K16
      have AF1_e16 := AF1.keep K16 (ninS (Ne.symm ne_a_AA1) (ninS ne_AA1_AA2 (ninS ne_AA1_AA3 nin0)))
      have AF4_e16 := AF4.keep K16 (ninS (Ne.symm ne_a_AA4) (ninS (Ne.symm ne_AA2_AA4) (ninS (Ne.symm ne_AA3_AA4) nin0)))
      have O16 := O0.keep K16 (allS g_a (allS g_AA2 (allS g_AA3 all0)))
      have KK16 : Keep h0 T16.heap [a, AA1, AA2, AA3, AA4] := (Keep.refl h0 [a, AA1, AA2, AA3, AA4]).trans K16 (allS (Or.inl (List.mem_of_getElem? (i := 0) rfl)) (allS (Or.inl (List.mem_of_getElem? (i := 2) rfl)) (allS (Or.inl (List.mem_of_getElem? (i := 3) rfl)) all0)))
      have cn17 := fun (t : State) (kt : Steps p.tables e below (T16.setTop (mkF m 58 #[.val (.ref a), .val (.int p1), .val (.int (3 : Int32)), .val (.int p2), .val (.int p3), .val (.int p4), .val (.int ((p1.toUInt32 >>> ((6 : Int32) &&& 31).toUInt32).toInt32)), .val (.int (p2 &&& (2147483647 : Int32))), .val (.double (FP.l2d v8)), .second] [(.int (1 : Int32))])) t) => cn15 t (by
        refine st16.trans ?_
        show Steps p.tables e below (T16.setTop (mkF m 57 #[.val (.ref a), .val (.int p1), .val (.int (3 : Int32)), .val (.int p2), .val (.int p3), .val (.int p4), .val (.int ((p1.toUInt32 >>> ((6 : Int32) &&& 31).toUInt32).toInt32)), .val (.int (p2 &&& (2147483647 : Int32))), .val (.double (FP.l2d v8)), .second] [])) _
        refine XS.iconst X16.here hx rfl (hb hby d4_57) ?_
        show Steps p.tables e below (T16.setTop (mkF m 58 #[.val (.ref a), .val (.int p1), .val (.int (3 : Int32)), .val (.int p2), .val (.int p3), .val (.int p4), .val (.int ((p1.toUInt32 >>> ((6 : Int32) &&& 31).toUInt32).toInt32)), .val (.int (p2 &&& (2147483647 : Int32))), .val (.double (FP.l2d v8)), .second] [(.int (1 : Int32))])) _
        exact kt)
      obtain ⟨frs, hr, hrun, hended, hW, hsame⟩ := X16.leave (v := some (.int (1 : Int32))) (fun h => by rw [Bd.returns] at h; cases h)
      refine ⟨_, _, cn17 _ ?_, hrun, hended, _, _, rfl, ?_, ⟨_, rfl⟩, hW, hsame.mono (by decide) (by decide)⟩
      · exact retN X16 hx (t := .boolean) Bd.returns (by simp) (hb hby d4_58) hr
      · show QT Z a AA1 AA2 AA3 AA4 kA1 kA2 kA3 kA4 4 h0 n0 _ T16.heap _
        exact ⟨_, _, _, _, _, rc, ft, c + 1, rfl, N16, KK16, ⟨E_a_16, FfirstTransitions_16, FrowCount_16, Fsuccessors_16, Fprobabilities_16, FexactProbabilities_16, FtransitionCount_16, FsortKeys_16, AF1_16, AF2_16, AF3_16, AF4_16⟩, by omega, by omega, hft, H2.upd _ _, (HT.mono (by rw [← own_p1]; omega)).upd _ (by omega) (by have := own_p8 (3 + 1); omega), Or.inl ⟨rfl, Nat.succ_pos c⟩⟩

def QC (Z : State) (a : Addr) (h0 : Heap) (n0 : Nat) (v : Option Value) (h : Heap) (L : List Loc) : Prop := ∃ (AA1 AA2 AA3 AA4 : Addr) (kA1 kA2 kA3 kA4 : ClassId) (f1 f2 f3 f4 : Nat → Value), v = none ∧ Fr n0 L ∧ Keep h0 h [a] ∧ h0.size ≤ AA1 ∧ h0.size ≤ AA2 ∧ h0.size ≤ AA3 ∧ h0.size ≤ AA4 ∧ TN n0 a AA1 AA2 AA3 AA4 ∧ INV Z h a AA1 AA2 AA3 AA4 kA1 kA2 kA3 kA4 0 0 f1 f2 f3 f4 0 0 0
theorem d1_0 : decode prog_142_method_1_code 0 = .ok (.aload_n 0, 1) := by decide +kernel
theorem d1_1 : decode prog_142_method_1_code 1 = .ok (.invokespecial 1, 3) := by decide +kernel
theorem d1_4 : decode prog_142_method_1_code 4 = .ok (.aload_n 0, 1) := by decide +kernel
theorem d1_5 : decode prog_142_method_1_code 5 = .ok (.bipush 16, 2) := by decide +kernel
theorem d1_7 : decode prog_142_method_1_code 7 = .ok (.newarray .int, 2) := by decide +kernel
theorem d1_9 : decode prog_142_method_1_code 9 = .ok (.putfield 7, 3) := by decide +kernel
theorem d1_12 : decode prog_142_method_1_code 12 = .ok (.aload_n 0, 1) := by decide +kernel
theorem d1_13 : decode prog_142_method_1_code 13 = .ok (.bipush 16, 2) := by decide +kernel
theorem d1_15 : decode prog_142_method_1_code 15 = .ok (.newarray .int, 2) := by decide +kernel
theorem d1_17 : decode prog_142_method_1_code 17 = .ok (.putfield 13, 3) := by decide +kernel
theorem d1_20 : decode prog_142_method_1_code 20 = .ok (.aload_n 0, 1) := by decide +kernel
theorem d1_21 : decode prog_142_method_1_code 21 = .ok (.bipush 16, 2) := by decide +kernel
theorem d1_23 : decode prog_142_method_1_code 23 = .ok (.newarray .double, 2) := by decide +kernel
theorem d1_25 : decode prog_142_method_1_code 25 = .ok (.putfield 16, 3) := by decide +kernel
theorem d1_28 : decode prog_142_method_1_code 28 = .ok (.aload_n 0, 1) := by decide +kernel
theorem d1_29 : decode prog_142_method_1_code 29 = .ok (.bipush 16, 2) := by decide +kernel
theorem d1_31 : decode prog_142_method_1_code 31 = .ok (.newarray .long, 2) := by decide +kernel
theorem d1_33 : decode prog_142_method_1_code 33 = .ok (.putfield 20, 3) := by decide +kernel
theorem d1_36 : decode prog_142_method_1_code 36 = .ok (.return_, 1) := by decide +kernel
theorem ef_1 (m : MethodId) (x0 : Addr) : entryFrame m #[(.ref x0)] 1 = mkF m 0 #[.val (.ref x0)] [] := by first | (simp [entryFrame, mkF, argsToLocals, Value.category]; done) | rfl
set_option maxRecDepth 65536 in
set_option maxHeartbeats 40000000 in
theorem rm1 (l : Launch) (Z : State) (a0 : Array Value) (hw : ∀ d ∈ tables_1, d.before a0 Z = true) (ws : List Jvm.Cond) (a : Addr) (h0 : Heap) (n0 : Nat) (O0 : Old Z n0 h0) (g_a : n0 ≤ a) (E_a : Exa Z h0 a "com/example/probver/probver/model/TransitionRows") (FfirstTransitions : Fld Z h0 a "com/example/probver/probver/model/TransitionRows" "firstTransitions" "[I" .null) (FrowCount : Fld Z h0 a "com/example/probver/probver/model/TransitionRows" "rowCount" "I" (.int (0 : Int32))) (Fsuccessors : Fld Z h0 a "com/example/probver/probver/model/TransitionRows" "successors" "[I" .null) (Fprobabilities : Fld Z h0 a "com/example/probver/probver/model/TransitionRows" "probabilities" "[D" .null) (FexactProbabilities : Fld Z h0 a "com/example/probver/probver/model/TransitionRows" "exactProbabilities" "[Lcom/example/probver/probver/util/Rational;" .null) (FtransitionCount : Fld Z h0 a "com/example/probver/probver/model/TransitionRows" "transitionCount" "I" (.int (0 : Int32))) (FsortKeys : Fld Z h0 a "com/example/probver/probver/model/TransitionRows" "sortKeys" "[J" .null) :
    MetFree l (⟨"com/example/probver/probver/model/TransitionRows", "<init>", "()V"⟩ : MethodName) (head1 (Jvm.Cond.code (⟨"com/example/probver/probver/model/TransitionRows", "<init>", "()V"⟩ : MethodName) prog_142_method_1_code 1 none :: ws) ({ frames := 1, cells := 4, slots := 64, locals := 12 } : Room)) (fun aQ U => aQ = #[(.ref a)] ∧ Z.Warmed39 U.vm ∧ U.heap = h0) (fun _ _ _ _ _ => True) (fun _ U o U' => ∃ v L, o = .returned v ∧ QC Z a h0 n0 v U'.heap L ∧ FrameEnd U o U' L ({ frames := 1, cells := 4, slots := 64, locals := 12 } : Room).cells ({ frames := 1, cells := 4, slots := 64, locals := 12 } : Room).slots) := by
  refine MetFree.of_bodySF (plainFor_of_name pn_com_example_probver_probver_model_TransitionRows) hisR ?_
  intro p e s m args below meth kode s₁ Bd hml0 hP hK
  obtain ⟨rfl, hZ, hh⟩ := hP
  have hx := Bd.exec
  have hby := Bd.bytes
  have hml : kode.maxLocals = 1 := hml0
  have hown : s.vm.findClass "com/example/probver/probver/model/TransitionRows" = some m.cls := findClass_of_methodNamed Bd.named
  have hnm := (name_of_methodNamed Bd.named Bd.method).1
  have X0 : Stand p l e ({ frames := 1, cells := 4, slots := 64, locals := 12 } : Room) s m #[(.ref a)] below meth kode s₁ [] 0 0 := Stand.of_body Bd
  have e0 : s₁.heap = h0 := by rw [← hh, Bd.state]; rfl
  have N0 := Fr.nil n0
  have pre0 : ∀ t, Steps p.tables e below (s₁.setTop (mkF m 0 #[.val (.ref a)] [])) t → Steps p.tables e below (s₁.setTop (entryFrame m #[(.ref a)] 1)) t := fun t k => castTop (ef_1 m a) k
  have cn1 := fun (t : State) (kt : Steps p.tables e below (s₁.setTop (mkF m 1 #[.val (.ref a)] [(.ref a)])) t) => pre0 t (by
    refine XS.aloadN X0.here hx rfl (hb hby d1_0) rfl rfl ?_
    show Steps p.tables e below (s₁.setTop (mkF m 1 #[.val (.ref a)] [(.ref a)])) _
    exact kt)
  obtain ⟨T2, X2, e2, st2⟩ := initO X0 hx hZ hown (hw _ (List.mem_of_getElem? (i := 6) rfl)) (hw _ (List.mem_of_getElem? (i := 7) rfl)) (hw _ (List.mem_of_getElem? (i := 8) rfl)) e0 (g := (mkF m 1 #[.val (.ref a)] [(.ref a)])) rfl (by rw [hml]; rfl) rfl (hb hby d1_1) (by decide) (W := 0) (by show 2 * 0 + _ ≤ _; exact Nat.le_of_eq rfl) (by decide)
  have cn3 := fun (t : State) (kt : Steps p.tables e below (T2.setTop (mkF m 7 #[.val (.ref a)] [(.int (16 : Int32)), (.ref a)])) t) => cn1 t (by
    refine st2 _ ?_
    show Steps p.tables e below (T2.setTop (mkF m 4 #[.val (.ref a)] [])) _
    refine XS.aloadN X2.here hx rfl (hb hby d1_4) rfl rfl ?_
    show Steps p.tables e below (T2.setTop (mkF m 5 #[.val (.ref a)] [(.ref a)])) _
    refine XS.bipush X2.here hx rfl (hb hby d1_5) ?_
    show Steps p.tables e below (T2.setTop (mkF m 7 #[.val (.ref a)] [(.int (16 : Int32)), (.ref a)])) _
    exact kt)
  obtain ⟨T4, h4, k4, X4, e4, E4, A4, st4⟩ := newP X2 hx hZ (hw _ (List.mem_of_getElem? (i := 9) rfl)) e2 (g := (mkF m 7 #[.val (.ref a)] [(.int (16 : Int32)), (.ref a)])) rfl (hb hby d1_7) rfl (by decide) (cap := 16) (by decide) (by decide) (by decide) (by decide)
  obtain ⟨b4, g4⟩ : ∃ z, z = h0.size := ⟨_, rfl⟩
  rw [← g4] at A4 st4
  have ne_a_b4 : a ≠ b4 := Nat.ne_of_lt (Nat.lt_of_lt_of_le E_a.lt (Nat.le_of_eq g4.symm))
  have sz_b4 : h0.size ≤ b4 := Nat.le_trans (Keep.refl h0 [a]).1 (Nat.le_of_eq g4.symm)
  have g_b4 : n0 ≤ b4 := Nat.le_trans (O0.1 ▸ O0.2.1) sz_b4
  have E_a_e4 := E_a.ext E4
  have FfirstTransitions_e4 := FfirstTransitions.ext E4
  have FrowCount_e4 := FrowCount.ext E4
  have Fsuccessors_e4 := Fsuccessors.ext E4
  have Fprobabilities_e4 := Fprobabilities.ext E4
  have FexactProbabilities_e4 := FexactProbabilities.ext E4
  have FtransitionCount_e4 := FtransitionCount.ext E4
  have FsortKeys_e4 := FsortKeys.ext E4
  have O4 := O0.ext E4
  have K4 : Keep h0 h4 [a] := (Keep.refl h0 [a]).ext E4
  have AF4 : AF Z h4 b4 k4 .int 16 (fun _ => defaultValue .int) := AF.new A4 (by decide)
  have cn5 := fun (t : State) (kt : Steps p.tables e below (T4.setTop (mkF m 9 #[.val (.ref a)] [(.ref b4), (.ref a)])) t) => cn3 t (by
    refine st4 _ ?_
    show Steps p.tables e below (T4.setTop (mkF m 9 #[.val (.ref a)] [(.ref b4), (.ref a)])) _
    exact kt)
  obtain ⟨T6, h6, X6, e6, W6, st6⟩ := putF X4 hx hZ hown (host := "") (Or.inl (hw _ (List.mem_of_getElem? (i := 10) rfl))) Via.refl e4 FfirstTransitions_e4 E_a_e4 (Or.inl (hw _ (List.mem_of_getElem? (i := 11) rfl))) (hw _ (List.mem_of_getElem? (i := 1) rfl)) (ty := (.array .int)) (by decide) rfl rfl (g := (mkF m 9 #[.val (.ref a)] [(.ref b4), (.ref a)])) rfl rfl (hb hby d1_9)
  have E_a_e6 := E_a_e4.wr W6
  have FrowCount_e6 := FrowCount_e4.other W6 (Or.inr (slot_ne (Or.inl (hw _ (List.mem_of_getElem? (i := 28) rfl))) (Or.inl (hw _ (List.mem_of_getElem? (i := 11) rfl))) (by decide) (t := .int) (t' := (.array .int)) (by decide) (by decide)))
  have Fsuccessors_e6 := Fsuccessors_e4.other W6 (Or.inr (slot_ne (Or.inl (hw _ (List.mem_of_getElem? (i := 13) rfl))) (Or.inl (hw _ (List.mem_of_getElem? (i := 11) rfl))) (by decide) (t := (.array .int)) (t' := (.array .int)) (by decide) (by decide)))
  have Fprobabilities_e6 := Fprobabilities_e4.other W6 (Or.inr (slot_ne (Or.inl (hw _ (List.mem_of_getElem? (i := 16) rfl))) (Or.inl (hw _ (List.mem_of_getElem? (i := 11) rfl))) (by decide) (t := (.array .double)) (t' := (.array .int)) (by decide) (by decide)))
  have FexactProbabilities_e6 := FexactProbabilities_e4.other W6 (Or.inr (slot_ne (Or.inl (hw _ (List.mem_of_getElem? (i := 77) rfl))) (Or.inl (hw _ (List.mem_of_getElem? (i := 11) rfl))) (by decide) (t := (.array (.object "com/example/probver/probver/util/Rational"))) (t' := (.array .int)) (by decide) (by decide)))
  have FtransitionCount_e6 := FtransitionCount_e4.other W6 (Or.inr (slot_ne (Or.inl (hw _ (List.mem_of_getElem? (i := 26) rfl))) (Or.inl (hw _ (List.mem_of_getElem? (i := 11) rfl))) (by decide) (t := .int) (t' := (.array .int)) (by decide) (by decide)))
  have FsortKeys_e6 := FsortKeys_e4.other W6 (Or.inr (slot_ne (Or.inl (hw _ (List.mem_of_getElem? (i := 19) rfl))) (Or.inl (hw _ (List.mem_of_getElem? (i := 11) rfl))) (by decide) (t := (.array .long)) (t' := (.array .int)) (by decide) (by decide)))
  have AF4_e6 := AF4.other W6 (Ne.symm ne_a_b4)
  have N6 := Fr.snoc X6 N0 g_a
  have O6 := O4.wr W6 g_a
  have K6 : Keep h0 h6 [a] := K4.wr W6 (Or.inl (List.mem_of_getElem? (i := 0) rfl))
  have FfirstTransitions_6 := FfirstTransitions_e4.same W6
  have cn7 := fun (t : State) (kt : Steps p.tables e below (T6.setTop (mkF m 15 #[.val (.ref a)] [(.int (16 : Int32)), (.ref a)])) t) => cn5 t (by
    refine st6 _ ?_
    show Steps p.tables e below (T6.setTop (mkF m 12 #[.val (.ref a)] [])) _
    refine XS.aloadN X6.here hx rfl (hb hby d1_12) rfl rfl ?_
    show Steps p.tables e below (T6.setTop (mkF m 13 #[.val (.ref a)] [(.ref a)])) _
    refine XS.bipush X6.here hx rfl (hb hby d1_13) ?_
    show Steps p.tables e below (T6.setTop (mkF m 15 #[.val (.ref a)] [(.int (16 : Int32)), (.ref a)])) _
    exact kt)
  obtain ⟨T8, h8, k8, X8, e8, E8, A8, st8⟩ := newP X6 hx hZ (hw _ (List.mem_of_getElem? (i := 9) rfl)) e6 (g := (mkF m 15 #[.val (.ref a)] [(.int (16 : Int32)), (.ref a)])) rfl (hb hby d1_15) rfl (by decide) (cap := 16) (by decide) (by decide) (by decide) (by decide)
  obtain ⟨b8, g8⟩ : ∃ z, z = h6.size := ⟨_, rfl⟩
  rw [← g8] at A8 st8
  have ne_a_b8 : a ≠ b8 := Nat.ne_of_lt (Nat.lt_of_lt_of_le E_a_e6.lt (Nat.le_of_eq g8.symm))
  have ne_b4_b8 : b4 ≠ b8 := Nat.ne_of_lt (Nat.lt_of_lt_of_le AF4_e6.lt (Nat.le_of_eq g8.symm))
  have sz_b8 : h0.size ≤ b8 := Nat.le_trans K6.1 (Nat.le_of_eq g8.symm)
  have g_b8 : n0 ≤ b8 := Nat.le_trans (O0.1 ▸ O0.2.1) sz_b8
  have E_a_e8 := E_a_e6.ext E8
  have FfirstTransitions_6_e8 := FfirstTransitions_6.ext E8
  have FrowCount_e8 := FrowCount_e6.ext E8
  have Fsuccessors_e8 := Fsuccessors_e6.ext E8
  have Fprobabilities_e8 := Fprobabilities_e6.ext E8
  have FexactProbabilities_e8 := FexactProbabilities_e6.ext E8
  have FtransitionCount_e8 := FtransitionCount_e6.ext E8
  have FsortKeys_e8 := FsortKeys_e6.ext E8
  have AF4_e8 := AF4_e6.ext E8
  have O8 := O6.ext E8
  have K8 : Keep h0 h8 [a] := K6.ext E8
  have AF8 : AF Z h8 b8 k8 .int 16 (fun _ => defaultValue .int) := AF.new A8 (by decide)
  have cn9 := fun (t : State) (kt : Steps p.tables e below (T8.setTop (mkF m 17 #[.val (.ref a)] [(.ref b8), (.ref a)])) t) => cn7 t (by
    refine st8 _ ?_
    show Steps p.tables e below (T8.setTop (mkF m 17 #[.val (.ref a)] [(.ref b8), (.ref a)])) _
    exact kt)
  obtain ⟨T10, h10, X10, e10, W10, st10⟩ := putF X8 hx hZ hown (host := "") (Or.inl (hw _ (List.mem_of_getElem? (i := 12) rfl))) Via.refl e8 Fsuccessors_e8 E_a_e8 (Or.inl (hw _ (List.mem_of_getElem? (i := 13) rfl))) (hw _ (List.mem_of_getElem? (i := 1) rfl)) (ty := (.array .int)) (by decide) rfl rfl (g := (mkF m 17 #[.val (.ref a)] [(.ref b8), (.ref a)])) rfl rfl (hb hby d1_17)
  have E_a_e10 := E_a_e8.wr W10
  have FfirstTransitions_6_e10 := FfirstTransitions_6_e8.other W10 (Or.inr (slot_ne (Or.inl (hw _ (List.mem_of_getElem? (i := 11) rfl))) (Or.inl (hw _ (List.mem_of_getElem? (i := 13) rfl))) (by decide) (t := (.array .int)) (t' := (.array .int)) (by decide) (by decide)))
  have FrowCount_e10 := FrowCount_e8.other W10 (Or.inr (slot_ne (Or.inl (hw _ (List.mem_of_getElem? (i := 28) rfl))) (Or.inl (hw _ (List.mem_of_getElem? (i := 13) rfl))) (by decide) (t := .int) (t' := (.array .int)) (by decide) (by decide)))
  have Fprobabilities_e10 := Fprobabilities_e8.other W10 (Or.inr (slot_ne (Or.inl (hw _ (List.mem_of_getElem? (i := 16) rfl))) (Or.inl (hw _ (List.mem_of_getElem? (i := 13) rfl))) (by decide) (t := (.array .double)) (t' := (.array .int)) (by decide) (by decide)))
  have FexactProbabilities_e10 := FexactProbabilities_e8.other W10 (Or.inr (slot_ne (Or.inl (hw _ (List.mem_of_getElem? (i := 77) rfl))) (Or.inl (hw _ (List.mem_of_getElem? (i := 13) rfl))) (by decide) (t := (.array (.object "com/example/probver/probver/util/Rational"))) (t' := (.array .int)) (by decide) (by decide)))
  have FtransitionCount_e10 := FtransitionCount_e8.other W10 (Or.inr (slot_ne (Or.inl (hw _ (List.mem_of_getElem? (i := 26) rfl))) (Or.inl (hw _ (List.mem_of_getElem? (i := 13) rfl))) (by decide) (t := .int) (t' := (.array .int)) (by decide) (by decide)))
  have FsortKeys_e10 := FsortKeys_e8.other W10 (Or.inr (slot_ne (Or.inl (hw _ (List.mem_of_getElem? (i := 19) rfl))) (Or.inl (hw _ (List.mem_of_getElem? (i := 13) rfl))) (by decide) (t := (.array .long)) (t' := (.array .int)) (by decide) (by decide)))
  have AF4_e10 := AF4_e8.other W10 (Ne.symm ne_a_b4)
  have AF8_e10 := AF8.other W10 (Ne.symm ne_a_b8)
  have N10 := Fr.snoc X10 N6 g_a
  have O10 := O8.wr W10 g_a
  have K10 : Keep h0 h10 [a] := K8.wr W10 (Or.inl (List.mem_of_getElem? (i := 0) rfl))
  have Fsuccessors_10 := Fsuccessors_e8.same W10
  have cn11 := fun (t : State) (kt : Steps p.tables e below (T10.setTop (mkF m 23 #[.val (.ref a)] [(.int (16 : Int32)), (.ref a)])) t) => cn9 t (by
    refine st10 _ ?_
    show Steps p.tables e below (T10.setTop (mkF m 20 #[.val (.ref a)] [])) _
    refine XS.aloadN X10.here hx rfl (hb hby d1_20) rfl rfl ?_
    show Steps p.tables e below (T10.setTop (mkF m 21 #[.val (.ref a)] [(.ref a)])) _
    refine XS.bipush X10.here hx rfl (hb hby d1_21) ?_
    show Steps p.tables e below (T10.setTop (mkF m 23 #[.val (.ref a)] [(.int (16 : Int32)), (.ref a)])) _
    exact kt)
  obtain ⟨T12, h12, k12, X12, e12, E12, A12, st12⟩ := newP X10 hx hZ (hw _ (List.mem_of_getElem? (i := 14) rfl)) e10 (g := (mkF m 23 #[.val (.ref a)] [(.int (16 : Int32)), (.ref a)])) rfl (hb hby d1_23) rfl (by decide) (cap := 16) (by decide) (by decide) (by decide) (by decide)
  obtain ⟨b12, g12⟩ : ∃ z, z = h10.size := ⟨_, rfl⟩
  rw [← g12] at A12 st12
  have ne_a_b12 : a ≠ b12 := Nat.ne_of_lt (Nat.lt_of_lt_of_le E_a_e10.lt (Nat.le_of_eq g12.symm))
  have ne_b4_b12 : b4 ≠ b12 := Nat.ne_of_lt (Nat.lt_of_lt_of_le AF4_e10.lt (Nat.le_of_eq g12.symm))
  have ne_b8_b12 : b8 ≠ b12 := Nat.ne_of_lt (Nat.lt_of_lt_of_le AF8_e10.lt (Nat.le_of_eq g12.symm))
  have sz_b12 : h0.size ≤ b12 := Nat.le_trans K10.1 (Nat.le_of_eq g12.symm)
  have g_b12 : n0 ≤ b12 := Nat.le_trans (O0.1 ▸ O0.2.1) sz_b12
  have E_a_e12 := E_a_e10.ext E12
  have FfirstTransitions_6_e12 := FfirstTransitions_6_e10.ext E12
  have FrowCount_e12 := FrowCount_e10.ext E12
  have Fsuccessors_10_e12 := Fsuccessors_10.ext E12
  have Fprobabilities_e12 := Fprobabilities_e10.ext E12
  have FexactProbabilities_e12 := FexactProbabilities_e10.ext E12
  have FtransitionCount_e12 := FtransitionCount_e10.ext E12
  have FsortKeys_e12 := FsortKeys_e10.ext E12
  have AF4_e12 := AF4_e10.ext E12
  have AF8_e12 := AF8_e10.ext E12
  have O12 := O10.ext E12
  have K12 : Keep h0 h12 [a] := K10.ext E12
  have AF12 : AF Z h12 b12 k12 .double 16 (fun _ => defaultValue .double) := AF.new A12 (by decide)
  have cn13 := fun (t : State) (kt : Steps p.tables e below (T12.setTop (mkF m 25 #[.val (.ref a)] [(.ref b12), (.ref a)])) t) => cn11 t (by
    refine st12 _ ?_
    show Steps p.tables e below (T12.setTop (mkF m 25 #[.val (.ref a)] [(.ref b12), (.ref a)])) _
    exact kt)
  obtain ⟨T14, h14, X14, e14, W14, st14⟩ := putF X12 hx hZ hown (host := "") (Or.inl (hw _ (List.mem_of_getElem? (i := 15) rfl))) Via.refl e12 Fprobabilities_e12 E_a_e12 (Or.inl (hw _ (List.mem_of_getElem? (i := 16) rfl))) (hw _ (List.mem_of_getElem? (i := 1) rfl)) (ty := (.array .double)) (by decide) rfl rfl (g := (mkF m 25 #[.val (.ref a)] [(.ref b12), (.ref a)])) rfl rfl (hb hby d1_25)
  have E_a_e14 := E_a_e12.wr W14
  have FfirstTransitions_6_e14 := FfirstTransitions_6_e12.other W14 (Or.inr (slot_ne (Or.inl (hw _ (List.mem_of_getElem? (i := 11) rfl))) (Or.inl (hw _ (List.mem_of_getElem? (i := 16) rfl))) (by decide) (t := (.array .int)) (t' := (.array .double)) (by decide) (by decide)))
  have FrowCount_e14 := FrowCount_e12.other W14 (Or.inr (slot_ne (Or.inl (hw _ (List.mem_of_getElem? (i := 28) rfl))) (Or.inl (hw _ (List.mem_of_getElem? (i := 16) rfl))) (by decide) (t := .int) (t' := (.array .double)) (by decide) (by decide)))
  have Fsuccessors_10_e14 := Fsuccessors_10_e12.other W14 (Or.inr (slot_ne (Or.inl (hw _ (List.mem_of_getElem? (i := 13) rfl))) (Or.inl (hw _ (List.mem_of_getElem? (i := 16) rfl))) (by decide) (t := (.array .int)) (t' := (.array .double)) (by decide) (by decide)))
  have FexactProbabilities_e14 := FexactProbabilities_e12.other W14 (Or.inr (slot_ne (Or.inl (hw _ (List.mem_of_getElem? (i := 77) rfl))) (Or.inl (hw _ (List.mem_of_getElem? (i := 16) rfl))) (by decide) (t := (.array (.object "com/example/probver/probver/util/Rational"))) (t' := (.array .double)) (by decide) (by decide)))
  have FtransitionCount_e14 := FtransitionCount_e12.other W14 (Or.inr (slot_ne (Or.inl (hw _ (List.mem_of_getElem? (i := 26) rfl))) (Or.inl (hw _ (List.mem_of_getElem? (i := 16) rfl))) (by decide) (t := .int) (t' := (.array .double)) (by decide) (by decide)))
  have FsortKeys_e14 := FsortKeys_e12.other W14 (Or.inr (slot_ne (Or.inl (hw _ (List.mem_of_getElem? (i := 19) rfl))) (Or.inl (hw _ (List.mem_of_getElem? (i := 16) rfl))) (by decide) (t := (.array .long)) (t' := (.array .double)) (by decide) (by decide)))
  have AF4_e14 := AF4_e12.other W14 (Ne.symm ne_a_b4)
  have AF8_e14 := AF8_e12.other W14 (Ne.symm ne_a_b8)
  have AF12_e14 := AF12.other W14 (Ne.symm ne_a_b12)
  have N14 := Fr.snoc X14 N10 g_a
  have O14 := O12.wr W14 g_a
  have K14 : Keep h0 h14 [a] := K12.wr W14 (Or.inl (List.mem_of_getElem? (i := 0) rfl))
  have Fprobabilities_14 := Fprobabilities_e12.same W14
  have cn15 := fun (t : State) (kt : Steps p.tables e below (T14.setTop (mkF m 31 #[.val (.ref a)] [(.int (16 : Int32)), (.ref a)])) t) => cn13 t (by
    refine st14 _ ?_
    show Steps p.tables e below (T14.setTop (mkF m 28 #[.val (.ref a)] [])) _
    refine XS.aloadN X14.here hx rfl (hb hby d1_28) rfl rfl ?_
    show Steps p.tables e below (T14.setTop (mkF m 29 #[.val (.ref a)] [(.ref a)])) _
    refine XS.bipush X14.here hx rfl (hb hby d1_29) ?_
    show Steps p.tables e below (T14.setTop (mkF m 31 #[.val (.ref a)] [(.int (16 : Int32)), (.ref a)])) _
    exact kt)
  obtain ⟨T16, h16, k16, X16, e16, E16, A16, st16⟩ := newP X14 hx hZ (hw _ (List.mem_of_getElem? (i := 17) rfl)) e14 (g := (mkF m 31 #[.val (.ref a)] [(.int (16 : Int32)), (.ref a)])) rfl (hb hby d1_31) rfl (by decide) (cap := 16) (by decide) (by decide) (by decide) (by decide)
  obtain ⟨b16, g16⟩ : ∃ z, z = h14.size := ⟨_, rfl⟩
  rw [← g16] at A16 st16
  have ne_a_b16 : a ≠ b16 := Nat.ne_of_lt (Nat.lt_of_lt_of_le E_a_e14.lt (Nat.le_of_eq g16.symm))
  have ne_b4_b16 : b4 ≠ b16 := Nat.ne_of_lt (Nat.lt_of_lt_of_le AF4_e14.lt (Nat.le_of_eq g16.symm))
  have ne_b8_b16 : b8 ≠ b16 := Nat.ne_of_lt (Nat.lt_of_lt_of_le AF8_e14.lt (Nat.le_of_eq g16.symm))
  have ne_b12_b16 : b12 ≠ b16 := Nat.ne_of_lt (Nat.lt_of_lt_of_le AF12_e14.lt (Nat.le_of_eq g16.symm))
  have sz_b16 : h0.size ≤ b16 := Nat.le_trans K14.1 (Nat.le_of_eq g16.symm)
  have g_b16 : n0 ≤ b16 := Nat.le_trans (O0.1 ▸ O0.2.1) sz_b16
  have E_a_e16 := E_a_e14.ext E16
  have FfirstTransitions_6_e16 := FfirstTransitions_6_e14.ext E16
  have FrowCount_e16 := FrowCount_e14.ext E16
  have Fsuccessors_10_e16 := Fsuccessors_10_e14.ext E16
  have Fprobabilities_14_e16 := Fprobabilities_14.ext E16
  have FexactProbabilities_e16 := FexactProbabilities_e14.ext E16
  have FtransitionCount_e16 := FtransitionCount_e14.ext E16
  have FsortKeys_e16 := FsortKeys_e14.ext E16
  have AF4_e16 := AF4_e14.ext E16
  have AF8_e16 := AF8_e14.ext E16
  have AF12_e16 := AF12_e14.ext E16
  have O16 := O14.ext E16
  have K16 : Keep h0 h16 [a] := K14.ext E16
  have AF16 : AF Z h16 b16 k16 .long 16 (fun _ => defaultValue .long) := AF.new A16 (by decide)
  have cn17 := fun (t : State) (kt : Steps p.tables e below (T16.setTop (mkF m 33 #[.val (.ref a)] [(.ref b16), (.ref a)])) t) => cn15 t (by
    refine st16 _ ?_
    show Steps p.tables e below (T16.setTop (mkF m 33 #[.val (.ref a)] [(.ref b16), (.ref a)])) _
    exact kt)
  obtain ⟨T18, h18, X18, e18, W18, st18⟩ := putF X16 hx hZ hown (host := "") (Or.inl (hw _ (List.mem_of_getElem? (i := 18) rfl))) Via.refl e16 FsortKeys_e16 E_a_e16 (Or.inl (hw _ (List.mem_of_getElem? (i := 19) rfl))) (hw _ (List.mem_of_getElem? (i := 1) rfl)) (ty := (.array .long)) (by decide) rfl rfl (g := (mkF m 33 #[.val (.ref a)] [(.ref b16), (.ref a)])) rfl rfl (hb hby d1_33)
  have E_a_e18 := E_a_e16.wr W18
  have FfirstTransitions_6_e18 := FfirstTransitions_6_e16.other W18 (Or.inr (slot_ne (Or.inl (hw _ (List.mem_of_getElem? (i := 11) rfl))) (Or.inl (hw _ (List.mem_of_getElem? (i := 19) rfl))) (by decide) (t := (.array .int)) (t' := (.array .long)) (by decide) (by decide)))
  have FrowCount_e18 := FrowCount_e16.other W18 (Or.inr (slot_ne (Or.inl (hw _ (List.mem_of_getElem? (i := 28) rfl))) (Or.inl (hw _ (List.mem_of_getElem? (i := 19) rfl))) (by decide) (t := .int) (t' := (.array .long)) (by decide) (by decide)))
  have Fsuccessors_10_e18 := Fsuccessors_10_e16.other W18 (Or.inr (slot_ne (Or.inl (hw _ (List.mem_of_getElem? (i := 13) rfl))) (Or.inl (hw _ (List.mem_of_getElem? (i := 19) rfl))) (by decide) (t := (.array .int)) (t' := (.array .long)) (by decide) (by decide)))
  have Fprobabilities_14_e18 := Fprobabilities_14_e16.other W18 (Or.inr (slot_ne (Or.inl (hw _ (List.mem_of_getElem? (i := 16) rfl))) (Or.inl (hw _ (List.mem_of_getElem? (i := 19) rfl))) (by decide) (t := (.array .double)) (t' := (.array .long)) (by decide) (by decide)))
  have FexactProbabilities_e18 := FexactProbabilities_e16.other W18 (Or.inr (slot_ne (Or.inl (hw _ (List.mem_of_getElem? (i := 77) rfl))) (Or.inl (hw _ (List.mem_of_getElem? (i := 19) rfl))) (by decide) (t := (.array (.object "com/example/probver/probver/util/Rational"))) (t' := (.array .long)) (by decide) (by decide)))
  have FtransitionCount_e18 := FtransitionCount_e16.other W18 (Or.inr (slot_ne (Or.inl (hw _ (List.mem_of_getElem? (i := 26) rfl))) (Or.inl (hw _ (List.mem_of_getElem? (i := 19) rfl))) (by decide) (t := .int) (t' := (.array .long)) (by decide) (by decide)))
  have AF4_e18 := AF4_e16.other W18 (Ne.symm ne_a_b4)
  have AF8_e18 := AF8_e16.other W18 (Ne.symm ne_a_b8)
  have AF12_e18 := AF12_e16.other W18 (Ne.symm ne_a_b12)
  have AF16_e18 := AF16.other W18 (Ne.symm ne_a_b16)
  have N18 := Fr.snoc X18 N14 g_a
  have O18 := O16.wr W18 g_a
  have K18 : Keep h0 h18 [a] := K16.wr W18 (Or.inl (List.mem_of_getElem? (i := 0) rfl))
  have FsortKeys_18 := FsortKeys_e16.same W18
  have cn19 := fun (t : State) (kt : Steps p.tables e below (T18.setTop (mkF m 36 #[.val (.ref a)] [])) t) => cn17 t (by
    refine st18 _ ?_
    show Steps p.tables e below (T18.setTop (mkF m 36 #[.val (.ref a)] [])) _
    exact kt)
  obtain ⟨frs, hr, hrun, hended, hW, hsame⟩ := X18.leave (v := none) (fun _ => rfl)
  refine ⟨_, _, cn19 _ ?_, hrun, hended, _, _, rfl, ?_, ⟨_, rfl⟩, hW, hsame.mono (by decide) (by decide)⟩
  · exact X18.returnOut hx Bd.returns (hb hby d1_36) hr
  · show QC Z a h0 n0 _ T18.heap _
    rw [e18]
    exact ⟨b4, b8, b12, b16, _, _, _, _, _, _, _, _, rfl, N18, K18, sz_b4, sz_b8, sz_b12, sz_b16, ⟨⟨g_a, g_b4, g_b8, g_b12, g_b16⟩, ne_a_b4, ne_a_b8, ne_a_b12, ne_a_b16, ne_b4_b8, ne_b4_b12, ne_b4_b16, ne_b8_b12, ne_b8_b16, ne_b12_b16⟩, ⟨E_a_e18, FfirstTransitions_6_e18, FrowCount_e18, Fsuccessors_10_e18, Fprobabilities_14_e18, FexactProbabilities_e18, FtransitionCount_e18, FsortKeys_18, AF4_e18, AF8_e18, AF12_e18, AF16_e18⟩, Nat.le_refl 0, Nat.le_refl 0, rfl, fun j _ => ⟨0, rfl⟩, fun j _ => ⟨0, by rw [l2d_zero]; rfl, by decide, by decide⟩, Or.inr ⟨rfl, rfl⟩⟩

theorem pd_10 : parseMethodDescriptor "()Z" = some ⟨[], some .boolean⟩ := by decide +kernel
theorem pd_11 : parseMethodDescriptor "(Lcom/example/probver/probver/model/TransitionRows;IIIII)Z" = some ⟨[(.object "com/example/probver/probver/model/TransitionRows"), .int, .int, .int, .int, .int], some .boolean⟩ := by decide +kernel
theorem ef_0 (m : MethodId) (x0 : Int32) (x1 : Int32) (x2 : Int32) (x3 : Int32) : entryFrame m #[(.int x0), (.int x1), (.int x2), (.int x3)] maxLocals = mkF m 0 #[.val (.int x0), .val (.int x1), .val (.int x2), .val (.int x3), .unset, .unset, .unset] [] := by first | (simp [entryFrame, mkF, argsToLocals, Value.category, maxLocals]; done) | rfl
def Q0 (n0 : Nat) (v : Option Value) (h : Heap) (L : List Loc) : Prop := v = some (.int 1) ∧ Fr n0 L
set_option maxRecDepth 65536 in
set_option maxHeartbeats 40000000 in
theorem rm0 (l : Launch) (Z : State) (a0 : Array Value) (hw : ∀ d ∈ tables_1, d.before a0 Z = true) (ws : List Jvm.Cond) (p1 p2 p3 p4 : Int32) (h0 : Heap) (n0 : Nat) (O0 : Old Z n0 h0)  :
    MetFree l x (head1 (Jvm.Cond.code x code maxLocals ret :: ws) room_1) (fun aQ U => aQ = #[(.int p1), (.int p2), (.int p3), (.int p4)] ∧ Z.Warmed39 U.vm ∧ U.heap = h0) (fun _ _ _ _ _ => True) (fun _ U o U' => ∃ v L, o = .returned v ∧ Q0 n0 v U'.heap L ∧ FrameEnd U o U' L 9 87) := by
  refine MetFree.of_bodySF (plainFor_of_name pn_com_example_probver_probver_model_TransitionRowsRowOpenPinLaw) hisR ?_
  intro p e s m args below meth kode s₁ Bd hml0 hP hK
  obtain ⟨rfl, hZ, hh⟩ := hP
  have hx := Bd.exec
  have hby := Bd.bytes
  have hml : kode.maxLocals = 7 := hml0
  have hown : s.vm.findClass "com/example/probver/probver/model/TransitionRowsRowOpenPinLaw" = some m.cls := findClass_of_methodNamed Bd.named
  have hnm := (name_of_methodNamed Bd.named Bd.method).1
  have X0 : Stand p l e room_1 s m #[(.int p1), (.int p2), (.int p3), (.int p4)] below meth kode s₁ [] 0 0 := Stand.of_body Bd
  have e0 : s₁.heap = h0 := by rw [← hh, Bd.state]; rfl
  have N0 := Fr.nil n0
  have pre0 : ∀ t, Steps p.tables e below (s₁.setTop (mkF m 0 #[.val (.int p1), .val (.int p2), .val (.int p3), .val (.int p4), .unset, .unset, .unset] [])) t → Steps p.tables e below (s₁.setTop (entryFrame m #[(.int p1), (.int p2), (.int p3), (.int p4)] maxLocals)) t := fun t k => castTop (ef_0 m p1 p2 p3 p4) k
  obtain ⟨T1, h1, X1, e1, E1, A1, D1, U1, st1⟩ := newO X0 hx hZ hown (hw _ (List.mem_of_getElem? (i := 0) rfl)) (hw _ (List.mem_of_getElem? (i := 1) rfl)) (hw _ (List.mem_of_getElem? (i := 2) rfl)) e0 (g := (mkF m 0 #[.val (.int p1), .val (.int p2), .val (.int p3), .val (.int p4), .unset, .unset, .unset] [])) rfl (hb hby at_0) (by decide) (by decide)
  obtain ⟨b1, g1⟩ : ∃ z, z = h0.size := ⟨_, rfl⟩
  rw [← g1] at A1 D1 U1 st1
  have sz_b1 : h0.size ≤ b1 := Nat.le_trans (Keep.refl h0 []).1 (Nat.le_of_eq g1.symm)
  have g_b1 : n0 ≤ b1 := Nat.le_trans (O0.1 ▸ O0.2.1) sz_b1
  have O1 := O0.ext E1
  have K1 : Keep h0 h1 [] := (Keep.refl h0 []).ext E1
  have FfirstTransitions_1 : Fld Z h1 b1 "com/example/probver/probver/model/TransitionRows" "firstTransitions" "[I" .null := D1 (Or.inl (hw _ (List.mem_of_getElem? (i := 11) rfl))) (ty := (.array .int)) (by decide)
  have Fsuccessors_1 : Fld Z h1 b1 "com/example/probver/probver/model/TransitionRows" "successors" "[I" .null := D1 (Or.inl (hw _ (List.mem_of_getElem? (i := 13) rfl))) (ty := (.array .int)) (by decide)
  have Fprobabilities_1 : Fld Z h1 b1 "com/example/probver/probver/model/TransitionRows" "probabilities" "[D" .null := D1 (Or.inl (hw _ (List.mem_of_getElem? (i := 16) rfl))) (ty := (.array .double)) (by decide)
  have FsortKeys_1 : Fld Z h1 b1 "com/example/probver/probver/model/TransitionRows" "sortKeys" "[J" .null := D1 (Or.inl (hw _ (List.mem_of_getElem? (i := 19) rfl))) (ty := (.array .long)) (by decide)
  have FtransitionCount_1 : Fld Z h1 b1 "com/example/probver/probver/model/TransitionRows" "transitionCount" "I" (.int (0 : Int32)) := D1 (Or.inl (hw _ (List.mem_of_getElem? (i := 26) rfl))) (ty := .int) (by decide)
  have FrowCount_1 : Fld Z h1 b1 "com/example/probver/probver/model/TransitionRows" "rowCount" "I" (.int (0 : Int32)) := D1 (Or.inl (hw _ (List.mem_of_getElem? (i := 28) rfl))) (ty := .int) (by decide)
  have FexactProbabilities_1 : Fld Z h1 b1 "com/example/probver/probver/model/TransitionRows" "exactProbabilities" "[Lcom/example/probver/probver/util/Rational;" .null := D1 (Or.inl (hw _ (List.mem_of_getElem? (i := 77) rfl))) (ty := (.array (.object "com/example/probver/probver/util/Rational"))) (by decide)
  have cn2 := fun (t : State) (kt : Steps p.tables e below (T1.setTop (mkF m 4 #[.val (.int p1), .val (.int p2), .val (.int p3), .val (.int p4), .unset, .unset, .unset] [(.ref b1), (.ref b1)])) t) => pre0 t (by
    refine st1 _ ?_
    show Steps p.tables e below (T1.setTop (mkF m 3 #[.val (.int p1), .val (.int p2), .val (.int p3), .val (.int p4), .unset, .unset, .unset] [(.ref b1)])) _
    refine XS.dup X1.here hx rfl (hb hby at_3) rfl rfl ?_
    show Steps p.tables e below (T1.setTop (mkF m 4 #[.val (.int p1), .val (.int p2), .val (.int p3), .val (.int p4), .unset, .unset, .unset] [(.ref b1), (.ref b1)])) _
    exact kt)
  obtain ⟨_, _, ⟨T3, L3, k3, n3⟩, -, X3, ⟨Lc3, hQ3, l3, y3, z3⟩, st3⟩ := X1.specialBack hx (y := (⟨"com/example/probver/probver/model/TransitionRows", "<init>", "()V"⟩ : MethodName)) rfl hown (mvT hZ (hw _ (List.mem_of_getElem? (i := 3) rfl))) (mvT hZ (hw _ (List.mem_of_getElem? (i := 4) rfl))) (mvT hZ (hw _ (List.mem_of_getElem? (i := 5) rfl))) (by decide) (backOf (W := 1) (rm1 l Z a0 hw [] b1 h1 n0 O1 g_b1 A1 FfirstTransitions_1 FrowCount_1 Fsuccessors_1 Fprobabilities_1 FexactProbabilities_1 FtransitionCount_1 FsortKeys_1) hZ (hw _ (List.mem_of_getElem? (i := 5) rfl)) (hw _ (List.mem_of_getElem? (i := 2) rfl)) (by decide) (by decide)) (g := (mkF m 4 #[.val (.int p1), .val (.int p2), .val (.int p3), .val (.int p4), .unset, .unset, .unset] [(.ref b1), (.ref b1)])) rfl (by rw [hml]; rfl) (Steps.refl _) (a := b1) (argsL := []) (rest := [(.ref b1)]) (lenOf pd_9 rfl) rfl (by show 2 * 0 + _ ≤ _; exact Nat.le_of_eq rfl) (hb hby at_4) (fun _ _ => ⟨rfl, e1, (by decide : 1 + 4 ≤ _), (by decide : 7 + 64 ≤ _)⟩)
  dsimp only [Pt.U, Pt.locs, Pt.cells, Pt.slots] at X3 l3 y3 z3 st3 hQ3
  subst l3 y3 z3
  obtain ⟨AA1, AA2, AA3, AA4, kA1, kA2, kA3, kA4, f1, f2, f3, f4, rfl, Nq3, Kq3, szq13, szq23, szq33, szq43, TNh, I3⟩ := hQ3
  have N3 := Fr.app N0 Nq3
  have sz_AA1 : h0.size ≤ AA1 := Nat.le_trans K1.1 szq13
  have sz_AA2 : h0.size ≤ AA2 := Nat.le_trans K1.1 szq23
  have sz_AA3 : h0.size ≤ AA3 := Nat.le_trans K1.1 szq33
  have sz_AA4 : h0.size ≤ AA4 := Nat.le_trans K1.1 szq43
  have K3 := Kq3
  have A1_e3 := A1.keep K3
  have O3 := O1.keep K3 (allS g_b1 all0)
  have KK3 : Keep h0 T3.heap [] := K1.trans K3 (allS (Or.inr sz_b1) all0)
  have TNx := TNh
  obtain ⟨⟨g_b1, g_AA1, g_AA2, g_AA3, g_AA4⟩, ne_b1_AA1, ne_b1_AA2, ne_b1_AA3, ne_b1_AA4, ne_AA1_AA2, ne_AA1_AA3, ne_AA1_AA4, ne_AA2_AA3, ne_AA2_AA4, ne_AA3_AA4⟩ := TNx
  have cn4 := fun (t : State) (kt : Steps p.tables e below (T3.setTop (mkF m 11 #[.val (.int p1), .val (.int p2), .val (.int p3), .val (.int p4), .val (.ref b1), .unset, .unset] [(.ref b1)])) t) => cn2 t (by
    refine st3.trans ?_
    show Steps p.tables e below (T3.setTop (mkF m 7 #[.val (.int p1), .val (.int p2), .val (.int p3), .val (.int p4), .unset, .unset, .unset] [(.ref b1)])) _
    refine XS.astore X3.here hx rfl (hb hby at_7) rfl rfl (l' := #[.val (.int p1), .val (.int p2), .val (.int p3), .val (.int p4), .val (.ref b1), .unset, .unset]) rfl ?_
    show Steps p.tables e below (T3.setTop (mkF m 9 #[.val (.int p1), .val (.int p2), .val (.int p3), .val (.int p4), .val (.ref b1), .unset, .unset] [])) _
    refine XS.aload X3.here hx rfl (hb hby at_9) rfl rfl ?_
    show Steps p.tables e below (T3.setTop (mkF m 11 #[.val (.int p1), .val (.int p2), .val (.int p3), .val (.int p4), .val (.ref b1), .unset, .unset] [(.ref b1)])) _
    exact kt)
  have ro5 := rm3 l Z a0 hw [] b1 AA1 AA2 AA3 AA4 kA1 kA2 kA3 kA4 f1 f2 f3 f4 0 (0 + 0) 0 T3.heap n0 O3 I3.1 (by have := I3.2.1; omega) I3.2.2.2.1
  rw [own_ro1 (by have := I3.2.2.1; omega) I3.2.2.2.2.2.2] at ro5
  obtain ⟨cq6, kq6, q6a, q6b, q6c⟩ := isOf hZ rfl I3.1.1
  obtain ⟨_, _, ⟨T6, L6, k6, n6⟩, -, X6, ⟨Lc6, hQ6, l6, y6, z6⟩, st6⟩ := X3.virtualBack hx (y := (⟨"com/example/probver/probver/model/TransitionRows", "rowOpen", "()Z"⟩ : MethodName)) (z := (⟨"com/example/probver/probver/model/TransitionRows", "rowOpen", "()Z"⟩ : MethodName)) hown (mvT hZ (hw _ (List.mem_of_getElem? (i := 20) rfl))) (mvT hZ (hw _ (List.mem_of_getElem? (i := 21) rfl))) (notFace_of_selects (args := #[]) (mvT hZ (hw _ (List.mem_of_getElem? (i := 23) rfl)))) (mvT hZ (hw _ (List.mem_of_getElem? (i := 23) rfl))) (mvT hZ (hw _ (List.mem_of_getElem? (i := 22) rfl))) (by decide) (backOf (W := 0) (ro5) hZ (hw _ (List.mem_of_getElem? (i := 24) rfl)) (hw _ (List.mem_of_getElem? (i := 2) rfl)) (by decide) (by decide)) q6a q6c (g := (mkF m 11 #[.val (.int p1), .val (.int p2), .val (.int p3), .val (.int p4), .val (.ref b1), .unset, .unset] [(.ref b1)])) rfl (by rw [hml]; rfl) (Steps.refl _) (argsL := []) (rest := []) (lenOf pd_10 rfl) rfl (by show 2 * 0 + _ ≤ _; exact Nat.le_of_eq rfl) (hb hby at_11) (fun _ _ => ⟨rfl, rfl, (by decide : 5 + 0 ≤ _), (by decide : 71 + 0 ≤ _)⟩)
  dsimp only [Pt.U, Pt.locs, Pt.cells, Pt.slots] at X6 l6 y6 z6 st6 hQ6
  subst l6 y6 z6
  obtain ⟨rfl, Nq6, eh6⟩ := hQ6
  have N6 := Fr.app N3 Nq6
  have cn7 := fun (t : State) (kt : Steps p.tables e below (T6.setTop (mkF m 14 #[.val (.int p1), .val (.int p2), .val (.int p3), .val (.int p4), .val (.ref b1), .unset, .unset] [(.int (0 : Int32))])) t) => cn4 t (by
    refine st6.trans ?_
    show Steps p.tables e below (T6.setTop (mkF m 14 #[.val (.int p1), .val (.int p2), .val (.int p3), .val (.int p4), .val (.ref b1), .unset, .unset] [(.int (0 : Int32))])) _
    exact kt)
  have cn8 := fun (t : State) (kt : Steps p.tables e below (T6.setTop (mkF m 31 #[.val (.int p1), .val (.int p2), .val (.int p3), .val (.int p4), .val (.ref b1), .val (.int (1 : Int32)), .unset] [(.int p4), (.int p3), (.int p2), (.int (0 : Int32)), (.int p1), (.ref b1)])) t) => cn7 t (by
    refine XS.ifNo X6.here hx rfl (hb hby at_14) rfl ((if0 _ _).trans (teq (by decide : (0 : Int32) = (0 : Int32))).2) ?_
    show Steps p.tables e below (T6.setTop (mkF m 17 #[.val (.int p1), .val (.int p2), .val (.int p3), .val (.int p4), .val (.ref b1), .unset, .unset] [])) _
    refine XS.iconst X6.here hx rfl (hb hby at_17) ?_
    show Steps p.tables e below (T6.setTop (mkF m 18 #[.val (.int p1), .val (.int p2), .val (.int p3), .val (.int p4), .val (.ref b1), .unset, .unset] [(.int (1 : Int32))])) _
    refine XS.goto X6.here hx rfl (pc0 := 18) (pc' := 22) rfl (hb hby at_18) (by decide) (by decide) ?_
    show Steps p.tables e below (T6.setTop (mkF m 22 #[.val (.int p1), .val (.int p2), .val (.int p3), .val (.int p4), .val (.ref b1), .unset, .unset] [(.int (1 : Int32))])) _
    refine XS.istore X6.here hx rfl (hb hby at_22) rfl (l' := #[.val (.int p1), .val (.int p2), .val (.int p3), .val (.int p4), .val (.ref b1), .val (.int (1 : Int32)), .unset]) rfl ?_
    show Steps p.tables e below (T6.setTop (mkF m 24 #[.val (.int p1), .val (.int p2), .val (.int p3), .val (.int p4), .val (.ref b1), .val (.int (1 : Int32)), .unset] [])) _
    refine XS.aload X6.here hx rfl (hb hby at_24) rfl rfl ?_
    show Steps p.tables e below (T6.setTop (mkF m 26 #[.val (.int p1), .val (.int p2), .val (.int p3), .val (.int p4), .val (.ref b1), .val (.int (1 : Int32)), .unset] [(.ref b1)])) _
    refine XS.iloadN X6.here hx rfl (hb hby at_26) rfl ?_
    show Steps p.tables e below (T6.setTop (mkF m 27 #[.val (.int p1), .val (.int p2), .val (.int p3), .val (.int p4), .val (.ref b1), .val (.int (1 : Int32)), .unset] [(.int p1), (.ref b1)])) _
    refine XS.iconst X6.here hx rfl (hb hby at_27) ?_
    show Steps p.tables e below (T6.setTop (mkF m 28 #[.val (.int p1), .val (.int p2), .val (.int p3), .val (.int p4), .val (.ref b1), .val (.int (1 : Int32)), .unset] [(.int (0 : Int32)), (.int p1), (.ref b1)])) _
    refine XS.iloadN X6.here hx rfl (hb hby at_28) rfl ?_
    show Steps p.tables e below (T6.setTop (mkF m 29 #[.val (.int p1), .val (.int p2), .val (.int p3), .val (.int p4), .val (.ref b1), .val (.int (1 : Int32)), .unset] [(.int p2), (.int (0 : Int32)), (.int p1), (.ref b1)])) _
    refine XS.iloadN X6.here hx rfl (hb hby at_29) rfl ?_
    show Steps p.tables e below (T6.setTop (mkF m 30 #[.val (.int p1), .val (.int p2), .val (.int p3), .val (.int p4), .val (.ref b1), .val (.int (1 : Int32)), .unset] [(.int p3), (.int p2), (.int (0 : Int32)), (.int p1), (.ref b1)])) _
    refine XS.iloadN X6.here hx rfl (hb hby at_30) rfl ?_
    show Steps p.tables e below (T6.setTop (mkF m 31 #[.val (.int p1), .val (.int p2), .val (.int p3), .val (.int p4), .val (.ref b1), .val (.int (1 : Int32)), .unset] [(.int p4), (.int p3), (.int p2), (.int (0 : Int32)), (.int p1), (.ref b1)])) _
    exact kt)
  obtain ⟨_, _, ⟨T9, L9, k9, n9⟩, -, X9, ⟨Lc9, hQ9, l9, y9, z9⟩, st9⟩ := Jvm.LawKit.callS X6 hx (y := (⟨"com/example/probver/probver/model/TransitionRowsRowOpenPinLaw", "step", "(Lcom/example/probver/probver/model/TransitionRows;IIIII)Z"⟩ : MethodName)) hown (mvT hZ (hw _ (List.mem_of_getElem? (i := 29) rfl))) (mvT hZ (hw _ (List.mem_of_getElem? (i := 30) rfl))) (mvT hZ (hw _ (List.mem_of_getElem? (i := 31) rfl))) (mvT hZ (hw _ (List.mem_of_getElem? (i := 32) rfl))) (by decide) (backOf (W := 0) (rmT0 l Z a0 hw [] b1 AA1 AA2 AA3 AA4 kA1 kA2 kA3 kA4 f1 f2 f3 f4 0 0 0 p1 p2 p3 p4 (0 : Int32) T3.heap n0 O3 TNh I3) hZ (hw _ (List.mem_of_getElem? (i := 32) rfl)) (hw _ (List.mem_of_getElem? (i := 31) rfl)) (by decide) (by decide)) (g := (mkF m 31 #[.val (.int p1), .val (.int p2), .val (.int p3), .val (.int p4), .val (.ref b1), .val (.int (1 : Int32)), .unset] [(.int p4), (.int p3), (.int p2), (.int (0 : Int32)), (.int p1), (.ref b1)])) rfl (by rw [hml]; rfl) (argsL := [(.ref b1), (.int p1), (.int (0 : Int32)), (.int p2), (.int p3), (.int p4)]) (rest := []) (lenOf pd_11 rfl) rfl (by show 2 * 0 + _ ≤ _; exact Nat.le_of_eq rfl) (hb hby at_31) (fun _ _ => ⟨rfl, eh6, (by decide : 5 + 1 ≤ _), (by decide : 71 + 4 ≤ _)⟩)
  dsimp only [Pt.U, Pt.locs, Pt.cells, Pt.slots] at X9 l9 y9 z9 st9 hQ9
  subst l9 y9 z9
  obtain ⟨r9, f19, f29, f39, f49, rc9, ft9, c9, rfl, Nq9, Kq9, I9⟩ := hQ9
  have N9 := Fr.app N6 Nq9
  have K9 := Kq9
  have I3_1_1_e9 := I3.1.1.keep K9
  have O9 := O3.keep K9 (allS g_b1 (allS g_AA1 (allS g_AA2 (allS g_AA3 (allS g_AA4 all0)))))
  have KK9 : Keep h0 T9.heap [] := KK3.trans K9 (allS (Or.inr sz_b1) (allS (Or.inr sz_AA1) (allS (Or.inr sz_AA2) (allS (Or.inr sz_AA3) (allS (Or.inr sz_AA4) all0)))))
  have cn10 := fun (t : State) (kt : Steps p.tables e below (T9.setTop (mkF m 38 #[.val (.int p1), .val (.int p2), .val (.int p3), .val (.int p4), .val (.ref b1), .val (.int (1 : Int32)), .val (.int r9)] [(.int (1 : Int32))])) t) => cn8 t (by
    refine st9 _ ?_
    show Steps p.tables e below (T9.setTop (mkF m 34 #[.val (.int p1), .val (.int p2), .val (.int p3), .val (.int p4), .val (.ref b1), .val (.int (1 : Int32)), .unset] [(.int r9)])) _
    refine XS.istore X9.here hx rfl (hb hby at_34) rfl (l' := #[.val (.int p1), .val (.int p2), .val (.int p3), .val (.int p4), .val (.ref b1), .val (.int (1 : Int32)), .val (.int r9)]) rfl ?_
    show Steps p.tables e below (T9.setTop (mkF m 36 #[.val (.int p1), .val (.int p2), .val (.int p3), .val (.int p4), .val (.ref b1), .val (.int (1 : Int32)), .val (.int r9)] [])) _
    refine XS.iload X9.here hx rfl (hb hby at_36) rfl ?_
    show Steps p.tables e below (T9.setTop (mkF m 38 #[.val (.int p1), .val (.int p2), .val (.int p3), .val (.int p4), .val (.ref b1), .val (.int (1 : Int32)), .val (.int r9)] [(.int (1 : Int32))])) _
    exact kt)
  have cn11 := fun (t : State) (kt : Steps p.tables e below (T9.setTop (mkF m 43 #[.val (.int p1), .val (.int p2), .val (.int p3), .val (.int p4), .val (.ref b1), .val (.int (1 : Int32)), .val (.int r9)] [(.ref b1)])) t) => cn10 t (by
    refine XS.ifNo X9.here hx rfl (hb hby at_38) rfl ((if0 _ _).trans (feq (by decide : ¬ ((1 : Int32) = (0 : Int32)))).1) ?_
    show Steps p.tables e below (T9.setTop (mkF m 41 #[.val (.int p1), .val (.int p2), .val (.int p3), .val (.int p4), .val (.ref b1), .val (.int (1 : Int32)), .val (.int r9)] [])) _
    refine XS.aload X9.here hx rfl (hb hby at_41) rfl rfl ?_
    show Steps p.tables e below (T9.setTop (mkF m 43 #[.val (.int p1), .val (.int p2), .val (.int p3), .val (.int p4), .val (.ref b1), .val (.int (1 : Int32)), .val (.int r9)] [(.ref b1)])) _
    exact kt)
  have ro12 := rm3 l Z a0 hw [] b1 AA1 AA2 AA3 AA4 kA1 kA2 kA3 kA4 f19 f29 f39 f49 rc9 (ft9 + c9) ft9 T9.heap n0 O9 I9.1 (by have := I9.2.1; omega) I9.2.2.2.1
  rw [own_ro1 (by have := I9.2.2.1; omega) I9.2.2.2.2.2.2] at ro12
  obtain ⟨cq13, kq13, q13a, q13b, q13c⟩ := isOf hZ rfl I9.1.1
  obtain ⟨_, _, ⟨T13, L13, k13, n13⟩, -, X13, ⟨Lc13, hQ13, l13, y13, z13⟩, st13⟩ := X9.virtualBack hx (y := (⟨"com/example/probver/probver/model/TransitionRows", "rowOpen", "()Z"⟩ : MethodName)) (z := (⟨"com/example/probver/probver/model/TransitionRows", "rowOpen", "()Z"⟩ : MethodName)) hown (mvT hZ (hw _ (List.mem_of_getElem? (i := 20) rfl))) (mvT hZ (hw _ (List.mem_of_getElem? (i := 21) rfl))) (notFace_of_selects (args := #[]) (mvT hZ (hw _ (List.mem_of_getElem? (i := 23) rfl)))) (mvT hZ (hw _ (List.mem_of_getElem? (i := 23) rfl))) (mvT hZ (hw _ (List.mem_of_getElem? (i := 22) rfl))) (by decide) (backOf (W := 0) (ro12) hZ (hw _ (List.mem_of_getElem? (i := 24) rfl)) (hw _ (List.mem_of_getElem? (i := 2) rfl)) (by decide) (by decide)) q13a q13c (g := (mkF m 43 #[.val (.int p1), .val (.int p2), .val (.int p3), .val (.int p4), .val (.ref b1), .val (.int (1 : Int32)), .val (.int r9)] [(.ref b1)])) rfl (by rw [hml]; rfl) (Steps.refl _) (argsL := []) (rest := []) (lenOf pd_10 rfl) rfl (by show 2 * 0 + _ ≤ _; exact Nat.le_of_eq rfl) (hb hby at_43) (fun _ _ => ⟨rfl, rfl, (by decide : 6 + 0 ≤ _), (by decide : 75 + 0 ≤ _)⟩)
  dsimp only [Pt.U, Pt.locs, Pt.cells, Pt.slots] at X13 l13 y13 z13 st13 hQ13
  subst l13 y13 z13
  obtain ⟨rfl, Nq13, eh13⟩ := hQ13
  have N13 := Fr.app N9 Nq13
  have cn14 := fun (t : State) (kt : Steps p.tables e below (T13.setTop (mkF m 48 #[.val (.int p1), .val (.int p2), .val (.int p3), .val (.int p4), .val (.ref b1), .val (.int (1 : Int32)), .val (.int r9)] [(.int r9), (.int r9)])) t) => cn11 t (by
    refine st13.trans ?_
    show Steps p.tables e below (T13.setTop (mkF m 46 #[.val (.int p1), .val (.int p2), .val (.int p3), .val (.int p4), .val (.ref b1), .val (.int (1 : Int32)), .val (.int r9)] [(.int r9)])) _
    refine XS.iload X13.here hx rfl (hb hby at_46) rfl ?_
    show Steps p.tables e below (T13.setTop (mkF m 48 #[.val (.int p1), .val (.int p2), .val (.int p3), .val (.int p4), .val (.ref b1), .val (.int (1 : Int32)), .val (.int r9)] [(.int r9), (.int r9)])) _
    exact kt)
  have cn15 := fun (t : State) (kt : Steps p.tables e below (T13.setTop (mkF m 65 #[.val (.int p1), .val (.int p2), .val (.int p3), .val (.int p4), .val (.ref b1), .val (.int (1 : Int32)), .val (.int r9)] [(.int p4), (.int p3), (.int p2), (.int (1 : Int32)), (.int p1), (.ref b1)])) t) => cn14 t (by
    refine XS.icmpNo X13.here hx rfl (hb hby at_48) rfl (teq (rfl : r9 = r9)).2 ?_
    show Steps p.tables e below (T13.setTop (mkF m 51 #[.val (.int p1), .val (.int p2), .val (.int p3), .val (.int p4), .val (.ref b1), .val (.int (1 : Int32)), .val (.int r9)] [])) _
    refine XS.iconst X13.here hx rfl (hb hby at_51) ?_
    show Steps p.tables e below (T13.setTop (mkF m 52 #[.val (.int p1), .val (.int p2), .val (.int p3), .val (.int p4), .val (.ref b1), .val (.int (1 : Int32)), .val (.int r9)] [(.int (1 : Int32))])) _
    refine XS.goto X13.here hx rfl (pc0 := 52) (pc' := 56) rfl (hb hby at_52) (by decide) (by decide) ?_
    show Steps p.tables e below (T13.setTop (mkF m 56 #[.val (.int p1), .val (.int p2), .val (.int p3), .val (.int p4), .val (.ref b1), .val (.int (1 : Int32)), .val (.int r9)] [(.int (1 : Int32))])) _
    refine XS.istore X13.here hx rfl (hb hby at_56) rfl (l' := #[.val (.int p1), .val (.int p2), .val (.int p3), .val (.int p4), .val (.ref b1), .val (.int (1 : Int32)), .val (.int r9)]) rfl ?_
    show Steps p.tables e below (T13.setTop (mkF m 58 #[.val (.int p1), .val (.int p2), .val (.int p3), .val (.int p4), .val (.ref b1), .val (.int (1 : Int32)), .val (.int r9)] [])) _
    refine XS.aload X13.here hx rfl (hb hby at_58) rfl rfl ?_
    show Steps p.tables e below (T13.setTop (mkF m 60 #[.val (.int p1), .val (.int p2), .val (.int p3), .val (.int p4), .val (.ref b1), .val (.int (1 : Int32)), .val (.int r9)] [(.ref b1)])) _
    refine XS.iloadN X13.here hx rfl (hb hby at_60) rfl ?_
    show Steps p.tables e below (T13.setTop (mkF m 61 #[.val (.int p1), .val (.int p2), .val (.int p3), .val (.int p4), .val (.ref b1), .val (.int (1 : Int32)), .val (.int r9)] [(.int p1), (.ref b1)])) _
    refine XS.iconst X13.here hx rfl (hb hby at_61) ?_
    show Steps p.tables e below (T13.setTop (mkF m 62 #[.val (.int p1), .val (.int p2), .val (.int p3), .val (.int p4), .val (.ref b1), .val (.int (1 : Int32)), .val (.int r9)] [(.int (1 : Int32)), (.int p1), (.ref b1)])) _
    refine XS.iloadN X13.here hx rfl (hb hby at_62) rfl ?_
    show Steps p.tables e below (T13.setTop (mkF m 63 #[.val (.int p1), .val (.int p2), .val (.int p3), .val (.int p4), .val (.ref b1), .val (.int (1 : Int32)), .val (.int r9)] [(.int p2), (.int (1 : Int32)), (.int p1), (.ref b1)])) _
    refine XS.iloadN X13.here hx rfl (hb hby at_63) rfl ?_
    show Steps p.tables e below (T13.setTop (mkF m 64 #[.val (.int p1), .val (.int p2), .val (.int p3), .val (.int p4), .val (.ref b1), .val (.int (1 : Int32)), .val (.int r9)] [(.int p3), (.int p2), (.int (1 : Int32)), (.int p1), (.ref b1)])) _
    refine XS.iloadN X13.here hx rfl (hb hby at_64) rfl ?_
    show Steps p.tables e below (T13.setTop (mkF m 65 #[.val (.int p1), .val (.int p2), .val (.int p3), .val (.int p4), .val (.ref b1), .val (.int (1 : Int32)), .val (.int r9)] [(.int p4), (.int p3), (.int p2), (.int (1 : Int32)), (.int p1), (.ref b1)])) _
    exact kt)
  obtain ⟨_, _, ⟨T16, L16, k16, n16⟩, -, X16, ⟨Lc16, hQ16, l16, y16, z16⟩, st16⟩ := Jvm.LawKit.callS X13 hx (y := (⟨"com/example/probver/probver/model/TransitionRowsRowOpenPinLaw", "step", "(Lcom/example/probver/probver/model/TransitionRows;IIIII)Z"⟩ : MethodName)) hown (mvT hZ (hw _ (List.mem_of_getElem? (i := 29) rfl))) (mvT hZ (hw _ (List.mem_of_getElem? (i := 30) rfl))) (mvT hZ (hw _ (List.mem_of_getElem? (i := 31) rfl))) (mvT hZ (hw _ (List.mem_of_getElem? (i := 32) rfl))) (by decide) (backOf (W := 0) (rmT1 l Z a0 hw [] b1 AA1 AA2 AA3 AA4 kA1 kA2 kA3 kA4 f19 f29 f39 f49 rc9 ft9 c9 p1 p2 p3 p4 r9 T9.heap n0 O9 TNh I9) hZ (hw _ (List.mem_of_getElem? (i := 32) rfl)) (hw _ (List.mem_of_getElem? (i := 31) rfl)) (by decide) (by decide)) (g := (mkF m 65 #[.val (.int p1), .val (.int p2), .val (.int p3), .val (.int p4), .val (.ref b1), .val (.int (1 : Int32)), .val (.int r9)] [(.int p4), (.int p3), (.int p2), (.int (1 : Int32)), (.int p1), (.ref b1)])) rfl (by rw [hml]; rfl) (argsL := [(.ref b1), (.int p1), (.int (1 : Int32)), (.int p2), (.int p3), (.int p4)]) (rest := []) (lenOf pd_11 rfl) rfl (by show 2 * 0 + _ ≤ _; exact Nat.le_of_eq rfl) (hb hby at_65) (fun _ _ => ⟨rfl, eh13, (by decide : 6 + 1 ≤ _), (by decide : 75 + 4 ≤ _)⟩)
  dsimp only [Pt.U, Pt.locs, Pt.cells, Pt.slots] at X16 l16 y16 z16 st16 hQ16
  subst l16 y16 z16
  obtain ⟨r16, f116, f216, f316, f416, rc16, ft16, c16, rfl, Nq16, Kq16, I16⟩ := hQ16
  have N16 := Fr.app N13 Nq16
  have K16 := Kq16
  have I9_1_1_e16 := I9.1.1.keep K16
  have O16 := O9.keep K16 (allS g_b1 (allS g_AA1 (allS g_AA2 (allS g_AA3 (allS g_AA4 all0)))))
  have KK16 : Keep h0 T16.heap [] := KK9.trans K16 (allS (Or.inr sz_b1) (allS (Or.inr sz_AA1) (allS (Or.inr sz_AA2) (allS (Or.inr sz_AA3) (allS (Or.inr sz_AA4) all0)))))
  have cn17 := fun (t : State) (kt : Steps p.tables e below (T16.setTop (mkF m 72 #[.val (.int p1), .val (.int p2), .val (.int p3), .val (.int p4), .val (.ref b1), .val (.int (1 : Int32)), .val (.int r16)] [(.int (1 : Int32))])) t) => cn15 t (by
    refine st16 _ ?_
    show Steps p.tables e below (T16.setTop (mkF m 68 #[.val (.int p1), .val (.int p2), .val (.int p3), .val (.int p4), .val (.ref b1), .val (.int (1 : Int32)), .val (.int r9)] [(.int r16)])) _
    refine XS.istore X16.here hx rfl (hb hby at_68) rfl (l' := #[.val (.int p1), .val (.int p2), .val (.int p3), .val (.int p4), .val (.ref b1), .val (.int (1 : Int32)), .val (.int r16)]) rfl ?_
    show Steps p.tables e below (T16.setTop (mkF m 70 #[.val (.int p1), .val (.int p2), .val (.int p3), .val (.int p4), .val (.ref b1), .val (.int (1 : Int32)), .val (.int r16)] [])) _
    refine XS.iload X16.here hx rfl (hb hby at_70) rfl ?_
    show Steps p.tables e below (T16.setTop (mkF m 72 #[.val (.int p1), .val (.int p2), .val (.int p3), .val (.int p4), .val (.ref b1), .val (.int (1 : Int32)), .val (.int r16)] [(.int (1 : Int32))])) _
    exact kt)
  have cn18 := fun (t : State) (kt : Steps p.tables e below (T16.setTop (mkF m 77 #[.val (.int p1), .val (.int p2), .val (.int p3), .val (.int p4), .val (.ref b1), .val (.int (1 : Int32)), .val (.int r16)] [(.ref b1)])) t) => cn17 t (by
    refine XS.ifNo X16.here hx rfl (hb hby at_72) rfl ((if0 _ _).trans (feq (by decide : ¬ ((1 : Int32) = (0 : Int32)))).1) ?_
    show Steps p.tables e below (T16.setTop (mkF m 75 #[.val (.int p1), .val (.int p2), .val (.int p3), .val (.int p4), .val (.ref b1), .val (.int (1 : Int32)), .val (.int r16)] [])) _
    refine XS.aload X16.here hx rfl (hb hby at_75) rfl rfl ?_
    show Steps p.tables e below (T16.setTop (mkF m 77 #[.val (.int p1), .val (.int p2), .val (.int p3), .val (.int p4), .val (.ref b1), .val (.int (1 : Int32)), .val (.int r16)] [(.ref b1)])) _
    exact kt)
  have ro19 := rm3 l Z a0 hw [] b1 AA1 AA2 AA3 AA4 kA1 kA2 kA3 kA4 f116 f216 f316 f416 rc16 (ft16 + c16) ft16 T16.heap n0 O16 I16.1 (by have := I16.2.1; omega) I16.2.2.2.1
  rw [own_ro1 (by have := I16.2.2.1; omega) I16.2.2.2.2.2.2] at ro19
  obtain ⟨cq20, kq20, q20a, q20b, q20c⟩ := isOf hZ rfl I16.1.1
  obtain ⟨_, _, ⟨T20, L20, k20, n20⟩, -, X20, ⟨Lc20, hQ20, l20, y20, z20⟩, st20⟩ := X16.virtualBack hx (y := (⟨"com/example/probver/probver/model/TransitionRows", "rowOpen", "()Z"⟩ : MethodName)) (z := (⟨"com/example/probver/probver/model/TransitionRows", "rowOpen", "()Z"⟩ : MethodName)) hown (mvT hZ (hw _ (List.mem_of_getElem? (i := 20) rfl))) (mvT hZ (hw _ (List.mem_of_getElem? (i := 21) rfl))) (notFace_of_selects (args := #[]) (mvT hZ (hw _ (List.mem_of_getElem? (i := 23) rfl)))) (mvT hZ (hw _ (List.mem_of_getElem? (i := 23) rfl))) (mvT hZ (hw _ (List.mem_of_getElem? (i := 22) rfl))) (by decide) (backOf (W := 0) (ro19) hZ (hw _ (List.mem_of_getElem? (i := 24) rfl)) (hw _ (List.mem_of_getElem? (i := 2) rfl)) (by decide) (by decide)) q20a q20c (g := (mkF m 77 #[.val (.int p1), .val (.int p2), .val (.int p3), .val (.int p4), .val (.ref b1), .val (.int (1 : Int32)), .val (.int r16)] [(.ref b1)])) rfl (by rw [hml]; rfl) (Steps.refl _) (argsL := []) (rest := []) (lenOf pd_10 rfl) rfl (by show 2 * 0 + _ ≤ _; exact Nat.le_of_eq rfl) (hb hby at_77) (fun _ _ => ⟨rfl, rfl, (by decide : 7 + 0 ≤ _), (by decide : 79 + 0 ≤ _)⟩)
  dsimp only [Pt.U, Pt.locs, Pt.cells, Pt.slots] at X20 l20 y20 z20 st20 hQ20
  subst l20 y20 z20
  obtain ⟨rfl, Nq20, eh20⟩ := hQ20
  have N20 := Fr.app N16 Nq20
  have cn21 := fun (t : State) (kt : Steps p.tables e below (T20.setTop (mkF m 82 #[.val (.int p1), .val (.int p2), .val (.int p3), .val (.int p4), .val (.ref b1), .val (.int (1 : Int32)), .val (.int r16)] [(.int r16), (.int r16)])) t) => cn18 t (by
    refine st20.trans ?_
    show Steps p.tables e below (T20.setTop (mkF m 80 #[.val (.int p1), .val (.int p2), .val (.int p3), .val (.int p4), .val (.ref b1), .val (.int (1 : Int32)), .val (.int r16)] [(.int r16)])) _
    refine XS.iload X20.here hx rfl (hb hby at_80) rfl ?_
    show Steps p.tables e below (T20.setTop (mkF m 82 #[.val (.int p1), .val (.int p2), .val (.int p3), .val (.int p4), .val (.ref b1), .val (.int (1 : Int32)), .val (.int r16)] [(.int r16), (.int r16)])) _
    exact kt)
  have cn22 := fun (t : State) (kt : Steps p.tables e below (T20.setTop (mkF m 99 #[.val (.int p1), .val (.int p2), .val (.int p3), .val (.int p4), .val (.ref b1), .val (.int (1 : Int32)), .val (.int r16)] [(.int p4), (.int p3), (.int p2), (.int (2 : Int32)), (.int p1), (.ref b1)])) t) => cn21 t (by
    refine XS.icmpNo X20.here hx rfl (hb hby at_82) rfl (teq (rfl : r16 = r16)).2 ?_
    show Steps p.tables e below (T20.setTop (mkF m 85 #[.val (.int p1), .val (.int p2), .val (.int p3), .val (.int p4), .val (.ref b1), .val (.int (1 : Int32)), .val (.int r16)] [])) _
    refine XS.iconst X20.here hx rfl (hb hby at_85) ?_
    show Steps p.tables e below (T20.setTop (mkF m 86 #[.val (.int p1), .val (.int p2), .val (.int p3), .val (.int p4), .val (.ref b1), .val (.int (1 : Int32)), .val (.int r16)] [(.int (1 : Int32))])) _
    refine XS.goto X20.here hx rfl (pc0 := 86) (pc' := 90) rfl (hb hby at_86) (by decide) (by decide) ?_
    show Steps p.tables e below (T20.setTop (mkF m 90 #[.val (.int p1), .val (.int p2), .val (.int p3), .val (.int p4), .val (.ref b1), .val (.int (1 : Int32)), .val (.int r16)] [(.int (1 : Int32))])) _
    refine XS.istore X20.here hx rfl (hb hby at_90) rfl (l' := #[.val (.int p1), .val (.int p2), .val (.int p3), .val (.int p4), .val (.ref b1), .val (.int (1 : Int32)), .val (.int r16)]) rfl ?_
    show Steps p.tables e below (T20.setTop (mkF m 92 #[.val (.int p1), .val (.int p2), .val (.int p3), .val (.int p4), .val (.ref b1), .val (.int (1 : Int32)), .val (.int r16)] [])) _
    refine XS.aload X20.here hx rfl (hb hby at_92) rfl rfl ?_
    show Steps p.tables e below (T20.setTop (mkF m 94 #[.val (.int p1), .val (.int p2), .val (.int p3), .val (.int p4), .val (.ref b1), .val (.int (1 : Int32)), .val (.int r16)] [(.ref b1)])) _
    refine XS.iloadN X20.here hx rfl (hb hby at_94) rfl ?_
    show Steps p.tables e below (T20.setTop (mkF m 95 #[.val (.int p1), .val (.int p2), .val (.int p3), .val (.int p4), .val (.ref b1), .val (.int (1 : Int32)), .val (.int r16)] [(.int p1), (.ref b1)])) _
    refine XS.iconst X20.here hx rfl (hb hby at_95) ?_
    show Steps p.tables e below (T20.setTop (mkF m 96 #[.val (.int p1), .val (.int p2), .val (.int p3), .val (.int p4), .val (.ref b1), .val (.int (1 : Int32)), .val (.int r16)] [(.int (2 : Int32)), (.int p1), (.ref b1)])) _
    refine XS.iloadN X20.here hx rfl (hb hby at_96) rfl ?_
    show Steps p.tables e below (T20.setTop (mkF m 97 #[.val (.int p1), .val (.int p2), .val (.int p3), .val (.int p4), .val (.ref b1), .val (.int (1 : Int32)), .val (.int r16)] [(.int p2), (.int (2 : Int32)), (.int p1), (.ref b1)])) _
    refine XS.iloadN X20.here hx rfl (hb hby at_97) rfl ?_
    show Steps p.tables e below (T20.setTop (mkF m 98 #[.val (.int p1), .val (.int p2), .val (.int p3), .val (.int p4), .val (.ref b1), .val (.int (1 : Int32)), .val (.int r16)] [(.int p3), (.int p2), (.int (2 : Int32)), (.int p1), (.ref b1)])) _
    refine XS.iloadN X20.here hx rfl (hb hby at_98) rfl ?_
    show Steps p.tables e below (T20.setTop (mkF m 99 #[.val (.int p1), .val (.int p2), .val (.int p3), .val (.int p4), .val (.ref b1), .val (.int (1 : Int32)), .val (.int r16)] [(.int p4), (.int p3), (.int p2), (.int (2 : Int32)), (.int p1), (.ref b1)])) _
    exact kt)
  obtain ⟨_, _, ⟨T23, L23, k23, n23⟩, -, X23, ⟨Lc23, hQ23, l23, y23, z23⟩, st23⟩ := Jvm.LawKit.callS X20 hx (y := (⟨"com/example/probver/probver/model/TransitionRowsRowOpenPinLaw", "step", "(Lcom/example/probver/probver/model/TransitionRows;IIIII)Z"⟩ : MethodName)) hown (mvT hZ (hw _ (List.mem_of_getElem? (i := 29) rfl))) (mvT hZ (hw _ (List.mem_of_getElem? (i := 30) rfl))) (mvT hZ (hw _ (List.mem_of_getElem? (i := 31) rfl))) (mvT hZ (hw _ (List.mem_of_getElem? (i := 32) rfl))) (by decide) (backOf (W := 0) (rmT2 l Z a0 hw [] b1 AA1 AA2 AA3 AA4 kA1 kA2 kA3 kA4 f116 f216 f316 f416 rc16 ft16 c16 p1 p2 p3 p4 r16 T16.heap n0 O16 TNh I16) hZ (hw _ (List.mem_of_getElem? (i := 32) rfl)) (hw _ (List.mem_of_getElem? (i := 31) rfl)) (by decide) (by decide)) (g := (mkF m 99 #[.val (.int p1), .val (.int p2), .val (.int p3), .val (.int p4), .val (.ref b1), .val (.int (1 : Int32)), .val (.int r16)] [(.int p4), (.int p3), (.int p2), (.int (2 : Int32)), (.int p1), (.ref b1)])) rfl (by rw [hml]; rfl) (argsL := [(.ref b1), (.int p1), (.int (2 : Int32)), (.int p2), (.int p3), (.int p4)]) (rest := []) (lenOf pd_11 rfl) rfl (by show 2 * 0 + _ ≤ _; exact Nat.le_of_eq rfl) (hb hby at_99) (fun _ _ => ⟨rfl, eh20, (by decide : 7 + 1 ≤ _), (by decide : 79 + 4 ≤ _)⟩)
  dsimp only [Pt.U, Pt.locs, Pt.cells, Pt.slots] at X23 l23 y23 z23 st23 hQ23
  subst l23 y23 z23
  obtain ⟨r23, f123, f223, f323, f423, rc23, ft23, c23, rfl, Nq23, Kq23, I23⟩ := hQ23
  have N23 := Fr.app N20 Nq23
  have K23 := Kq23
  have I16_1_1_e23 := I16.1.1.keep K23
  have O23 := O16.keep K23 (allS g_b1 (allS g_AA1 (allS g_AA2 (allS g_AA3 (allS g_AA4 all0)))))
  have KK23 : Keep h0 T23.heap [] := KK16.trans K23 (allS (Or.inr sz_b1) (allS (Or.inr sz_AA1) (allS (Or.inr sz_AA2) (allS (Or.inr sz_AA3) (allS (Or.inr sz_AA4) all0)))))
  have cn24 := fun (t : State) (kt : Steps p.tables e below (T23.setTop (mkF m 106 #[.val (.int p1), .val (.int p2), .val (.int p3), .val (.int p4), .val (.ref b1), .val (.int (1 : Int32)), .val (.int r23)] [(.int (1 : Int32))])) t) => cn22 t (by
    refine st23 _ ?_
    show Steps p.tables e below (T23.setTop (mkF m 102 #[.val (.int p1), .val (.int p2), .val (.int p3), .val (.int p4), .val (.ref b1), .val (.int (1 : Int32)), .val (.int r16)] [(.int r23)])) _
    refine XS.istore X23.here hx rfl (hb hby at_102) rfl (l' := #[.val (.int p1), .val (.int p2), .val (.int p3), .val (.int p4), .val (.ref b1), .val (.int (1 : Int32)), .val (.int r23)]) rfl ?_
    show Steps p.tables e below (T23.setTop (mkF m 104 #[.val (.int p1), .val (.int p2), .val (.int p3), .val (.int p4), .val (.ref b1), .val (.int (1 : Int32)), .val (.int r23)] [])) _
    refine XS.iload X23.here hx rfl (hb hby at_104) rfl ?_
    show Steps p.tables e below (T23.setTop (mkF m 106 #[.val (.int p1), .val (.int p2), .val (.int p3), .val (.int p4), .val (.ref b1), .val (.int (1 : Int32)), .val (.int r23)] [(.int (1 : Int32))])) _
    exact kt)
  have cn25 := fun (t : State) (kt : Steps p.tables e below (T23.setTop (mkF m 111 #[.val (.int p1), .val (.int p2), .val (.int p3), .val (.int p4), .val (.ref b1), .val (.int (1 : Int32)), .val (.int r23)] [(.ref b1)])) t) => cn24 t (by
    refine XS.ifNo X23.here hx rfl (hb hby at_106) rfl ((if0 _ _).trans (feq (by decide : ¬ ((1 : Int32) = (0 : Int32)))).1) ?_
    show Steps p.tables e below (T23.setTop (mkF m 109 #[.val (.int p1), .val (.int p2), .val (.int p3), .val (.int p4), .val (.ref b1), .val (.int (1 : Int32)), .val (.int r23)] [])) _
    refine XS.aload X23.here hx rfl (hb hby at_109) rfl rfl ?_
    show Steps p.tables e below (T23.setTop (mkF m 111 #[.val (.int p1), .val (.int p2), .val (.int p3), .val (.int p4), .val (.ref b1), .val (.int (1 : Int32)), .val (.int r23)] [(.ref b1)])) _
    exact kt)
  have ro26 := rm3 l Z a0 hw [] b1 AA1 AA2 AA3 AA4 kA1 kA2 kA3 kA4 f123 f223 f323 f423 rc23 (ft23 + c23) ft23 T23.heap n0 O23 I23.1 (by have := I23.2.1; omega) I23.2.2.2.1
  rw [own_ro1 (by have := I23.2.2.1; omega) I23.2.2.2.2.2.2] at ro26
  obtain ⟨cq27, kq27, q27a, q27b, q27c⟩ := isOf hZ rfl I23.1.1
  obtain ⟨_, _, ⟨T27, L27, k27, n27⟩, -, X27, ⟨Lc27, hQ27, l27, y27, z27⟩, st27⟩ := X23.virtualBack hx (y := (⟨"com/example/probver/probver/model/TransitionRows", "rowOpen", "()Z"⟩ : MethodName)) (z := (⟨"com/example/probver/probver/model/TransitionRows", "rowOpen", "()Z"⟩ : MethodName)) hown (mvT hZ (hw _ (List.mem_of_getElem? (i := 20) rfl))) (mvT hZ (hw _ (List.mem_of_getElem? (i := 21) rfl))) (notFace_of_selects (args := #[]) (mvT hZ (hw _ (List.mem_of_getElem? (i := 23) rfl)))) (mvT hZ (hw _ (List.mem_of_getElem? (i := 23) rfl))) (mvT hZ (hw _ (List.mem_of_getElem? (i := 22) rfl))) (by decide) (backOf (W := 0) (ro26) hZ (hw _ (List.mem_of_getElem? (i := 24) rfl)) (hw _ (List.mem_of_getElem? (i := 2) rfl)) (by decide) (by decide)) q27a q27c (g := (mkF m 111 #[.val (.int p1), .val (.int p2), .val (.int p3), .val (.int p4), .val (.ref b1), .val (.int (1 : Int32)), .val (.int r23)] [(.ref b1)])) rfl (by rw [hml]; rfl) (Steps.refl _) (argsL := []) (rest := []) (lenOf pd_10 rfl) rfl (by show 2 * 0 + _ ≤ _; exact Nat.le_of_eq rfl) (hb hby at_111) (fun _ _ => ⟨rfl, rfl, (by decide : 8 + 0 ≤ _), (by decide : 83 + 0 ≤ _)⟩)
  dsimp only [Pt.U, Pt.locs, Pt.cells, Pt.slots] at X27 l27 y27 z27 st27 hQ27
  subst l27 y27 z27
  obtain ⟨rfl, Nq27, eh27⟩ := hQ27
  have N27 := Fr.app N23 Nq27
  have cn28 := fun (t : State) (kt : Steps p.tables e below (T27.setTop (mkF m 116 #[.val (.int p1), .val (.int p2), .val (.int p3), .val (.int p4), .val (.ref b1), .val (.int (1 : Int32)), .val (.int r23)] [(.int r23), (.int r23)])) t) => cn25 t (by
    refine st27.trans ?_
    show Steps p.tables e below (T27.setTop (mkF m 114 #[.val (.int p1), .val (.int p2), .val (.int p3), .val (.int p4), .val (.ref b1), .val (.int (1 : Int32)), .val (.int r23)] [(.int r23)])) _
    refine XS.iload X27.here hx rfl (hb hby at_114) rfl ?_
    show Steps p.tables e below (T27.setTop (mkF m 116 #[.val (.int p1), .val (.int p2), .val (.int p3), .val (.int p4), .val (.ref b1), .val (.int (1 : Int32)), .val (.int r23)] [(.int r23), (.int r23)])) _
    exact kt)
  have cn29 := fun (t : State) (kt : Steps p.tables e below (T27.setTop (mkF m 133 #[.val (.int p1), .val (.int p2), .val (.int p3), .val (.int p4), .val (.ref b1), .val (.int (1 : Int32)), .val (.int r23)] [(.int p4), (.int p3), (.int p2), (.int (3 : Int32)), (.int p1), (.ref b1)])) t) => cn28 t (by
    refine XS.icmpNo X27.here hx rfl (hb hby at_116) rfl (teq (rfl : r23 = r23)).2 ?_
    show Steps p.tables e below (T27.setTop (mkF m 119 #[.val (.int p1), .val (.int p2), .val (.int p3), .val (.int p4), .val (.ref b1), .val (.int (1 : Int32)), .val (.int r23)] [])) _
    refine XS.iconst X27.here hx rfl (hb hby at_119) ?_
    show Steps p.tables e below (T27.setTop (mkF m 120 #[.val (.int p1), .val (.int p2), .val (.int p3), .val (.int p4), .val (.ref b1), .val (.int (1 : Int32)), .val (.int r23)] [(.int (1 : Int32))])) _
    refine XS.goto X27.here hx rfl (pc0 := 120) (pc' := 124) rfl (hb hby at_120) (by decide) (by decide) ?_
    show Steps p.tables e below (T27.setTop (mkF m 124 #[.val (.int p1), .val (.int p2), .val (.int p3), .val (.int p4), .val (.ref b1), .val (.int (1 : Int32)), .val (.int r23)] [(.int (1 : Int32))])) _
    refine XS.istore X27.here hx rfl (hb hby at_124) rfl (l' := #[.val (.int p1), .val (.int p2), .val (.int p3), .val (.int p4), .val (.ref b1), .val (.int (1 : Int32)), .val (.int r23)]) rfl ?_
    show Steps p.tables e below (T27.setTop (mkF m 126 #[.val (.int p1), .val (.int p2), .val (.int p3), .val (.int p4), .val (.ref b1), .val (.int (1 : Int32)), .val (.int r23)] [])) _
    refine XS.aload X27.here hx rfl (hb hby at_126) rfl rfl ?_
    show Steps p.tables e below (T27.setTop (mkF m 128 #[.val (.int p1), .val (.int p2), .val (.int p3), .val (.int p4), .val (.ref b1), .val (.int (1 : Int32)), .val (.int r23)] [(.ref b1)])) _
    refine XS.iloadN X27.here hx rfl (hb hby at_128) rfl ?_
    show Steps p.tables e below (T27.setTop (mkF m 129 #[.val (.int p1), .val (.int p2), .val (.int p3), .val (.int p4), .val (.ref b1), .val (.int (1 : Int32)), .val (.int r23)] [(.int p1), (.ref b1)])) _
    refine XS.iconst X27.here hx rfl (hb hby at_129) ?_
    show Steps p.tables e below (T27.setTop (mkF m 130 #[.val (.int p1), .val (.int p2), .val (.int p3), .val (.int p4), .val (.ref b1), .val (.int (1 : Int32)), .val (.int r23)] [(.int (3 : Int32)), (.int p1), (.ref b1)])) _
    refine XS.iloadN X27.here hx rfl (hb hby at_130) rfl ?_
    show Steps p.tables e below (T27.setTop (mkF m 131 #[.val (.int p1), .val (.int p2), .val (.int p3), .val (.int p4), .val (.ref b1), .val (.int (1 : Int32)), .val (.int r23)] [(.int p2), (.int (3 : Int32)), (.int p1), (.ref b1)])) _
    refine XS.iloadN X27.here hx rfl (hb hby at_131) rfl ?_
    show Steps p.tables e below (T27.setTop (mkF m 132 #[.val (.int p1), .val (.int p2), .val (.int p3), .val (.int p4), .val (.ref b1), .val (.int (1 : Int32)), .val (.int r23)] [(.int p3), (.int p2), (.int (3 : Int32)), (.int p1), (.ref b1)])) _
    refine XS.iloadN X27.here hx rfl (hb hby at_132) rfl ?_
    show Steps p.tables e below (T27.setTop (mkF m 133 #[.val (.int p1), .val (.int p2), .val (.int p3), .val (.int p4), .val (.ref b1), .val (.int (1 : Int32)), .val (.int r23)] [(.int p4), (.int p3), (.int p2), (.int (3 : Int32)), (.int p1), (.ref b1)])) _
    exact kt)
  obtain ⟨_, _, ⟨T30, L30, k30, n30⟩, -, X30, ⟨Lc30, hQ30, l30, y30, z30⟩, st30⟩ := Jvm.LawKit.callS X27 hx (y := (⟨"com/example/probver/probver/model/TransitionRowsRowOpenPinLaw", "step", "(Lcom/example/probver/probver/model/TransitionRows;IIIII)Z"⟩ : MethodName)) hown (mvT hZ (hw _ (List.mem_of_getElem? (i := 29) rfl))) (mvT hZ (hw _ (List.mem_of_getElem? (i := 30) rfl))) (mvT hZ (hw _ (List.mem_of_getElem? (i := 31) rfl))) (mvT hZ (hw _ (List.mem_of_getElem? (i := 32) rfl))) (by decide) (backOf (W := 0) (rmT3 l Z a0 hw [] b1 AA1 AA2 AA3 AA4 kA1 kA2 kA3 kA4 f123 f223 f323 f423 rc23 ft23 c23 p1 p2 p3 p4 r23 T23.heap n0 O23 TNh I23) hZ (hw _ (List.mem_of_getElem? (i := 32) rfl)) (hw _ (List.mem_of_getElem? (i := 31) rfl)) (by decide) (by decide)) (g := (mkF m 133 #[.val (.int p1), .val (.int p2), .val (.int p3), .val (.int p4), .val (.ref b1), .val (.int (1 : Int32)), .val (.int r23)] [(.int p4), (.int p3), (.int p2), (.int (3 : Int32)), (.int p1), (.ref b1)])) rfl (by rw [hml]; rfl) (argsL := [(.ref b1), (.int p1), (.int (3 : Int32)), (.int p2), (.int p3), (.int p4)]) (rest := []) (lenOf pd_11 rfl) rfl (by show 2 * 0 + _ ≤ _; exact Nat.le_of_eq rfl) (hb hby at_133) (fun _ _ => ⟨rfl, eh27, (by decide : 8 + 1 ≤ _), (by decide : 83 + 4 ≤ _)⟩)
  dsimp only [Pt.U, Pt.locs, Pt.cells, Pt.slots] at X30 l30 y30 z30 st30 hQ30
  subst l30 y30 z30
  obtain ⟨r30, f130, f230, f330, f430, rc30, ft30, c30, rfl, Nq30, Kq30, I30⟩ := hQ30
  have N30 := Fr.app N27 Nq30
  have K30 := Kq30
  have I23_1_1_e30 := I23.1.1.keep K30
  have O30 := O23.keep K30 (allS g_b1 (allS g_AA1 (allS g_AA2 (allS g_AA3 (allS g_AA4 all0)))))
  have KK30 : Keep h0 T30.heap [] := KK23.trans K30 (allS (Or.inr sz_b1) (allS (Or.inr sz_AA1) (allS (Or.inr sz_AA2) (allS (Or.inr sz_AA3) (allS (Or.inr sz_AA4) all0)))))
  have cn31 := fun (t : State) (kt : Steps p.tables e below (T30.setTop (mkF m 140 #[.val (.int p1), .val (.int p2), .val (.int p3), .val (.int p4), .val (.ref b1), .val (.int (1 : Int32)), .val (.int r30)] [(.int (1 : Int32))])) t) => cn29 t (by
    refine st30 _ ?_
    show Steps p.tables e below (T30.setTop (mkF m 136 #[.val (.int p1), .val (.int p2), .val (.int p3), .val (.int p4), .val (.ref b1), .val (.int (1 : Int32)), .val (.int r23)] [(.int r30)])) _
    refine XS.istore X30.here hx rfl (hb hby at_136) rfl (l' := #[.val (.int p1), .val (.int p2), .val (.int p3), .val (.int p4), .val (.ref b1), .val (.int (1 : Int32)), .val (.int r30)]) rfl ?_
    show Steps p.tables e below (T30.setTop (mkF m 138 #[.val (.int p1), .val (.int p2), .val (.int p3), .val (.int p4), .val (.ref b1), .val (.int (1 : Int32)), .val (.int r30)] [])) _
    refine XS.iload X30.here hx rfl (hb hby at_138) rfl ?_
    show Steps p.tables e below (T30.setTop (mkF m 140 #[.val (.int p1), .val (.int p2), .val (.int p3), .val (.int p4), .val (.ref b1), .val (.int (1 : Int32)), .val (.int r30)] [(.int (1 : Int32))])) _
    exact kt)
  have cn32 := fun (t : State) (kt : Steps p.tables e below (T30.setTop (mkF m 145 #[.val (.int p1), .val (.int p2), .val (.int p3), .val (.int p4), .val (.ref b1), .val (.int (1 : Int32)), .val (.int r30)] [(.ref b1)])) t) => cn31 t (by
    refine XS.ifNo X30.here hx rfl (hb hby at_140) rfl ((if0 _ _).trans (feq (by decide : ¬ ((1 : Int32) = (0 : Int32)))).1) ?_
    show Steps p.tables e below (T30.setTop (mkF m 143 #[.val (.int p1), .val (.int p2), .val (.int p3), .val (.int p4), .val (.ref b1), .val (.int (1 : Int32)), .val (.int r30)] [])) _
    refine XS.aload X30.here hx rfl (hb hby at_143) rfl rfl ?_
    show Steps p.tables e below (T30.setTop (mkF m 145 #[.val (.int p1), .val (.int p2), .val (.int p3), .val (.int p4), .val (.ref b1), .val (.int (1 : Int32)), .val (.int r30)] [(.ref b1)])) _
    exact kt)
  have ro33 := rm3 l Z a0 hw [] b1 AA1 AA2 AA3 AA4 kA1 kA2 kA3 kA4 f130 f230 f330 f430 rc30 (ft30 + c30) ft30 T30.heap n0 O30 I30.1 (by have := I30.2.1; omega) I30.2.2.2.1
  rw [own_ro1 (by have := I30.2.2.1; omega) I30.2.2.2.2.2.2] at ro33
  obtain ⟨cq34, kq34, q34a, q34b, q34c⟩ := isOf hZ rfl I30.1.1
  obtain ⟨_, _, ⟨T34, L34, k34, n34⟩, -, X34, ⟨Lc34, hQ34, l34, y34, z34⟩, st34⟩ := X30.virtualBack hx (y := (⟨"com/example/probver/probver/model/TransitionRows", "rowOpen", "()Z"⟩ : MethodName)) (z := (⟨"com/example/probver/probver/model/TransitionRows", "rowOpen", "()Z"⟩ : MethodName)) hown (mvT hZ (hw _ (List.mem_of_getElem? (i := 20) rfl))) (mvT hZ (hw _ (List.mem_of_getElem? (i := 21) rfl))) (notFace_of_selects (args := #[]) (mvT hZ (hw _ (List.mem_of_getElem? (i := 23) rfl)))) (mvT hZ (hw _ (List.mem_of_getElem? (i := 23) rfl))) (mvT hZ (hw _ (List.mem_of_getElem? (i := 22) rfl))) (by decide) (backOf (W := 0) (ro33) hZ (hw _ (List.mem_of_getElem? (i := 24) rfl)) (hw _ (List.mem_of_getElem? (i := 2) rfl)) (by decide) (by decide)) q34a q34c (g := (mkF m 145 #[.val (.int p1), .val (.int p2), .val (.int p3), .val (.int p4), .val (.ref b1), .val (.int (1 : Int32)), .val (.int r30)] [(.ref b1)])) rfl (by rw [hml]; rfl) (Steps.refl _) (argsL := []) (rest := []) (lenOf pd_10 rfl) rfl (by show 2 * 0 + _ ≤ _; exact Nat.le_of_eq rfl) (hb hby at_145) (fun _ _ => ⟨rfl, rfl, (by decide : 9 + 0 ≤ _), (by decide : 87 + 0 ≤ _)⟩)
  dsimp only [Pt.U, Pt.locs, Pt.cells, Pt.slots] at X34 l34 y34 z34 st34 hQ34
  subst l34 y34 z34
  obtain ⟨rfl, Nq34, eh34⟩ := hQ34
  have N34 := Fr.app N30 Nq34
  have cn35 := fun (t : State) (kt : Steps p.tables e below (T34.setTop (mkF m 150 #[.val (.int p1), .val (.int p2), .val (.int p3), .val (.int p4), .val (.ref b1), .val (.int (1 : Int32)), .val (.int r30)] [(.int r30), (.int r30)])) t) => cn32 t (by
    refine st34.trans ?_
    show Steps p.tables e below (T34.setTop (mkF m 148 #[.val (.int p1), .val (.int p2), .val (.int p3), .val (.int p4), .val (.ref b1), .val (.int (1 : Int32)), .val (.int r30)] [(.int r30)])) _
    refine XS.iload X34.here hx rfl (hb hby at_148) rfl ?_
    show Steps p.tables e below (T34.setTop (mkF m 150 #[.val (.int p1), .val (.int p2), .val (.int p3), .val (.int p4), .val (.ref b1), .val (.int (1 : Int32)), .val (.int r30)] [(.int r30), (.int r30)])) _
    exact kt)
  have cn36 := fun (t : State) (kt : Steps p.tables e below (T34.setTop (mkF m 162 #[.val (.int p1), .val (.int p2), .val (.int p3), .val (.int p4), .val (.ref b1), .val (.int (1 : Int32)), .val (.int r30)] [(.int (1 : Int32))])) t) => cn35 t (by
    refine XS.icmpNo X34.here hx rfl (hb hby at_150) rfl (teq (rfl : r30 = r30)).2 ?_
    show Steps p.tables e below (T34.setTop (mkF m 153 #[.val (.int p1), .val (.int p2), .val (.int p3), .val (.int p4), .val (.ref b1), .val (.int (1 : Int32)), .val (.int r30)] [])) _
    refine XS.iconst X34.here hx rfl (hb hby at_153) ?_
    show Steps p.tables e below (T34.setTop (mkF m 154 #[.val (.int p1), .val (.int p2), .val (.int p3), .val (.int p4), .val (.ref b1), .val (.int (1 : Int32)), .val (.int r30)] [(.int (1 : Int32))])) _
    refine XS.goto X34.here hx rfl (pc0 := 154) (pc' := 158) rfl (hb hby at_154) (by decide) (by decide) ?_
    show Steps p.tables e below (T34.setTop (mkF m 158 #[.val (.int p1), .val (.int p2), .val (.int p3), .val (.int p4), .val (.ref b1), .val (.int (1 : Int32)), .val (.int r30)] [(.int (1 : Int32))])) _
    refine XS.istore X34.here hx rfl (hb hby at_158) rfl (l' := #[.val (.int p1), .val (.int p2), .val (.int p3), .val (.int p4), .val (.ref b1), .val (.int (1 : Int32)), .val (.int r30)]) rfl ?_
    show Steps p.tables e below (T34.setTop (mkF m 160 #[.val (.int p1), .val (.int p2), .val (.int p3), .val (.int p4), .val (.ref b1), .val (.int (1 : Int32)), .val (.int r30)] [])) _
    refine XS.iload X34.here hx rfl (hb hby at_160) rfl ?_
    show Steps p.tables e below (T34.setTop (mkF m 162 #[.val (.int p1), .val (.int p2), .val (.int p3), .val (.int p4), .val (.ref b1), .val (.int (1 : Int32)), .val (.int r30)] [(.int (1 : Int32))])) _
    exact kt)
  obtain ⟨frs, hr, hrun, hended, hW, hsame⟩ := X34.leave (v := some (.int (1 : Int32))) (fun h => by rw [Bd.returns] at h; cases h)
  refine ⟨_, _, cn36 _ ?_, hrun, hended, _, _, rfl, ?_, ⟨_, rfl⟩, hW, hsame.mono (by decide) (by decide)⟩
  · exact retN X34 hx (t := .boolean) Bd.returns (by simp) (hb hby at_162) hr
  · show Q0 n0 _ T34.heap _
    rw [eh34]
    exact ⟨rfl, N34⟩

set_option maxRecDepth 65536 in
set_option maxHeartbeats 40000000 in
theorem comes_1 {Post : Tables → Env → Array Value → State → Outcome → State → Prop} (hpost : ∀ tb e args s v u, (limb_1_1.after args s (.returned v) u = true ∧ limb_1_2.after args s (.returned v) u = true ∧ True) → FrameEnd s (.returned v) u (Jvm.fieldLocs frame_1_writes args s ++ Jvm.arrayLocs frame_1_arrays args s ++ Jvm.staticLocs frame_1_statics s) 32 256 → Post tb e args s (.returned v) u) :
    ArmFor flags0 classFile x code maxLocals ret World_1 tables_1 room_1 Calls_1 rest_1 Pre_1 Post := by
  intro l hfl _ _ p e ha hc hk s m args below hf hA hF happ hP
  obtain ⟨hcalls, hrest, hpre⟩ := hP
  obtain ⟨-, -, -, hnamed, -, -, -, hat⟩ := (Spec.applies_iff hf).mp happ
  obtain ⟨hg, hn⟩ := and_e (Cond.before_iff.mp (show (Jvm.Cond.and given_1 narrow_1).before args s = true from hpre))
  obtain ⟨q1, q2⟩ := and_e hg
  obtain ⟨q3, q4⟩ := and_e q2
  obtain ⟨q5, q6⟩ := and_e q4
  obtain ⟨q7, q8⟩ := and_e q6
  obtain ⟨w0, w1, w2, w3, rfl⟩ : ∃ w0 w1 w2 w3 : Value, args = #[w0, w1, w2, w3] := by
    have hs : args.size = 4 := by simpa [Cond.value, given_1] using q1
    obtain ⟨L⟩ := args
    match L, hs with
    | [w0, w1, w2, w3], _ => exact ⟨w0, w1, w2, w3, rfl⟩
  have hw := fun d (hd : d ∈ tables_1) => atoms_spec (ws := Jvm.Cond.code x code maxLocals ret :: tables_1) hat d (List.mem_cons_of_mem _ hd)
  have hfit : Fit s := fun {y c} hc i hi => by
    obtain ⟨ha, rfl⟩ := Array.getElem?_eq_some_iff.mp hc
    have q := List.all_eq_true.mp ((Array.all_eq_true_iff_forall_mem.mp hF) _ (Array.getElem_mem ha)) i (List.mem_range.mpr hi)
    simpa [Array.getElem?_eq_getElem hi] using q
  obtain ⟨i0, ei0⟩ := is_v q3
  obtain rfl : w0 = (.int i0) := Option.some.inj ei0
  obtain ⟨i1, ei1⟩ := is_v q5
  obtain rfl : w1 = (.int i1) := Option.some.inj ei1
  obtain ⟨i2, ei2⟩ := is_v q7
  obtain rfl : w2 = (.int i2) := Option.some.inj ei2
  obtain ⟨i3, ei3⟩ := is_v q8
  obtain rfl : w3 = (.int i3) := Option.some.inj ei3
  obtain ⟨n, o, h1, h2, h3, _, L, rfl, ⟨rfl, N⟩, hq⟩ := rm0 l s _ hw tables_1 i0 i1 i2 i3   s.heap s.heap.size (Old.start s)   p e ha hc hk s m _ below hf ((Spec.applies_iff_loose hf).mp happ).1 ⟨rfl, State.Warmed39.refl s, rfl⟩ trivial
  refine ⟨n, _, h1, h2, h3, hpost _ _ _ _ _ _ ⟨Cond.after_iff.mpr rfl, Cond.after_iff.mpr (eq_i res_at (Term.int_eval (1)) rfl), trivial⟩ ⟨hq.1, hq.2.1, (hq.2.2.sift fun y hy => Or.inr (N y hy)).mono (by decide) (by decide)⟩⟩
theorem main_1_1 : Claimed_1_1 := comes_1 fun _ _ _ _ _ _ h hF => ⟨h.1, hF⟩
theorem main_1_2 : Claimed_1_2 := comes_1 fun _ _ _ _ _ _ h hF => ⟨h.2.1, hF⟩

end Jvm.Pilot.@@N@@
namespace Jvm.Pilot.@@N@@
open Jvm Jvm.ClassFile Sem Op Lib Jvm.Free Jvm.Stand Jvm.Pilot.@@N@@.Jvm.D
/-! MADE BY PROGRAM (witnessworld.py) out of the Statement's table words and the real class files: 17 classes; the members and pool entries that the words name. The judged class is class 1, her method 2. -/
namespace start1
open Jvm.ClassFile
def u (s : String) : CpInfo := .utf8 (stringToUtf16 s)
/-- a pool by its gaps: so many unusable entries, then the entry; so many at the end -/
def gap : Nat → List CpInfo → List CpInfo
  | 0, r => r
  | n + 1, r => .unusable :: gap n r
def poolList (es : List (Nat × CpInfo)) (last : Nat) : List CpInfo := es.foldr (fun e r => gap e.1 (e.2 :: r)) (gap last [])
def pool (es : List (Nat × CpInfo)) (last : Nat) : Array CpInfo := ⟨poolList es last⟩
def fileOf (pool : Array CpInfo) (this : Nat) (attrs : Array Attribute := #[]) (ms : Array MethodInfo := #[]) (fl : Nat := 33) (sup : Nat := 0) (ifs : Array Nat := #[]) (fds : Array FieldInfo := #[]) : ClassFile where
  minorVersion := 0
  majorVersion := 65
  constantPool := pool
  accessFlags := fl
  thisClass := this
  superClass := sup
  interfaces := ifs
  fields := fds
  methods := ms
  attributes := attrs
def plain (name : String) (sup : Option ClassId) : Class where
  name := name
  kind := .ordinary
  loader := none
  accessFlags := 33
  super := sup
  interfaces := #[]
  cf := none
  fields := #[]
  methods := #[]
  instanceTypes := #[]
  staticTypes := #[]
  resolved := #[]
  callSites := []
  init := .initialized
  statics := none
  mirror := none

def pool0 : Array CpInfo := pool [(5, u "<init>"), (0, u "()V"), (1, .class_ 10), (1, u "java/lang/Object")] 113

def k0c0 : Code := { maxStack := 0, maxLocals := 1, code := object_method_1_code, exceptionTable := #[], attributes := #[] }
def k0m0 : Method := { name := "<init>", desc := "()V", sig := { parameters := [], returnType := none }, accessFlags := 1, code := some k0c0 }
/-- java/lang/Object -/
def k0 : Class := { plain "java/lang/Object" none with
  accessFlags := 33
  interfaces := #[]
  cf := some (fileOf pool0 8 #[] #[{ accessFlags := 1, nameIndex := 5, descriptorIndex := 6, attributes := #[] }] 33 0 #[] #[])
  fields := #[]
  methods := #[k0m0]
  instanceTypes := #[]
  staticTypes := #[]
  resolved := Array.replicate 124 none
  statics := none }

def pool1 : Array CpInfo := pool [(2, .class_ 4), (0, .nameAndType 5 6), (0, u "java/lang/Object"), (0, u "<init>"), (0, u "()V"), (0, .integer 2147483647), (0, .methodref 9 10), (0, .class_ 11), (0, .nameAndType 12 13), (0, u "com/example/probver/probver/model/TransitionRows"), (0, u "add"), (0, u "(ID)V"), (0, .methodref 9 15), (0, .nameAndType 16 6), (0, u "endRow"), (0, .methodref 9 3), (0, .methodref 9 19), (0, .nameAndType 20 21), (0, u "rowOpen"), (0, u "()Z"), (0, .methodref 23 24), (0, .class_ 25), (0, .nameAndType 26 27), (0, u "com/example/probver/probver/model/TransitionRowsRowOpenPinLaw"), (0, u "step"), (0, u "(Lcom/example/probver/probver/model/TransitionRows;IIIII)Z"), (3, u "law"), (0, u "(IIII)Z")] 2

def k1m0 : Method := { name := "<init>", desc := "()V", sig := { parameters := [], returnType := none }, accessFlags := 1, code := none }
def k1c1 : Code := { maxStack := 4, maxLocals := 10, code := method_2_code, exceptionTable := #[], attributes := #[] }
def k1m1 : Method := { name := "step", desc := "(Lcom/example/probver/probver/model/TransitionRows;IIIII)Z", sig := { parameters := [(.object "com/example/probver/probver/model/TransitionRows"), .int, .int, .int, .int, .int], returnType := some .boolean }, accessFlags := 10, code := some k1c1 }
def k1c2 : Code := { maxStack := 6, maxLocals := 7, code := code, exceptionTable := #[], attributes := #[] }
def k1m2 : Method := { name := "law", desc := "(IIII)Z", sig := { parameters := [.int, .int, .int, .int], returnType := some .boolean }, accessFlags := 9, code := some k1c2 }
/-- com/example/probver/probver/model/TransitionRowsRowOpenPinLaw -/
def k1 : Class := { plain "com/example/probver/probver/model/TransitionRowsRowOpenPinLaw" (some 0) with
  accessFlags := 49
  interfaces := #[]
  cf := some (fileOf pool1 23 #[] #[{ accessFlags := 1, nameIndex := 5, descriptorIndex := 6, attributes := #[] }, { accessFlags := 10, nameIndex := 26, descriptorIndex := 27, attributes := #[] }, { accessFlags := 9, nameIndex := 31, descriptorIndex := 32, attributes := #[] }] 49 2 #[] #[])
  fields := #[]
  methods := #[k1m0, k1m1, k1m2]
  instanceTypes := #[]
  staticTypes := #[]
  resolved := Array.replicate 35 none
  statics := none }

def pool2 : Array CpInfo := pool [(1, .methodref 2 3), (0, .class_ 4), (0, .nameAndType 5 6), (0, u "java/lang/Object"), (0, u "<init>"), (0, u "()V"), (0, .fieldref 8 9), (0, .class_ 10), (0, .nameAndType 11 12), (0, u "com/example/probver/probver/model/TransitionRows"), (0, u "firstTransitions"), (0, u "[I"), (0, .fieldref 8 14), (0, .nameAndType 15 12), (0, u "successors"), (0, .fieldref 8 17), (0, .nameAndType 18 19), (0, u "probabilities"), (0, u "[D"), (0, .fieldref 8 21), (0, .nameAndType 22 23), (0, u "sortKeys"), (0, u "[J"), (0, .methodref 8 25), (0, .nameAndType 26 27), (0, u "checkSuccessor"), (0, u "(I)V"), (2, .double 9218868437227405312), (9, .fieldref 8 41), (0, .nameAndType 42 43), (0, u "exactProbabilities"), (0, u "[Lcom/example/probver/probver/util/Rational;"), (7, .methodref 8 52), (0, .nameAndType 53 54), (0, u "append"), (0, u "(ID)V"), (6, .fieldref 8 62), (0, .nameAndType 63 64), (0, u "transitionCount"), (0, u "I"), (3, .class_ 70), (1, u "java/util/Arrays"), (28, .fieldref 8 100), (0, .nameAndType 101 64), (0, u "rowCount"), (0, .methodref 8 103), (0, .nameAndType 104 105), (0, u "mergeSuccessors"), (0, u "(II)I"), (2, u "rowOpen"), (0, u "()Z"), (22, .methodref 68 133), (0, .nameAndType 134 135), (0, u "sort"), (0, u "([JII)V"), (0, .methodref 68 137), (0, .nameAndType 138 139), (0, u "copyOfRange"), (0, u "([DII)[D"), (5, u "add"), (5, u "endRow")] 30

def k2c0 : Code := { maxStack := 2, maxLocals := 1, code := prog_142_method_1_code, exceptionTable := #[], attributes := #[] }
def k2m0 : Method := { name := "<init>", desc := "()V", sig := { parameters := [], returnType := none }, accessFlags := 0, code := some k2c0 }
def k2c1 : Code := { maxStack := 4, maxLocals := 4, code := prog_142_method_2_code, exceptionTable := #[], attributes := #[] }
def k2m1 : Method := { name := "add", desc := "(ID)V", sig := { parameters := [.int, .double], returnType := none }, accessFlags := 0, code := some k2c1 }
def k2c2 : Code := { maxStack := 3, maxLocals := 1, code := prog_142_method_4_code, exceptionTable := #[], attributes := #[] }
def k2m2 : Method := { name := "checkSuccessor", desc := "(I)V", sig := { parameters := [.int], returnType := none }, accessFlags := 10, code := some k2c2 }
def k2c3 : Code := { maxStack := 4, maxLocals := 4, code := prog_142_method_6_code, exceptionTable := #[], attributes := #[] }
def k2m3 : Method := { name := "append", desc := "(ID)V", sig := { parameters := [.int, .double], returnType := none }, accessFlags := 2, code := some k2c3 }
def k2c4 : Code := { maxStack := 5, maxLocals := 2, code := prog_142_method_7_code, exceptionTable := #[], attributes := #[] }
def k2m4 : Method := { name := "endRow", desc := "()V", sig := { parameters := [], returnType := none }, accessFlags := 0, code := some k2c4 }
def k2c5 : Code := { maxStack := 3, maxLocals := 1, code := prog_142_method_9_code, exceptionTable := #[], attributes := #[] }
def k2m5 : Method := { name := "rowOpen", desc := "()Z", sig := { parameters := [], returnType := some .boolean }, accessFlags := 0, code := some k2c5 }
def k2c6 : Code := { maxStack := 6, maxLocals := 11, code := prog_142_method_16_code, exceptionTable := #[], attributes := #[] }
def k2m6 : Method := { name := "mergeSuccessors", desc := "(II)I", sig := { parameters := [.int, .int], returnType := some .int }, accessFlags := 2, code := some k2c6 }
/-- com/example/probver/probver/model/TransitionRows -/
def k2 : Class := { plain "com/example/probver/probver/model/TransitionRows" (some 0) with
  accessFlags := 48
  interfaces := #[]
  cf := some (fileOf pool2 8 #[] #[{ accessFlags := 0, nameIndex := 5, descriptorIndex := 6, attributes := #[] }, { accessFlags := 0, nameIndex := 145, descriptorIndex := 54, attributes := #[] }, { accessFlags := 10, nameIndex := 26, descriptorIndex := 27, attributes := #[] }, { accessFlags := 2, nameIndex := 53, descriptorIndex := 54, attributes := #[] }, { accessFlags := 0, nameIndex := 151, descriptorIndex := 6, attributes := #[] }, { accessFlags := 0, nameIndex := 108, descriptorIndex := 109, attributes := #[] }, { accessFlags := 2, nameIndex := 104, descriptorIndex := 105, attributes := #[] }] 48 2 #[] #[{ accessFlags := 2, nameIndex := 11, descriptorIndex := 12, attributes := #[] }, { accessFlags := 2, nameIndex := 101, descriptorIndex := 64, attributes := #[] }, { accessFlags := 2, nameIndex := 15, descriptorIndex := 12, attributes := #[] }, { accessFlags := 2, nameIndex := 18, descriptorIndex := 19, attributes := #[] }, { accessFlags := 2, nameIndex := 42, descriptorIndex := 43, attributes := #[] }, { accessFlags := 2, nameIndex := 63, descriptorIndex := 64, attributes := #[] }, { accessFlags := 2, nameIndex := 22, descriptorIndex := 23, attributes := #[] }])
  fields := #[{ name := "firstTransitions", type := (.array .int), accessFlags := 2, slot := 0, constantValue := 0 }, { name := "rowCount", type := .int, accessFlags := 2, slot := 1, constantValue := 0 }, { name := "successors", type := (.array .int), accessFlags := 2, slot := 2, constantValue := 0 }, { name := "probabilities", type := (.array .double), accessFlags := 2, slot := 3, constantValue := 0 }, { name := "exactProbabilities", type := (.array (.object "com/example/probver/probver/util/Rational")), accessFlags := 2, slot := 4, constantValue := 0 }, { name := "transitionCount", type := .int, accessFlags := 2, slot := 5, constantValue := 0 }, { name := "sortKeys", type := (.array .long), accessFlags := 2, slot := 6, constantValue := 0 }]
  methods := #[k2m0, k2m1, k2m2, k2m3, k2m4, k2m5, k2m6]
  instanceTypes := #[(.array .int), .int, (.array .int), (.array .double), (.array (.object "com/example/probver/probver/util/Rational")), .int, (.array .long)]
  staticTypes := #[]
  resolved := Array.replicate 182 none
  statics := none }

def pool3 : Array CpInfo := pool [(2, .class_ 4), (1, u "java/lang/Object"), (0, u "<init>"), (0, u "()V"), (1, .class_ 10), (1, u "java/util/DualPivotQuicksort"), (0, u "sort"), (1, .methodref 14 15), (0, .class_ 16), (0, .nameAndType 17 18), (0, u "java/util/Arrays"), (0, u "rangeCheck"), (0, u "(III)V"), (0, .methodref 8 20), (0, .nameAndType 11 21), (0, u "([JIII)V"), (52, .class_ 76), (1, u "java/util/Arrays$NaturalOrder"), (36, .class_ 115), (1, u "java/util/Arrays$LegacyMergeSort"), (1, u "Z"), (21, u "copyOfRange"), (10, .methodref 151 152), (0, .class_ 153), (0, .nameAndType 154 155), (0, u "java/lang/System"), (0, u "arraycopy"), (0, u "(Ljava/lang/Object;ILjava/lang/Object;II)V"), (148, .methodref 305 306), (0, .class_ 307), (0, .nameAndType 308 309), (0, u "java/lang/Math"), (0, u "min"), (0, u "(II)I"), (33, .methodref 14 344), (0, .nameAndType 345 346), (0, u "checkLength"), (0, u "(II)V"), (20, .methodref 14 368), (0, .nameAndType 369 370), (0, u "copyOfRangeDouble"), (0, u "([DII)[D"), (4, .class_ 376), (0, u "java/util/Arrays$ArrayList"), (68, u "$assertionsDisabled"), (269, u "MIN_ARRAY_SORT_GRAN"), (0, u "I"), (2, u "INSERTIONSORT_THRESHOLD"), (12, u "([JII)V"), (242, .class_ 976), (0, u "java/util/Arrays$ArrayItr")] 52

def k3m0 : Method := { name := "<init>", desc := "()V", sig := { parameters := [], returnType := none }, accessFlags := 2, code := none }
def k3c1 : Code := { maxStack := 4, maxLocals := 3, code := jdk_65_method_5_code, exceptionTable := #[], attributes := #[] }
def k3m1 : Method := { name := "sort", desc := "([JII)V", sig := { parameters := [(.array .long), .int, .int], returnType := none }, accessFlags := 9, code := some k3c1 }
def k3c2 : Code := { maxStack := 4, maxLocals := 3, code := jdk_65_method_30_code, exceptionTable := #[], attributes := #[] }
def k3m2 : Method := { name := "rangeCheck", desc := "(III)V", sig := { parameters := [.int, .int, .int], returnType := none }, accessFlags := 8, code := some k3c2 }
def k3c3 : Code := { maxStack := 4, maxLocals := 2, code := jdk_65_method_131_code, exceptionTable := #[], attributes := #[] }
def k3m3 : Method := { name := "checkLength", desc := "(II)V", sig := { parameters := [.int, .int], returnType := none }, accessFlags := 10, code := some k3c3 }
def k3c4 : Code := { maxStack := 3, maxLocals := 3, code := jdk_65_method_144_code, exceptionTable := #[], attributes := #[] }
def k3m4 : Method := { name := "copyOfRange", desc := "([DII)[D", sig := { parameters := [(.array .double), .int, .int], returnType := some (.array .double) }, accessFlags := 9, code := some k3c4 }
def k3c5 : Code := { maxStack := 6, maxLocals := 5, code := jdk_65_method_145_code, exceptionTable := #[], attributes := #[] }
def k3m5 : Method := { name := "copyOfRangeDouble", desc := "([DII)[D", sig := { parameters := [(.array .double), .int, .int], returnType := some (.array .double) }, accessFlags := 10, code := some k3c5 }
/-- java/util/Arrays -/
def k3 : Class := { plain "java/util/Arrays" (some 0) with
  accessFlags := 49
  interfaces := #[]
  cf := some (fileOf pool3 14 #[.nestMembers #[975, 375, 113, 74]] #[{ accessFlags := 2, nameIndex := 5, descriptorIndex := 6, attributes := #[] }, { accessFlags := 9, nameIndex := 11, descriptorIndex := 732, attributes := #[] }, { accessFlags := 8, nameIndex := 17, descriptorIndex := 18, attributes := #[] }, { accessFlags := 10, nameIndex := 345, descriptorIndex := 346, attributes := #[] }, { accessFlags := 9, nameIndex := 139, descriptorIndex := 370, attributes := #[] }, { accessFlags := 10, nameIndex := 369, descriptorIndex := 370, attributes := #[] }] 49 2 #[] #[{ accessFlags := 26, nameIndex := 715, descriptorIndex := 716, attributes := #[] }, { accessFlags := 26, nameIndex := 719, descriptorIndex := 716, attributes := #[] }, { accessFlags := 4120, nameIndex := 445, descriptorIndex := 117, attributes := #[] }])
  fields := #[{ name := "MIN_ARRAY_SORT_GRAN", type := .int, accessFlags := 26, slot := 0, constantValue := 0 }, { name := "INSERTIONSORT_THRESHOLD", type := .int, accessFlags := 26, slot := 1, constantValue := 0 }, { name := "$assertionsDisabled", type := .boolean, accessFlags := 4120, slot := 2, constantValue := 0 }]
  methods := #[k3m0, k3m1, k3m2, k3m3, k3m4, k3m5]
  instanceTypes := #[]
  staticTypes := #[.int, .int, .boolean]
  resolved := Array.replicate 1029 none
  statics := none }

def pool4 : Array CpInfo := pool [(1, .class_ 2), (0, u "java/util/DualPivotQuicksort"), (5, .class_ 10), (1, u "java/lang/Object"), (0, u "<init>"), (0, u "()V"), (4, .class_ 18), (0, u "java/util/DualPivotQuicksort$Sorter"), (9, u "sort"), (7, u "insertionSort"), (31, u "I"), (4, .class_ 74), (0, u "java/util/DualPivotQuicksort$RunMerger"), (10, .class_ 86), (0, u "java/util/DualPivotQuicksort$Merger"), (12, .methodref 1 100), (0, .nameAndType 28 101), (0, u "(Ljava/util/DualPivotQuicksort$Sorter;[JIII)V"), (2, u "([JIII)V"), (0, .methodref 1 106), (0, .nameAndType 36 107), (0, u "([JII)V"), (106, u "MAX_MIXED_INSERTION_SORT_SIZE"), (2, u "MAX_INSERTION_SORT_SIZE"), (1, u "MIN_PARALLEL_SORT_SIZE"), (1, u "MIN_TRY_MERGE_SIZE"), (0, u "MIN_FIRST_RUN_SIZE"), (1, u "MIN_FIRST_RUNS_FACTOR"), (1, u "MAX_RUN_CAPACITY"), (1, u "MIN_RUN_COUNT"), (1, u "MIN_PARALLEL_MERGE_PARTS_SIZE"), (0, u "MIN_BYTE_COUNTING_SORT_SIZE"), (1, u "MIN_SHORT_OR_CHAR_COUNTING_SORT_SIZE"), (1, u "DELTA"), (1, u "MAX_RECURSION_DEPTH"), (1, u "NUM_BYTE_VALUES"), (1, u "MAX_BYTE_INDEX"), (0, u "NUM_CHAR_VALUES"), (0, u "NUM_SHORT_VALUES"), (0, u "MAX_SHORT_INDEX")] 86

def k4m0 : Method := { name := "<init>", desc := "()V", sig := { parameters := [], returnType := none }, accessFlags := 2, code := none }
def k4c1 : Code := { maxStack := 9, maxLocals := 7, code := jdk_2529_method_12_code, exceptionTable := #[], attributes := #[] }
def k4m1 : Method := { name := "sort", desc := "([JIII)V", sig := { parameters := [(.array .long), .int, .int, .int], returnType := none }, accessFlags := 8, code := some k4c1 }
def k4c2 : Code := { maxStack := 6, maxLocals := 25, code := jdk_2529_method_13_code, exceptionTable := #[], attributes := #[] }
def k4m2 : Method := { name := "sort", desc := "(Ljava/util/DualPivotQuicksort$Sorter;[JIII)V", sig := { parameters := [(.object "java/util/DualPivotQuicksort$Sorter"), (.array .long), .int, .int, .int], returnType := none }, accessFlags := 8, code := some k4c2 }
def k4c3 : Code := { maxStack := 5, maxLocals := 7, code := jdk_2529_method_15_code, exceptionTable := #[], attributes := #[] }
def k4m3 : Method := { name := "insertionSort", desc := "([JII)V", sig := { parameters := [(.array .long), .int, .int], returnType := none }, accessFlags := 10, code := some k4c3 }
/-- java/util/DualPivotQuicksort -/
def k4 : Class := { plain "java/util/DualPivotQuicksort" (some 0) with
  accessFlags := 48
  interfaces := #[]
  cf := some (fileOf pool4 1 #[.nestMembers #[73, 85, 17]] #[{ accessFlags := 2, nameIndex := 11, descriptorIndex := 12, attributes := #[] }, { accessFlags := 8, nameIndex := 28, descriptorIndex := 104, attributes := #[] }, { accessFlags := 8, nameIndex := 28, descriptorIndex := 101, attributes := #[] }, { accessFlags := 10, nameIndex := 36, descriptorIndex := 107, attributes := #[] }] 48 8 #[] #[{ accessFlags := 26, nameIndex := 214, descriptorIndex := 68, attributes := #[] }, { accessFlags := 26, nameIndex := 217, descriptorIndex := 68, attributes := #[] }, { accessFlags := 26, nameIndex := 219, descriptorIndex := 68, attributes := #[] }, { accessFlags := 26, nameIndex := 221, descriptorIndex := 68, attributes := #[] }, { accessFlags := 26, nameIndex := 222, descriptorIndex := 68, attributes := #[] }, { accessFlags := 26, nameIndex := 224, descriptorIndex := 68, attributes := #[] }, { accessFlags := 26, nameIndex := 226, descriptorIndex := 68, attributes := #[] }, { accessFlags := 26, nameIndex := 228, descriptorIndex := 68, attributes := #[] }, { accessFlags := 26, nameIndex := 230, descriptorIndex := 68, attributes := #[] }, { accessFlags := 26, nameIndex := 231, descriptorIndex := 68, attributes := #[] }, { accessFlags := 26, nameIndex := 233, descriptorIndex := 68, attributes := #[] }, { accessFlags := 26, nameIndex := 235, descriptorIndex := 68, attributes := #[] }, { accessFlags := 26, nameIndex := 237, descriptorIndex := 68, attributes := #[] }, { accessFlags := 26, nameIndex := 239, descriptorIndex := 68, attributes := #[] }, { accessFlags := 26, nameIndex := 241, descriptorIndex := 68, attributes := #[] }, { accessFlags := 26, nameIndex := 242, descriptorIndex := 68, attributes := #[] }, { accessFlags := 26, nameIndex := 243, descriptorIndex := 68, attributes := #[] }, { accessFlags := 26, nameIndex := 244, descriptorIndex := 68, attributes := #[] }])
  fields := #[{ name := "MAX_MIXED_INSERTION_SORT_SIZE", type := .int, accessFlags := 26, slot := 0, constantValue := 0 }, { name := "MAX_INSERTION_SORT_SIZE", type := .int, accessFlags := 26, slot := 1, constantValue := 0 }, { name := "MIN_PARALLEL_SORT_SIZE", type := .int, accessFlags := 26, slot := 2, constantValue := 0 }, { name := "MIN_TRY_MERGE_SIZE", type := .int, accessFlags := 26, slot := 3, constantValue := 0 }, { name := "MIN_FIRST_RUN_SIZE", type := .int, accessFlags := 26, slot := 4, constantValue := 0 }, { name := "MIN_FIRST_RUNS_FACTOR", type := .int, accessFlags := 26, slot := 5, constantValue := 0 }, { name := "MAX_RUN_CAPACITY", type := .int, accessFlags := 26, slot := 6, constantValue := 0 }, { name := "MIN_RUN_COUNT", type := .int, accessFlags := 26, slot := 7, constantValue := 0 }, { name := "MIN_PARALLEL_MERGE_PARTS_SIZE", type := .int, accessFlags := 26, slot := 8, constantValue := 0 }, { name := "MIN_BYTE_COUNTING_SORT_SIZE", type := .int, accessFlags := 26, slot := 9, constantValue := 0 }, { name := "MIN_SHORT_OR_CHAR_COUNTING_SORT_SIZE", type := .int, accessFlags := 26, slot := 10, constantValue := 0 }, { name := "DELTA", type := .int, accessFlags := 26, slot := 11, constantValue := 0 }, { name := "MAX_RECURSION_DEPTH", type := .int, accessFlags := 26, slot := 12, constantValue := 0 }, { name := "NUM_BYTE_VALUES", type := .int, accessFlags := 26, slot := 13, constantValue := 0 }, { name := "MAX_BYTE_INDEX", type := .int, accessFlags := 26, slot := 14, constantValue := 0 }, { name := "NUM_CHAR_VALUES", type := .int, accessFlags := 26, slot := 15, constantValue := 0 }, { name := "NUM_SHORT_VALUES", type := .int, accessFlags := 26, slot := 16, constantValue := 0 }, { name := "MAX_SHORT_INDEX", type := .int, accessFlags := 26, slot := 17, constantValue := 0 }]
  methods := #[k4m0, k4m1, k4m2, k4m3]
  instanceTypes := #[]
  staticTypes := #[.int, .int, .int, .int, .int, .int, .int, .int, .int, .int, .int, .int, .int, .int, .int, .int, .int, .int]
  resolved := Array.replicate 331 none
  statics := none }

def pool5 : Array CpInfo := pool [(1, .class_ 2), (0, u "java/lang/Math"), (1, .class_ 6), (1, u "java/lang/Object"), (0, u "<init>"), (0, u "()V"), (89, .class_ 100), (1, u "java/lang/Math$RandomNumberGeneratorHolder"), (71, u "negativeZeroFloatBits"), (0, u "J"), (2, u "negativeZeroDoubleBits"), (24, u "min"), (43, u "$assertionsDisabled"), (0, u "Z"), (88, u "(II)I"), (2, u "twoToTheDoubleScaleDown"), (0, u "D"), (4, u "twoToTheDoubleScaleUp"), (9, u "E"), (3, u "PI"), (2, u "TAU"), (2, u "DEGREES_TO_RADIANS"), (0, u "RADIANS_TO_DEGREES")] 94

def k5m0 : Method := { name := "<init>", desc := "()V", sig := { parameters := [], returnType := none }, accessFlags := 2, code := none }
def k5c1 : Code := { maxStack := 2, maxLocals := 2, code := jdk_29_method_69_code, exceptionTable := #[], attributes := #[] }
def k5m1 : Method := { name := "min", desc := "(II)I", sig := { parameters := [.int, .int], returnType := some .int }, accessFlags := 9, code := some k5c1 }
/-- java/lang/Math -/
def k5 : Class := { plain "java/lang/Math" (some 0) with
  accessFlags := 49
  interfaces := #[]
  cf := some (fileOf pool5 1 #[.nestMembers #[98]] #[{ accessFlags := 2, nameIndex := 7, descriptorIndex := 8, attributes := #[] }, { accessFlags := 9, nameIndex := 201, descriptorIndex := 335, attributes := #[] }] 49 4 #[] #[{ accessFlags := 25, nameIndex := 354, descriptorIndex := 339, attributes := #[] }, { accessFlags := 25, nameIndex := 358, descriptorIndex := 339, attributes := #[] }, { accessFlags := 25, nameIndex := 361, descriptorIndex := 339, attributes := #[] }, { accessFlags := 26, nameIndex := 364, descriptorIndex := 339, attributes := #[] }, { accessFlags := 26, nameIndex := 365, descriptorIndex := 339, attributes := #[] }, { accessFlags := 26, nameIndex := 172, descriptorIndex := 173, attributes := #[] }, { accessFlags := 26, nameIndex := 176, descriptorIndex := 173, attributes := #[] }, { accessFlags := 8, nameIndex := 344, descriptorIndex := 339, attributes := #[] }, { accessFlags := 8, nameIndex := 338, descriptorIndex := 339, attributes := #[] }, { accessFlags := 4120, nameIndex := 245, descriptorIndex := 246, attributes := #[] }])
  fields := #[{ name := "E", type := .double, accessFlags := 25, slot := 0, constantValue := 0 }, { name := "PI", type := .double, accessFlags := 25, slot := 1, constantValue := 0 }, { name := "TAU", type := .double, accessFlags := 25, slot := 2, constantValue := 0 }, { name := "DEGREES_TO_RADIANS", type := .double, accessFlags := 26, slot := 3, constantValue := 0 }, { name := "RADIANS_TO_DEGREES", type := .double, accessFlags := 26, slot := 4, constantValue := 0 }, { name := "negativeZeroFloatBits", type := .long, accessFlags := 26, slot := 5, constantValue := 0 }, { name := "negativeZeroDoubleBits", type := .long, accessFlags := 26, slot := 6, constantValue := 0 }, { name := "twoToTheDoubleScaleUp", type := .double, accessFlags := 8, slot := 7, constantValue := 0 }, { name := "twoToTheDoubleScaleDown", type := .double, accessFlags := 8, slot := 8, constantValue := 0 }, { name := "$assertionsDisabled", type := .boolean, accessFlags := 4120, slot := 9, constantValue := 0 }]
  methods := #[k5m0, k5m1]
  instanceTypes := #[]
  staticTypes := #[.double, .double, .double, .double, .double, .long, .long, .double, .double, .boolean]
  resolved := Array.replicate 460 none
  statics := none }

def pool6 : Array CpInfo := pool [(2, .class_ 4), (1, u "java/lang/Object"), (0, u "<init>"), (0, u "()V"), (1, .class_ 10), (1, u "java/lang/System"), (0, u "allowSecurityManager"), (0, u "I"), (16, u "cons"), (0, u "Ljava/io/Console;"), (77, .class_ 110), (1, u "java/lang/System$CallersHolder"), (43, u "initialErrStream"), (0, u "Ljava/io/PrintStream;"), (19, u "security"), (0, u "Ljava/lang/SecurityManager;"), (31, .class_ 209), (0, u "java/lang/System$1"), (7, u "props"), (0, u "Ljava/util/Properties;"), (2, u "lineSeparator"), (0, u "Ljava/lang/String;"), (96, .class_ 321), (1, u "java/lang/System$LoggerFinder"), (5, .class_ 328), (0, u "java/lang/System$Logger"), (67, u "err"), (2, u "out"), (91, u "notSupportedJnuEncoding"), (15, u "in"), (17, u "initialIn"), (0, u "Ljava/io/InputStream;"), (35, u "bootLayer"), (0, u "Ljava/lang/ModuleLayer;"), (99, .class_ 664), (0, u "java/lang/System$2"), (9, u "NEVER"), (2, u "MAYBE"), (49, u "arraycopy"), (0, u "(Ljava/lang/Object;ILjava/lang/Object;II)V"), (72, .class_ 802), (0, u "java/lang/System$Logger$Level")] 31

def k6m0 : Method := { name := "<init>", desc := "()V", sig := { parameters := [], returnType := none }, accessFlags := 2, code := none }
def k6m1 : Method := { name := "arraycopy", desc := "(Ljava/lang/Object;ILjava/lang/Object;II)V", sig := { parameters := [(.object "java/lang/Object"), .int, (.object "java/lang/Object"), .int, .int], returnType := none }, accessFlags := 265, code := none }
/-- java/lang/System -/
def k6 : Class := { plain "java/lang/System" (some 0) with
  accessFlags := 49
  interfaces := #[]
  cf := some (fileOf pool6 8 #[.nestMembers #[319, 327, 801, 108, 663, 208]] #[{ accessFlags := 2, nameIndex := 5, descriptorIndex := 6, attributes := #[] }, { accessFlags := 265, nameIndex := 727, descriptorIndex := 728, attributes := #[] }] 49 2 #[] #[{ accessFlags := 25, nameIndex := 507, descriptorIndex := 526, attributes := #[] }, { accessFlags := 25, nameIndex := 399, descriptorIndex := 155, attributes := #[] }, { accessFlags := 25, nameIndex := 396, descriptorIndex := 155, attributes := #[] }, { accessFlags := 10, nameIndex := 525, descriptorIndex := 526, attributes := #[] }, { accessFlags := 26, nameIndex := 674, descriptorIndex := 12, attributes := #[] }, { accessFlags := 26, nameIndex := 677, descriptorIndex := 12, attributes := #[] }, { accessFlags := 10, nameIndex := 11, descriptorIndex := 12, attributes := #[] }, { accessFlags := 74, nameIndex := 175, descriptorIndex := 176, attributes := #[] }, { accessFlags := 10, nameIndex := 491, descriptorIndex := 222, attributes := #[] }, { accessFlags := 74, nameIndex := 29, descriptorIndex := 30, attributes := #[] }, { accessFlags := 74, nameIndex := 154, descriptorIndex := 155, attributes := #[] }, { accessFlags := 10, nameIndex := 217, descriptorIndex := 218, attributes := #[] }, { accessFlags := 10, nameIndex := 221, descriptorIndex := 222, attributes := #[] }, { accessFlags := 8, nameIndex := 562, descriptorIndex := 563, attributes := #[] }])
  fields := #[{ name := "in", type := (.object "java/io/InputStream"), accessFlags := 25, slot := 0, constantValue := 0 }, { name := "out", type := (.object "java/io/PrintStream"), accessFlags := 25, slot := 1, constantValue := 0 }, { name := "err", type := (.object "java/io/PrintStream"), accessFlags := 25, slot := 2, constantValue := 0 }, { name := "initialIn", type := (.object "java/io/InputStream"), accessFlags := 10, slot := 3, constantValue := 0 }, { name := "NEVER", type := .int, accessFlags := 26, slot := 4, constantValue := 0 }, { name := "MAYBE", type := .int, accessFlags := 26, slot := 5, constantValue := 0 }, { name := "allowSecurityManager", type := .int, accessFlags := 10, slot := 6, constantValue := 0 }, { name := "security", type := (.object "java/lang/SecurityManager"), accessFlags := 74, slot := 7, constantValue := 0 }, { name := "notSupportedJnuEncoding", type := (.object "java/lang/String"), accessFlags := 10, slot := 8, constantValue := 0 }, { name := "cons", type := (.object "java/io/Console"), accessFlags := 74, slot := 9, constantValue := 0 }, { name := "initialErrStream", type := (.object "java/io/PrintStream"), accessFlags := 74, slot := 10, constantValue := 0 }, { name := "props", type := (.object "java/util/Properties"), accessFlags := 10, slot := 11, constantValue := 0 }, { name := "lineSeparator", type := (.object "java/lang/String"), accessFlags := 10, slot := 12, constantValue := 0 }, { name := "bootLayer", type := (.object "java/lang/ModuleLayer"), accessFlags := 8, slot := 13, constantValue := 0 }]
  methods := #[k6m0, k6m1]
  instanceTypes := #[]
  staticTypes := #[(.object "java/io/InputStream"), (.object "java/io/PrintStream"), (.object "java/io/PrintStream"), (.object "java/io/InputStream"), .int, .int, .int, (.object "java/lang/SecurityManager"), (.object "java/lang/String"), (.object "java/io/Console"), (.object "java/io/PrintStream"), (.object "java/util/Properties"), (.object "java/lang/String"), (.object "java/lang/ModuleLayer")]
  resolved := Array.replicate 834 none
  statics := none }

def pool7 : Array CpInfo := pool [(1, u "java/lang/Cloneable"), (0, .class_ 1), (0, u "java/lang/Object"), (0, .class_ 3)] 3

/-- java/lang/Cloneable -/
def k7 : Class := { plain "java/lang/Cloneable" (some 0) with
  accessFlags := 1537
  interfaces := #[]
  cf := some (fileOf pool7 2 #[] #[] 1537 4 #[] #[])
  fields := #[]
  methods := #[]
  instanceTypes := #[]
  staticTypes := #[]
  resolved := Array.replicate 8 none
  statics := none }

def pool8 : Array CpInfo := pool [(1, u "java/io/Serializable"), (0, .class_ 1), (0, u "java/lang/Object"), (0, .class_ 3)] 3

/-- java/io/Serializable -/
def k8 : Class := { plain "java/io/Serializable" (some 0) with
  accessFlags := 1537
  interfaces := #[]
  cf := some (fileOf pool8 2 #[] #[] 1537 4 #[] #[])
  fields := #[]
  methods := #[]
  instanceTypes := #[]
  staticTypes := #[]
  resolved := Array.replicate 8 none
  statics := none }

/-- the primitive byte -/
def k9 : Class := { plain "byte" none with kind := .primitive 'B', accessFlags := 0x411 }
/-- [B -/
def k10 : Class := { plain "[B" (some 0) with kind := .array 9 .byte, interfaces := #[7, 8], accessFlags := 1041 }

/-- the primitive double -/
def k11 : Class := { plain "double" none with kind := .primitive 'D', accessFlags := 0x411 }
/-- [D -/
def k12 : Class := { plain "[D" (some 0) with kind := .array 11 .double, interfaces := #[7, 8], accessFlags := 1041 }

/-- the primitive int -/
def k13 : Class := { plain "int" none with kind := .primitive 'I', accessFlags := 0x411 }
/-- [I -/
def k14 : Class := { plain "[I" (some 0) with kind := .array 13 .int, interfaces := #[7, 8], accessFlags := 1041 }

/-- the primitive long -/
def k15 : Class := { plain "long" none with kind := .primitive 'J', accessFlags := 0x411 }
/-- [J -/
def k16 : Class := { plain "[J" (some 0) with kind := .array 15 .long, interfaces := #[7, 8], accessFlags := 1041 }

def heap : Heap := #[]
def classes : Array Class := #[k0, k1, k2, k3, k4, k5, k6, k7, k8, k9, k10, k11, k12, k13, k14, k15, k16]
def interned : List (Array UInt16 × Addr) := []
def slotsUsed : Nat := 0
def theMethod : MethodId := ⟨1, 2⟩
def args0 : Array Value := #[.int 1, .int 2, .int 3, .int 4]
def aboutOver (below : List Frame) : State where
  vm := { classes := classes, interned := interned.toArray }
  heap := heap
  slotsUsed := slotsUsed
  threads := #[{ frames := .invoking theMethod args0 :: below }]
def below0 : List Frame := [.native { method := ⟨0, 0⟩, args := #[] }]
def about1 : State := aboutOver below0
def p0 : Program := .bare "" "" ""
def e0 : Env := launch0.env 0 0 0
theorem w_frames : about1.frames = Frame.invoking theMethod args0 :: below0 := rfl
set_option maxRecDepth 65536 in
theorem w_args : argsFit about1.vm theMethod args0 = true := by decide +kernel
set_option maxRecDepth 65536 in
theorem w_heap : heapFits about1 = true := by decide +kernel
set_option maxRecDepth 65536 in
theorem w_runnable : about1.curStatus? = some .runnable := by decide +kernel
set_option maxRecDepth 65536 in
theorem w_alone : about1.alone = true := by decide +kernel
set_option maxRecDepth 65536 in
theorem w_named : about1.methodNamed? x = some theMethod := by decide +kernel
set_option maxRecDepth 65536 in
theorem w_hears : about1.hears theMethod below0 = true := by decide +kernel
set_option maxRecDepth 65536 in
theorem w_ripe : about1.ripe theMethod args0 below0 = true := by decide +kernel
theorem w_running : about1.status = .running := rfl
set_option maxRecDepth 65536 in
theorem w_room : about1.hasRoom e0.platform room_1 = true :=
  launch0.hasRoom_least _ room_1 (by decide +kernel) (by decide +kernel) (by decide +kernel) (by decide +kernel) (by decide +kernel) (by decide +kernel)
theorem allAtoms_all (ts : List Jvm.Cond) (a : Array Jvm.Value) (st : Jvm.State) : (allAtoms ts).before a st = ts.all (fun c => c.before a st) := by
  induction ts with
  | nil => rfl
  | cons c t ih =>
    show (Jvm.Cond.and c (allAtoms t)).before a st = _
    rw [Jvm.Cond.before_and, ih, List.all_cons]
def words1 : List Jvm.Cond := Jvm.Cond.code x code maxLocals ret :: tables_1
/-- a 'code' word, met by the world's own term for the bytes: nothing is compared byte by byte -/
theorem code_word {y : MethodName} {bytes : ByteArray} {mx : Nat} {rt : Option FieldType} {a : Array Value} {s : State} {m : MethodId} {meth : Method} {c : Code} (h1 : s.methodNamed? y = some m) (h2 : s.vm.method? m = some meth) (h3 : meth.code = some c) (h4 : c.code = bytes)
    (h5 : (c.maxLocals == mx && c.exceptionTable.isEmpty && decide (c.maxStack ≤ mostOperands) && decide (meth.sig.returnType = rt) && !meth.locks && decide (parseMethodDescriptor y.desc = some meth.sig)) = true) : (Jvm.Cond.code y bytes mx rt).before a s = true := by
  simp only [Bool.and_eq_true, beq_iff_eq, Bool.not_eq_true', decide_eq_true_eq] at h5
  obtain ⟨⟨⟨⟨⟨g1, g2⟩, g3⟩, g4⟩, g5⟩, g6⟩ := h5
  simp [Cond.before, Cond.holds, Cond.value, h1, h2, h3, h4, g1, g2, g3, g4, g5, g6]
def isCode : Jvm.Cond → Bool
  | .code _ _ _ _ => true
  | _ => false
theorem all_split {L : List Jvm.Cond} {P : Jvm.Cond → Bool} (h1 : L.all (fun c => isCode c || P c) = true) (h2 : ∀ c ∈ L.filter isCode, P c = true) : L.all P = true := by
  refine List.all_eq_true.mpr fun c hc => ?_
  have h := List.all_eq_true.mp h1 c hc
  rcases Bool.eq_false_or_eq_true (isCode c) with hi | hi
  · exact h2 c (List.mem_filter.mpr ⟨hc, hi⟩)
  · simpa [hi] using h
set_option maxRecDepth 65536 in
theorem w_c0 : (Jvm.Cond.code x code maxLocals ret).before args0 about1 = true := code_word (m := ⟨1, 2⟩) (meth := k1m2) (c := k1c2) (by decide +kernel) rfl rfl rfl (by decide +kernel)
set_option maxRecDepth 65536 in
theorem w_c1 : (Jvm.Cond.code ({ cls := "com/example/probver/probver/model/TransitionRows", name := "<init>", desc := "()V" } : Jvm.MethodName) prog_142_method_1_code (1 : Nat) (Option.none : Option Jvm.ClassFile.FieldType)).before args0 about1 = true := code_word (m := ⟨2, 0⟩) (meth := k2m0) (c := k2c0) (by decide +kernel) rfl rfl rfl (by decide +kernel)
set_option maxRecDepth 65536 in
theorem w_c2 : (Jvm.Cond.code ({ cls := "java/lang/Object", name := "<init>", desc := "()V" } : Jvm.MethodName) object_method_1_code (1 : Nat) (Option.none : Option Jvm.ClassFile.FieldType)).before args0 about1 = true := code_word (m := ⟨0, 0⟩) (meth := k0m0) (c := k0c0) (by decide +kernel) rfl rfl rfl (by decide +kernel)
set_option maxRecDepth 65536 in
theorem w_c3 : (Jvm.Cond.code ({ cls := "com/example/probver/probver/model/TransitionRows", name := "rowOpen", desc := "()Z" } : Jvm.MethodName) prog_142_method_9_code (1 : Nat) (Option.some Jvm.ClassFile.FieldType.boolean)).before args0 about1 = true := code_word (m := ⟨2, 5⟩) (meth := k2m5) (c := k2c5) (by decide +kernel) rfl rfl rfl (by decide +kernel)
set_option maxRecDepth 65536 in
theorem w_c4 : (Jvm.Cond.code ({ cls := "com/example/probver/probver/model/TransitionRowsRowOpenPinLaw", name := "step", desc := "(Lcom/example/probver/probver/model/TransitionRows;IIIII)Z" } : Jvm.MethodName) method_2_code (10 : Nat) (Option.some Jvm.ClassFile.FieldType.boolean)).before args0 about1 = true := code_word (m := ⟨1, 1⟩) (meth := k1m1) (c := k1c1) (by decide +kernel) rfl rfl rfl (by decide +kernel)
set_option maxRecDepth 65536 in
theorem w_c5 : (Jvm.Cond.code ({ cls := "com/example/probver/probver/model/TransitionRows", name := "endRow", desc := "()V" } : Jvm.MethodName) prog_142_method_7_code (2 : Nat) (Option.none : Option Jvm.ClassFile.FieldType)).before args0 about1 = true := code_word (m := ⟨2, 4⟩) (meth := k2m4) (c := k2c4) (by decide +kernel) rfl rfl rfl (by decide +kernel)
set_option maxRecDepth 65536 in
theorem w_c6 : (Jvm.Cond.code ({ cls := "com/example/probver/probver/model/TransitionRows", name := "mergeSuccessors", desc := "(II)I" } : Jvm.MethodName) prog_142_method_16_code (11 : Nat) (Option.some Jvm.ClassFile.FieldType.int)).before args0 about1 = true := code_word (m := ⟨2, 6⟩) (meth := k2m6) (c := k2c6) (by decide +kernel) rfl rfl rfl (by decide +kernel)
set_option maxRecDepth 65536 in
theorem w_c7 : (Jvm.Cond.code ({ cls := "java/util/Arrays", name := "sort", desc := "([JII)V" } : Jvm.MethodName) jdk_65_method_5_code (3 : Nat) (Option.none : Option Jvm.ClassFile.FieldType)).before args0 about1 = true := code_word (m := ⟨3, 1⟩) (meth := k3m1) (c := k3c1) (by decide +kernel) rfl rfl rfl (by decide +kernel)
set_option maxRecDepth 65536 in
theorem w_c8 : (Jvm.Cond.code ({ cls := "java/util/Arrays", name := "rangeCheck", desc := "(III)V" } : Jvm.MethodName) jdk_65_method_30_code (3 : Nat) (Option.none : Option Jvm.ClassFile.FieldType)).before args0 about1 = true := code_word (m := ⟨3, 2⟩) (meth := k3m2) (c := k3c2) (by decide +kernel) rfl rfl rfl (by decide +kernel)
set_option maxRecDepth 65536 in
theorem w_c9 : (Jvm.Cond.code ({ cls := "java/util/DualPivotQuicksort", name := "sort", desc := "([JIII)V" } : Jvm.MethodName) jdk_2529_method_12_code (7 : Nat) (Option.none : Option Jvm.ClassFile.FieldType)).before args0 about1 = true := code_word (m := ⟨4, 1⟩) (meth := k4m1) (c := k4c1) (by decide +kernel) rfl rfl rfl (by decide +kernel)
set_option maxRecDepth 65536 in
theorem w_c10 : (Jvm.Cond.code ({ cls := "java/util/DualPivotQuicksort", name := "sort", desc := "(Ljava/util/DualPivotQuicksort$Sorter;[JIII)V" } : Jvm.MethodName) jdk_2529_method_13_code (25 : Nat) (Option.none : Option Jvm.ClassFile.FieldType)).before args0 about1 = true := code_word (m := ⟨4, 2⟩) (meth := k4m2) (c := k4c2) (by decide +kernel) rfl rfl rfl (by decide +kernel)
set_option maxRecDepth 65536 in
theorem w_c11 : (Jvm.Cond.code ({ cls := "java/util/DualPivotQuicksort", name := "insertionSort", desc := "([JII)V" } : Jvm.MethodName) jdk_2529_method_15_code (7 : Nat) (Option.none : Option Jvm.ClassFile.FieldType)).before args0 about1 = true := code_word (m := ⟨4, 3⟩) (meth := k4m3) (c := k4c3) (by decide +kernel) rfl rfl rfl (by decide +kernel)
set_option maxRecDepth 65536 in
theorem w_c12 : (Jvm.Cond.code ({ cls := "java/util/Arrays", name := "copyOfRange", desc := "([DII)[D" } : Jvm.MethodName) jdk_65_method_144_code (3 : Nat) (Option.some (Jvm.ClassFile.FieldType.array Jvm.ClassFile.FieldType.double))).before args0 about1 = true := code_word (m := ⟨3, 4⟩) (meth := k3m4) (c := k3c4) (by decide +kernel) rfl rfl rfl (by decide +kernel)
set_option maxRecDepth 65536 in
theorem w_c13 : (Jvm.Cond.code ({ cls := "java/util/Arrays", name := "copyOfRangeDouble", desc := "([DII)[D" } : Jvm.MethodName) jdk_65_method_145_code (5 : Nat) (Option.some (Jvm.ClassFile.FieldType.array Jvm.ClassFile.FieldType.double))).before args0 about1 = true := code_word (m := ⟨3, 5⟩) (meth := k3m5) (c := k3c5) (by decide +kernel) rfl rfl rfl (by decide +kernel)
set_option maxRecDepth 65536 in
theorem w_c14 : (Jvm.Cond.code ({ cls := "java/util/Arrays", name := "checkLength", desc := "(II)V" } : Jvm.MethodName) jdk_65_method_131_code (2 : Nat) (Option.none : Option Jvm.ClassFile.FieldType)).before args0 about1 = true := code_word (m := ⟨3, 3⟩) (meth := k3m3) (c := k3c3) (by decide +kernel) rfl rfl rfl (by decide +kernel)
set_option maxRecDepth 65536 in
theorem w_c15 : (Jvm.Cond.code ({ cls := "java/lang/Math", name := "min", desc := "(II)I" } : Jvm.MethodName) jdk_29_method_69_code (2 : Nat) (Option.some Jvm.ClassFile.FieldType.int)).before args0 about1 = true := code_word (m := ⟨5, 1⟩) (meth := k5m1) (c := k5c1) (by decide +kernel) rfl rfl rfl (by decide +kernel)
set_option maxRecDepth 65536 in
theorem w_c16 : (Jvm.Cond.code ({ cls := "com/example/probver/probver/model/TransitionRows", name := "add", desc := "(ID)V" } : Jvm.MethodName) prog_142_method_2_code (4 : Nat) (Option.none : Option Jvm.ClassFile.FieldType)).before args0 about1 = true := code_word (m := ⟨2, 1⟩) (meth := k2m1) (c := k2c1) (by decide +kernel) rfl rfl rfl (by decide +kernel)
set_option maxRecDepth 65536 in
theorem w_c17 : (Jvm.Cond.code ({ cls := "com/example/probver/probver/model/TransitionRows", name := "checkSuccessor", desc := "(I)V" } : Jvm.MethodName) prog_142_method_4_code (1 : Nat) (Option.none : Option Jvm.ClassFile.FieldType)).before args0 about1 = true := code_word (m := ⟨2, 2⟩) (meth := k2m2) (c := k2c2) (by decide +kernel) rfl rfl rfl (by decide +kernel)
set_option maxRecDepth 65536 in
theorem w_c18 : (Jvm.Cond.code ({ cls := "com/example/probver/probver/model/TransitionRows", name := "append", desc := "(ID)V" } : Jvm.MethodName) prog_142_method_6_code (4 : Nat) (Option.none : Option Jvm.ClassFile.FieldType)).before args0 about1 = true := code_word (m := ⟨2, 3⟩) (meth := k2m3) (c := k2c3) (by decide +kernel) rfl rfl rfl (by decide +kernel)
def codes1 : List Jvm.Cond := [Jvm.Cond.code x code maxLocals ret, Jvm.Cond.code ({ cls := "com/example/probver/probver/model/TransitionRows", name := "<init>", desc := "()V" } : Jvm.MethodName) prog_142_method_1_code (1 : Nat) (Option.none : Option Jvm.ClassFile.FieldType), Jvm.Cond.code ({ cls := "java/lang/Object", name := "<init>", desc := "()V" } : Jvm.MethodName) object_method_1_code (1 : Nat) (Option.none : Option Jvm.ClassFile.FieldType), Jvm.Cond.code ({ cls := "com/example/probver/probver/model/TransitionRows", name := "rowOpen", desc := "()Z" } : Jvm.MethodName) prog_142_method_9_code (1 : Nat) (Option.some Jvm.ClassFile.FieldType.boolean), Jvm.Cond.code ({ cls := "com/example/probver/probver/model/TransitionRowsRowOpenPinLaw", name := "step", desc := "(Lcom/example/probver/probver/model/TransitionRows;IIIII)Z" } : Jvm.MethodName) method_2_code (10 : Nat) (Option.some Jvm.ClassFile.FieldType.boolean), Jvm.Cond.code ({ cls := "com/example/probver/probver/model/TransitionRows", name := "endRow", desc := "()V" } : Jvm.MethodName) prog_142_method_7_code (2 : Nat) (Option.none : Option Jvm.ClassFile.FieldType), Jvm.Cond.code ({ cls := "com/example/probver/probver/model/TransitionRows", name := "mergeSuccessors", desc := "(II)I" } : Jvm.MethodName) prog_142_method_16_code (11 : Nat) (Option.some Jvm.ClassFile.FieldType.int), Jvm.Cond.code ({ cls := "java/util/Arrays", name := "sort", desc := "([JII)V" } : Jvm.MethodName) jdk_65_method_5_code (3 : Nat) (Option.none : Option Jvm.ClassFile.FieldType), Jvm.Cond.code ({ cls := "java/util/Arrays", name := "rangeCheck", desc := "(III)V" } : Jvm.MethodName) jdk_65_method_30_code (3 : Nat) (Option.none : Option Jvm.ClassFile.FieldType), Jvm.Cond.code ({ cls := "java/util/DualPivotQuicksort", name := "sort", desc := "([JIII)V" } : Jvm.MethodName) jdk_2529_method_12_code (7 : Nat) (Option.none : Option Jvm.ClassFile.FieldType), Jvm.Cond.code ({ cls := "java/util/DualPivotQuicksort", name := "sort", desc := "(Ljava/util/DualPivotQuicksort$Sorter;[JIII)V" } : Jvm.MethodName) jdk_2529_method_13_code (25 : Nat) (Option.none : Option Jvm.ClassFile.FieldType), Jvm.Cond.code ({ cls := "java/util/DualPivotQuicksort", name := "insertionSort", desc := "([JII)V" } : Jvm.MethodName) jdk_2529_method_15_code (7 : Nat) (Option.none : Option Jvm.ClassFile.FieldType), Jvm.Cond.code ({ cls := "java/util/Arrays", name := "copyOfRange", desc := "([DII)[D" } : Jvm.MethodName) jdk_65_method_144_code (3 : Nat) (Option.some (Jvm.ClassFile.FieldType.array Jvm.ClassFile.FieldType.double)), Jvm.Cond.code ({ cls := "java/util/Arrays", name := "copyOfRangeDouble", desc := "([DII)[D" } : Jvm.MethodName) jdk_65_method_145_code (5 : Nat) (Option.some (Jvm.ClassFile.FieldType.array Jvm.ClassFile.FieldType.double)), Jvm.Cond.code ({ cls := "java/util/Arrays", name := "checkLength", desc := "(II)V" } : Jvm.MethodName) jdk_65_method_131_code (2 : Nat) (Option.none : Option Jvm.ClassFile.FieldType), Jvm.Cond.code ({ cls := "java/lang/Math", name := "min", desc := "(II)I" } : Jvm.MethodName) jdk_29_method_69_code (2 : Nat) (Option.some Jvm.ClassFile.FieldType.int), Jvm.Cond.code ({ cls := "com/example/probver/probver/model/TransitionRows", name := "add", desc := "(ID)V" } : Jvm.MethodName) prog_142_method_2_code (4 : Nat) (Option.none : Option Jvm.ClassFile.FieldType), Jvm.Cond.code ({ cls := "com/example/probver/probver/model/TransitionRows", name := "checkSuccessor", desc := "(I)V" } : Jvm.MethodName) prog_142_method_4_code (1 : Nat) (Option.none : Option Jvm.ClassFile.FieldType), Jvm.Cond.code ({ cls := "com/example/probver/probver/model/TransitionRows", name := "append", desc := "(ID)V" } : Jvm.MethodName) prog_142_method_6_code (4 : Nat) (Option.none : Option Jvm.ClassFile.FieldType)]
set_option maxRecDepth 65536 in
theorem codes_eq : words1.filter isCode = codes1 := rfl
theorem w_codes : ∀ c ∈ words1.filter isCode, c.before args0 about1 = true := by
  rw [codes_eq]
  intro c hc
  simp only [codes1, List.mem_cons, List.not_mem_nil, or_false] at hc
  rcases hc with rfl | rfl | rfl | rfl | rfl | rfl | rfl | rfl | rfl | rfl | rfl | rfl | rfl | rfl | rfl | rfl | rfl | rfl | rfl
  · exact w_c0
  · exact w_c1
  · exact w_c2
  · exact w_c3
  · exact w_c4
  · exact w_c5
  · exact w_c6
  · exact w_c7
  · exact w_c8
  · exact w_c9
  · exact w_c10
  · exact w_c11
  · exact w_c12
  · exact w_c13
  · exact w_c14
  · exact w_c15
  · exact w_c16
  · exact w_c17
  · exact w_c18
set_option maxRecDepth 65536 in
theorem w_t1 : (words1.take 24).all (fun c => isCode c || c.before args0 about1) = true := by decide +kernel
set_option maxRecDepth 65536 in
theorem w_t2 : ((words1.drop 24).take 24).all (fun c => isCode c || c.before args0 about1) = true := by decide +kernel
set_option maxRecDepth 65536 in
theorem w_t3 : (((words1.drop 24).drop 24).take 24).all (fun c => isCode c || c.before args0 about1) = true := by decide +kernel
set_option maxRecDepth 65536 in
theorem w_t4 : (((words1.drop 24).drop 24).drop 24).all (fun c => isCode c || c.before args0 about1) = true := by decide +kernel
theorem w_tables : (allAtoms (Jvm.Cond.code x code maxLocals ret :: tables_1)).before args0 about1 = true := by
  rw [allAtoms_all]
  show words1.all (fun c => c.before args0 about1) = true
  refine all_split ?_ w_codes
  rw [← List.take_append_drop 24 words1, List.all_append, w_t1, ← List.take_append_drop 24 (words1.drop 24), List.all_append, w_t2, ← List.take_append_drop 24 ((words1.drop 24).drop 24), List.all_append, w_t3, w_t4]
  rfl
set_option maxRecDepth 65536 in
theorem w_case : (Jvm.Cond.and given_1 narrow_1).before args0 about1 = true := by decide +kernel
theorem w_applies : (headSpec (Jvm.Cond.code x code maxLocals ret :: tables_1) room_1).applies x e0.platform about1 = true :=
  (Spec.applies_iff w_frames).mpr ⟨w_running, w_runnable, w_alone, w_named, w_hears, w_ripe, w_room, w_tables⟩
theorem atStart : AtStart classFile x code maxLocals ret World_1 tables_1 room_1 Calls_1 rest_1 Pre_1 launch0 p0 e0 about1 theMethod args0 below0 :=
  ⟨lists_1, trivial, launch0.admits_env _ _ _, launch0.least_env, fairChoices_fair.cas, fairChoices_fair.clock, w_frames, w_args, w_heap, w_applies, trivial, trivial, w_case⟩
end start1
theorem witness_1 : WitnessClaimed_1 := ⟨start1.p0, start1.e0, start1.about1, start1.theMethod, start1.args0, start1.below0, start1.atStart⟩
end Jvm.Pilot.@@N@@
