import JvmDerived
import JvmDerived.Pilot.@@N@@Statement
import JvmDerived.Pilot.@@N@@Code
set_option linter.unusedVariables false
set_option linter.unusedSimpArgs false

namespace Jvm.RoadKit
open Sem ClassFile Op Lib Jvm.Stand Jvm.Free Jvm.LawKit
section New
variable {p : Program} {l : Launch} {e : Env} {R : Room} {s : State} {m : MethodId} {args : Array Value} {below : List Frame} {meth : Method} {c : Code} {T : State} {locs : List Loc} {cells slots : Nat}
theorem retI (X : Stand p l e R s m args below meth c T locs cells slots) (hx : p.tables.exec = Jvm.exec) {pc : Nat} {Ls : Array Slot} {z : Int32} {rest : List Value} (hret : meth.sig.returnType = some .int) (hd : decode c.code pc = .ok (.ireturn, 1)) {fs : List Frame}
    (hl : ∀ (f : JFrame) (acts : List Action), f.method = m → f.locked = none → f.entered = [] → (doReturn e (T.setTop f) acts (some (.int z))).1 = T.setFrames fs) : Steps p.tables e below (T.setTop (mkF m pc Ls (.int z :: rest))) (T.setFrames fs) := by
  have hm' : T.vm.method? m = some meth := X.method'
  have hn : narrow .int (.int z) = .int z := rfl
  show Steps p.tables e below (T.setTop { method := m, pc := pc, locals := Ls, stack := _ :: rest, locked := none }) _
  jvm_step X.here [X.here.top, hx, hd, hm', hret, hn]
  first | (intro acts; rw [hl _ acts rfl rfl rfl]) | rw [hl _ _ rfl rfl rfl]
  exact Steps.refl _
end New
end Jvm.RoadKit

namespace Jvm.Pilot.@@N@@
open Jvm Jvm.ClassFile Sem Op Lib Jvm.Free Jvm.Stand Jvm.LawKit Jvm.RoadKit Bundle Jvm.Pilot.@@N@@.Jvm.D

theorem own_up {p : Program} {l : Launch} {e : Env} {R : Room} {s : State} {m : MethodId} {args : Array Value} {below : List Frame} {meth : Method} {c : Code} {T : State} {locs : List Loc} {cells slots cells' slots' : Nat} (X : Stand p l e R s m args below meth c T locs cells slots) (h1 : cells ≤ cells') (h2 : slots ≤ slots') : Stand p l e R s m args below meth c T locs cells' slots' := { X with same := X.same.mono h1 h2 }
theorem own_ikeep {Z : State} {h h' : Heap} {a : Addr} {C : String} {b : Bool} {ws : List Addr} (F : Ins Z h a C b) (K : Keep h h' ws) : Ins Z h' a C b := by
  obtain ⟨cell, cT, h1, h2, h3⟩ := F
  obtain ⟨c', q1, q2, q3, -⟩ := K.2.2 _ _ h1
  exact ⟨c', cT, q1, h2, by rw [q2, q3]; exact h3⟩

theorem own_wS {a0 : Array Value} {Z : State} (hw : ∀ d ∈ tables_1, d.before a0 Z = true) : ∀ a ∈ Bundle.stringAtoms, a.before a0 Z = true := fun d hd => hw d ((by decide +kernel : ∀ d ∈ Bundle.stringAtoms, d ∈ tables_1) d hd)

theorem own_backC {p : Program} {l : Launch} {e : Env} {R : Room} {s : State} {args : Array Value} {below : List Frame} {Z : State} {a0 : Array Value} {EL : List (String × Nat)} {h : Heap} {vm0 : Vm} {y : MethodName} {bytes : ByteArray} {maxL : Nat} {ret : Option FieldType} {rm : Room} {len W : Nat} {as' : Array Value} {Q : Option Value → Heap → List Loc → Prop}
    (hM : MetFree l y (head1 [Jvm.Cond.code y bytes maxL ret] rm) (fun a U => a = as' ∧ Z.Warmed39 U.vm ∧ U.heap = h ∧ CHv Z EL U.vm h) (fun _ _ _ _ _ => True) (fun _ U o U' => ∃ v L, o = .returned v ∧ Q v U'.heap L ∧ ReturnedEndW U o U' L rm.cells rm.slots))
    (hZ : Z.Warmed39 vm0) (wc : (Jvm.Cond.code y bytes maxL ret).before a0 Z = true) (wz : (Jvm.Cond.initialized y.cls).before a0 Z = true) (hf : rm.frames + 1 ≤ R.frames) (hl : W + (maxL + 11) + rm.locals ≤ R.locals) (hEL : EW Z a0 EL) (H : CHv Z EL vm0 h) :
    BackS l R p e below (s.setVm vm0) args y len W (fun A a => a = as' ∧ A.U.heap = h ∧ A.cells + rm.cells ≤ R.cells ∧ A.slots + rm.slots ≤ R.slots)
      (fun A _ v B => ∃ L, Q v B.U.heap L ∧ B.locs = A.locs ++ L ∧ B.cells = A.cells + rm.cells ∧ B.slots = A.slots + rm.slots) :=
  BackS.of_freeW (E := fun _ _ o t L k n => k = rm.cells ∧ n = rm.slots ∧ ∃ v, o = .returned v ∧ Q v t.heap L) hM hf hl
    (fun m meth c A a Y hp => by
      have hU : Z.Warmed39 A.U.vm := wtrans (s := s.setVm vm0) hZ Y.warmed
      refine ⟨?_, mv hU wc, mv hU wz, hp.2.2.1, hp.2.2.2⟩
      show (Jvm.Cond.and _ .tt).before a A.U = true
      rw [Cond.before_and, mv hU wc]
      rfl)
    (fun m meth c A a g mk Y hp => ⟨hp.1, wtrans (s := s.setVm vm0) hZ Y.warmed, hp.2.1, (CHv.at Y hZ hEL H).1⟩) (fun _ _ _ _ _ _ _ _ _ => trivial)
    (fun _ _ _ _ hq => by
      obtain ⟨v, L, h1, h2, h3⟩ := hq
      exact ⟨L, _, _, h3, rfl, rfl, v, h1, h2⟩)
    (fun m meth c A a g mk v t L k n Y hp _ _ hq => by
      obtain ⟨e1, e2, v', e3, e4⟩ := hq
      cases e3
      subst e1 e2
      exact ⟨L, e4, rfl, rfl, rfl⟩)

/-- an array in function form: n places, f i at the place i -/
def AF (Z : State) (h : Heap) (a : Addr) (k : ClassId) (ty : FieldType) (n : Nat) (f : Nat → Value) : Prop := ∃ c : Cell, Arr Z h a c ty ∧ c.cls = k ∧ c.slots.size = n ∧ ∀ j, j < n → c.slots[j]? = some (f j)
def own_upd (f : Nat → Value) (i : Nat) (v : Value) : Nat → Value := fun j => if j = i then v else f j
theorem own_upd_eq (f : Nat → Value) (i : Nat) (v : Value) : own_upd f i v i = v := if_pos rfl
theorem own_upd_ne (f : Nat → Value) {i j : Nat} (v : Value) (h : j ≠ i) : own_upd f i v j = f j := if_neg h
theorem AF.lt {Z : State} {h : Heap} {a : Addr} {k : ClassId} {ty : FieldType} {n : Nat} {f : Nat → Value} (F : AF Z h a k ty n f) : a < h.size := by obtain ⟨c, A, -⟩ := F; exact A.lt
theorem AF.ext {Z : State} {h h' : Heap} {a : Addr} {k : ClassId} {ty : FieldType} {n : Nat} {f : Nat → Value} (F : AF Z h a k ty n f) (E : Ext h h') : AF Z h' a k ty n f := by obtain ⟨c, A, r⟩ := F; exact ⟨c, A.ext E, r⟩
theorem AF.other {Z : State} {h h' : Heap} {a b : Addr} {sl : Nat} {v : Value} {k : ClassId} {ty : FieldType} {n : Nat} {f : Nat → Value} (F : AF Z h a k ty n f) (W : Wr h h' b sl v) (q : a ≠ b) : AF Z h' a k ty n f := by obtain ⟨c, A, r⟩ := F; exact ⟨c, A.other W q, r⟩
theorem AF.keep {Z : State} {h h' : Heap} {a : Addr} {ws : List Addr} {k : ClassId} {ty : FieldType} {n : Nat} {f : Nat → Value} (F : AF Z h a k ty n f) (K : Keep h h' ws) (q : a ∉ ws) : AF Z h' a k ty n f := by obtain ⟨c, A, r⟩ := F; exact ⟨c, ⟨K.2.1 a c A.1 q, A.2⟩, r⟩
theorem AF.new {Z : State} {h : Heap} {a : Addr} {k : ClassId} {ty : FieldType} {z : Int32} {n : Nat} (A : Arr Z h a (newA k ty z) ty) (hz : z.toNatClampNeg = n) : AF Z h a k ty n (fun _ => defaultValue ty) := by
  refine ⟨_, A, rfl, (sz_new _ _ _).trans hz, fun j hj => ?_⟩
  have hj' : j < z.toNatClampNeg := by rw [hz]; exact hj
  rw [show (newA k ty z).slots = Array.replicate z.toNatClampNeg (defaultValue ty) from rfl, Array.getElem?_replicate, if_pos hj']
theorem AF.of_arv {Z : State} {h : Heap} {a : Addr} {k : ClassId} {ty : FieldType} {z : Int32} {vs : List Value} {d : Value} {n : Nat} (F : Arv Z h a k ty z vs d) (hz : z.toNatClampNeg = n) : AF Z h a k ty n (fun j => vs.getD j d) := by
  obtain ⟨c, A, q, S, -, H, -⟩ := F
  exact ⟨c, A, q, S.trans hz, fun j hj => H j (by rw [S, hz]; exact hj)⟩
theorem AF.congr {Z : State} {h : Heap} {a : Addr} {k : ClassId} {ty : FieldType} {n : Nat} {f g : Nat → Value} (F : AF Z h a k ty n f) (q : ∀ j, j < n → f j = g j) : AF Z h a k ty n g := by obtain ⟨c, A, r, s, H⟩ := F; exact ⟨c, A, r, s, fun j hj => by rw [← q j hj]; exact H j hj⟩
theorem own_ix {i : Nat} (h : i < 2147483648) : ¬ (Nat.toInt32 i) < 0 ∧ (Nat.toInt32 i).toNatClampNeg = i := by
  have e : (Nat.toInt32 i).toInt = i := len_toInt h
  refine ⟨fun q => ?_, ?_⟩
  · rw [Int32.lt_iff_toInt_lt, e] at q
    have z : (0 : Int32).toInt = 0 := by decide
    omega
  · simp only [Int32.toNatClampNeg, e]
    rfl
theorem AF.inb {c : Cell} {n i : Nat} {j : Int32} (S : c.slots.size = n) (hj : ¬ j < 0 ∧ j.toNatClampNeg = i) (hi : i < n) : ¬ (j < 0 ∨ c.slots.size ≤ j.toNatClampNeg) := fun q => by
  rcases q with q | q
  · exact hj.1 q
  · rw [S, hj.2] at q; omega
theorem AF.at {c : Cell} {n i : Nat} {f : Nat → Value} {j : Int32} {v : Value} (H : ∀ j, j < n → c.slots[j]? = some (f j)) (hj : ¬ j < 0 ∧ j.toNatClampNeg = i) (hi : i < n) (hv : f i = v) : c.slots[j.toNatClampNeg]? = some v := by rw [hj.2, H i hi, hv]
theorem AF.set {Z : State} {h h' : Heap} {a : Addr} {c : Cell} {k : ClassId} {ty : FieldType} {n i : Nat} {f : Nat → Value} {j : Int32} {v : Value} (A : Arr Z h a c ty) (q : c.cls = k) (S : c.slots.size = n) (H : ∀ j, j < n → c.slots[j]? = some (f j)) (W : Wr h h' a j.toNatClampNeg v) (hj : ¬ j < 0 ∧ j.toNatClampNeg = i) (hi : i < n) : AF Z h' a k ty n (own_upd f i v) := by
  refine ⟨_, A.same W, q, by rw [sz_set]; exact S, fun y hy => ?_⟩
  rw [hj.2]
  simp only [Cell.setSlot, Array.getElem?_setIfInBounds]
  by_cases e : y = i
  · subst e
    have : y < c.slots.size := by rw [S]; exact hy
    simp [own_upd, this]
  · rw [if_neg (fun z => e z.symm), H y hy, own_upd_ne f v e]
theorem own_bb (x : Int32) : x.toInt8.toInt32.toInt8.toInt32 = x.toInt8.toInt32 := by simp
theorem own_nb (x : Int32) : nar .byte x.toInt8.toInt32 = x.toInt8.toInt32 := own_bb x
theorem own_loop {G : Prop} {A : Nat → Prop} (hs : ∀ k, (A k → G) → A (k + 1) → G) (he : A 0 → G) : ∀ k, A k → G
  | 0, h => he h
  | k + 1, h => hs k (own_loop hs he k) h
theorem own_ti {i : Nat} (h : i < 2147483648) : (Nat.toInt32 i).toInt = i := len_toInt h
theorem own_inc {i : Nat} (h : i + 1 < 2147483648) : (Nat.toInt32 i) + (1 : Int32) = (Nat.toInt32 (i + 1)) := by
  rw [← Int32.toInt_inj, own_ti h]
  have e := own_ti (i := i) (by omega)
  have q := c_iadd (Nat.toInt32 i) 1
  have r := rng32 (Nat.toInt32 i + 1)
  have o : (1 : Int32).toInt = 1 := by decide
  omega
theorem own_dbl {i : Nat} (h : 2 * i < 2147483648) : ((Nat.toInt32 i) <<< ((1 : Int32) &&& 31)) = (Nat.toInt32 (2 * i)) := by
  rw [← Int32.toInt_inj, own_ti h]
  have e := own_ti (i := i) (by omega)
  have q := c_ishl (Nat.toInt32 i) 1 1 (by decide)
  have r := rng32 ((Nat.toInt32 i) <<< ((1 : Int32) &&& 31))
  omega
theorem own_hlf {i : Nat} (h : 2 * i < 2147483648) : ((Nat.toInt32 (2 * i)) >>> ((1 : Int32) &&& 31)) = (Nat.toInt32 i) := by
  rw [← Int32.toInt_inj, own_ti (by omega), c_ishr _ 1 1 (by decide), own_ti h]
  omega
theorem own_lt {i j : Nat} (hi : i < 2147483648) (hj : j < 2147483648) : (Nat.toInt32 i) < (Nat.toInt32 j) ↔ i < j := by
  rw [Int32.lt_iff_toInt_lt, own_ti hi, own_ti hj]
  omega
theorem own_eqn {i j : Nat} (hi : i < 2147483648) (hj : j < 2147483648) : (Nat.toInt32 i) = (Nat.toInt32 j) ↔ i = j := by
  rw [← Int32.toInt_inj, own_ti hi, own_ti hj]
  omega

def own_b0 (c : Int32) : Int32 := (c >>> ((0 : Int32) &&& 31)).toInt8.toInt32
def own_b1 (c : Int32) : Int32 := (c >>> ((8 : Int32) &&& 31)).toInt8.toInt32
def own_u (cs : List Int32) : Prop := ∀ j, 0 ≤ (cs.getD j 0).toInt ∧ (cs.getD j 0).toInt ≤ 65535
def own_gc (x0 x1 : Int32) : Int32 := nar .char ((((x0 &&& (255 : Int32)) <<< ((0 : Int32) &&& 31)) ||| ((x1 &&& (255 : Int32)) <<< ((8 : Int32) &&& 31))).toUInt32.toUInt16.toUInt32.toInt32)
def own_lc (x : Int32) : Int32 := nar .char ((x &&& (255 : Int32)).toUInt32.toUInt16.toUInt32.toInt32)
theorem own_nch {c : Int32} (h0 : 0 ≤ c.toInt) (h1 : c.toInt ≤ 65535) : nar .char c = c := by
  have q := c_i2c c
  rw [← Int32.toInt_inj]
  show c.toUInt32.toUInt16.toUInt32.toInt32.toInt = c.toInt
  omega
theorem own_lc_b {c : Int32} (h0 : 0 ≤ c.toInt) (h1 : c.toInt ≤ 255) : own_lc c.toInt8.toInt32 = c := by
  have e1 := c_mask c.toInt8.toInt32 255 8 (by decide) (by decide)
  have e2 := c_i2b c
  have e3 := c_i2c (c.toInt8.toInt32 &&& (255 : Int32))
  have e4 : (c.toInt8.toInt32 &&& (255 : Int32)).toUInt32.toUInt16.toUInt32.toInt32 = c := by
    rw [← Int32.toInt_inj]
    omega
  unfold own_lc
  rw [e4]
  exact own_nch h0 (by omega)
theorem own_gc_b {c : Int32} (h0 : 0 ≤ c.toInt) (h1 : c.toInt ≤ 65535) : own_gc (own_b0 c) (own_b1 c) = c := by
  have s0 := c_ishr c 0 0 (by decide)
  have s1 := c_ishr c 8 8 (by decide)
  have b0 := c_i2b (c >>> ((0 : Int32) &&& 31))
  have b1 := c_i2b (c >>> ((8 : Int32) &&& 31))
  have m0 := c_mask (own_b0 c) 255 8 (by decide) (by decide)
  have m1 := c_mask (own_b1 c) 255 8 (by decide) (by decide)
  have l0 := c_ishl (own_b0 c &&& (255 : Int32)) 0 0 (by decide)
  have l1 := c_ishl (own_b1 c &&& (255 : Int32)) 8 8 (by decide)
  have d0 : (own_b0 c).toInt = (c >>> ((0 : Int32) &&& 31)).toInt8.toInt32.toInt := rfl
  have d1 : (own_b1 c).toInt = (c >>> ((8 : Int32) &&& 31)).toInt8.toInt32.toInt := rfl
  have r0 := rng32 ((own_b0 c &&& (255 : Int32)) <<< ((0 : Int32) &&& 31))
  have r1 := rng32 ((own_b1 c &&& (255 : Int32)) <<< ((8 : Int32) &&& 31))
  have o := c_or' ((own_b0 c &&& (255 : Int32)) <<< ((0 : Int32) &&& 31)) ((own_b1 c &&& (255 : Int32)) <<< ((8 : Int32) &&& 31)) 8 (by decide) 256 (by decide) (by omega) (by omega) (by omega)
  have r2 := rng32 (((own_b0 c &&& (255 : Int32)) <<< ((0 : Int32) &&& 31)) ||| ((own_b1 c &&& (255 : Int32)) <<< ((8 : Int32) &&& 31)))
  have e := c_i2c (((own_b0 c &&& (255 : Int32)) <<< ((0 : Int32) &&& 31)) ||| ((own_b1 c &&& (255 : Int32)) <<< ((8 : Int32) &&& 31)))
  have e4 : ((((own_b0 c &&& (255 : Int32)) <<< ((0 : Int32) &&& 31)) ||| ((own_b1 c &&& (255 : Int32)) <<< ((8 : Int32) &&& 31))).toUInt32.toUInt16.toUInt32.toInt32) = c := by
    rw [← Int32.toInt_inj]
    omega
  unfold own_gc
  rw [e4]
  exact own_nch h0 h1
theorem own_sh0 (x : Int32) : x >>> ((0 : Int32) &&& 31) = x := by
  rw [← Int32.toInt_inj, c_ishr x 0 0 (by decide)]
  omega
theorem own_cd (x : Int32) : (nar .byte ((x.toUInt32 >>> ((31 : Int32) &&& 31).toUInt32).toInt32).toInt8.toInt32) = if x.toInt < 0 then 1 else 0 := by
  have r := rng32 x
  have q := c_iushr x 31 31 (by decide) (by decide)
  have b := c_i2b ((x.toUInt32 >>> ((31 : Int32) &&& 31).toUInt32).toInt32)
  have n : (nar .byte ((x.toUInt32 >>> ((31 : Int32) &&& 31).toUInt32).toInt32).toInt8.toInt32) = ((x.toUInt32 >>> ((31 : Int32) &&& 31).toUInt32).toInt32).toInt8.toInt32 := own_bb _
  rw [n, ← Int32.toInt_inj]
  split
  · show _ = (1 : Int32).toInt
    have : (1 : Int32).toInt = 1 := by decide
    omega
  · show _ = (0 : Int32).toInt
    have : (0 : Int32).toInt = 0 := by decide
    omega
theorem own_cd0 {n : Nat} : (nar .byte (((Nat.toInt32 n - Nat.toInt32 n).toUInt32 >>> ((31 : Int32) &&& 31).toUInt32).toInt32).toInt8.toInt32) = 0 := by
  rw [own_cd, Int32.sub_self]
  decide
theorem own_cd1 {n : Nat} (h0 : 0 < n) (h : 2 * n < 2147483648) : (nar .byte (((Nat.toInt32 n - Nat.toInt32 (2 * n)).toUInt32 >>> ((31 : Int32) &&& 31).toUInt32).toInt32).toInt8.toInt32) = 1 := by
  have e1 := own_ti (i := n) (by omega)
  have e2 := own_ti h
  have q := c_isub (Nat.toInt32 n) (Nat.toInt32 (2 * n))
  have r := rng32 (Nat.toInt32 n - Nat.toInt32 (2 * n))
  rw [own_cd, if_pos (by omega)]
def own_L (cs : List Int32) (f : Nat → Value) : Prop := ∀ j, j < cs.length → f j = .int (cs.getD j 0).toInt8.toInt32 ∧ (cs.getD j 0).toInt ≤ 255
def own_U (cs : List Int32) (f : Nat → Value) : Prop := ∀ j, j < cs.length → f (2 * j) = .int (own_b0 (cs.getD j 0)) ∧ f (2 * j + 1) = .int (own_b1 (cs.getD j 0))
def own_UC (cs : List Int32) (f : Nat → Value) : Prop := own_U cs f ∧ ∃ i, i < cs.length ∧ (255 : Int32) < cs.getD i 0
def SW (Z : State) (co : Int32) (vf : Value) : Prop := Sta Z Z.heap "java/lang/String" "COMPACT_STRINGS" "Z" (.int co) ∧ (¬ co = (0 : Int32)) ∧ Sta Z Z.heap "java/lang/StringUTF16" "$assertionsDisabled" "Z" (.int (1 : Int32)) ∧ Sta Z Z.heap "java/lang/StringUTF16" "HI_BYTE_SHIFT" "I" (.int (0 : Int32)) ∧ Sta Z Z.heap "java/lang/StringUTF16" "LO_BYTE_SHIFT" "I" (.int (8 : Int32)) ∧ Sta Z Z.heap "jdk/internal/util/Preconditions" "SIOOBE_FORMATTER" "Ljava/util/function/BiFunction;" vf ∧ vf.category = 1
def SV (Z : State) (h : Heap) (b : Addr) (cs : List Int32) (k : ClassId) (f : Nat → Value) (cd : Int32) : Prop := (cd = 0 ∧ AF Z h b k .byte cs.length f ∧ own_L cs f) ∨ (cd = 1 ∧ AF Z h b k .byte (2 * cs.length) f ∧ own_UC cs f)
/-- a String of the chars cs: Latin-1 or UTF-16 -/
def SS (Z : State) (h : Heap) (s : Addr) (cs : List Int32) (b : Addr) (k : ClassId) (f : Nat → Value) (cd : Int32) : Prop := Exa Z h s "java/lang/String" ∧ Fld Z h s "java/lang/String" "value" "[B" (.ref b) ∧ Fld Z h s "java/lang/String" "coder" "B" (.int cd) ∧ SV Z h b cs k f cd
def QN (h0 : Heap) (n0 : Nat) (v : Option Value) (h : Heap) (L : List Loc) : Prop := v = none ∧ Fr n0 L ∧ h = h0
def QI (x : Int32) (h0 : Heap) (n0 : Nat) (v : Option Value) (h : Heap) (L : List Loc) : Prop := v = some (.int x) ∧ Fr n0 L ∧ h = h0
def QAF (Z : State) (a : Addr) (k : ClassId) (ty : FieldType) (m : Nat) (f : Nat → Value) (h0 : Heap) (n0 : Nat) (v : Option Value) (h : Heap) (L : List Loc) : Prop := v = none ∧ Fr n0 L ∧ Keep h0 h [a] ∧ AF Z h a k ty m f
def QNA (Z : State) (m : Nat) (P : (Nat → Value) → Prop) (h0 : Heap) (n0 : Nat) (v : Option Value) (h : Heap) (L : List Loc) : Prop := ∃ (r : Addr) (k : ClassId) (f : Nat → Value), v = some (.ref r) ∧ Fr n0 L ∧ Keep h0 h [] ∧ h0.size ≤ r ∧ AF Z h r k .byte m f ∧ P f
def QC5 (Z : State) (cs : List Int32) (da : Addr) (kd : ClassId) (h0 : Heap) (n0 : Nat) (v : Option Value) (h : Heap) (L : List Loc) : Prop := (∃ f : Nat → Value, v = some (.int (Nat.toInt32 cs.length)) ∧ Fr n0 L ∧ Keep h0 h [da] ∧ AF Z h da kd .byte cs.length f ∧ own_L cs f) ∨ (∃ i : Nat, v = some (.int (Nat.toInt32 i)) ∧ Fr n0 L ∧ Keep h0 h [da] ∧ i < cs.length ∧ (255 : Int32) < cs.getD i 0)
def QC3 (Z : State) (cs : List Int32) (h0 : Heap) (n0 : Nat) (v : Option Value) (h : Heap) (L : List Loc) : Prop := (∃ (r : Addr) (k : ClassId) (f : Nat → Value), v = some (.ref r) ∧ Fr n0 L ∧ Keep h0 h [] ∧ h0.size ≤ r ∧ AF Z h r k .byte cs.length f ∧ own_L cs f) ∨ (∃ (r : Addr) (k : ClassId) (f : Nat → Value), v = some (.ref r) ∧ Fr n0 L ∧ Keep h0 h [] ∧ h0.size ≤ r ∧ AF Z h r k .byte (2 * cs.length) f ∧ own_UC cs f)
def QST (Z : State) (a : Addr) (cs : List Int32) (h0 : Heap) (n0 : Nat) (v : Option Value) (h : Heap) (L : List Loc) : Prop := v = none ∧ Fr n0 L ∧ Keep h0 h [a] ∧ ∃ (b : Addr) (k : ClassId) (f : Nat → Value) (cd : Int32), SS Z h a cs b k f cd
theorem own_Lstep {cs : List Int32} {i : Nat} {f : Nat → Value} (H : ∀ j, j < i → f j = .int (cs.getD j 0).toInt8.toInt32 ∧ (cs.getD j 0).toInt ≤ 255) (hc : ¬ (255 : Int32) < cs.getD i 0) : ∀ j, j < i + 1 → own_upd f i (.int (cs.getD i 0).toInt8.toInt32) j = .int (cs.getD j 0).toInt8.toInt32 ∧ (cs.getD j 0).toInt ≤ 255 := fun j hj => by
  by_cases e : j = i
  · subst e
    rw [Int32.lt_iff_toInt_lt] at hc
    have e : (255 : Int32).toInt = 255 := by decide
    exact ⟨own_upd_eq _ _ _, by omega⟩
  · rw [own_upd_ne _ _ e]
    exact H j (by omega)
theorem own_Ustep {cs : List Int32} {i : Nat} {f : Nat → Value} (H : ∀ j, j < i → f (2 * j) = .int (own_b0 (cs.getD j 0)) ∧ f (2 * j + 1) = .int (own_b1 (cs.getD j 0))) : ∀ j, j < i + 1 → own_upd (own_upd f (2 * i) (.int (own_b0 (cs.getD i 0)))) (2 * i + 1) (.int (own_b1 (cs.getD i 0))) (2 * j) = .int (own_b0 (cs.getD j 0)) ∧ own_upd (own_upd f (2 * i) (.int (own_b0 (cs.getD i 0)))) (2 * i + 1) (.int (own_b1 (cs.getD i 0))) (2 * j + 1) = .int (own_b1 (cs.getD j 0)) := fun j hj => by
  by_cases e : j = i
  · subst e
    exact ⟨by rw [own_upd_ne _ _ (by omega), own_upd_eq], own_upd_eq _ _ _⟩
  · obtain ⟨q1, q2⟩ := H j (by omega)
    exact ⟨by rw [own_upd_ne _ _ (by omega), own_upd_ne _ _ (by omega)]; exact q1, by rw [own_upd_ne _ _ (by omega), own_upd_ne _ _ (by omega)]; exact q2⟩
theorem own_getD (cs : List Int32) (j : Nat) : (cs.map Value.int).getD j (.int 0) = .int (cs.getD j 0) := by
  simp only [List.getD_eq_getElem?_getD, List.getElem?_map]
  cases cs[j]? <;> rfl

theorem own_EW {a0 : Array Value} {Z : State} (hw : ∀ d ∈ tables_1, d.before a0 Z = true) : EW Z a0 consts_1 := EW.cons (hw _ (List.mem_of_getElem? (i := 104) rfl)) (by decide) EW.nil
def own_mu (c : Int32) : Int32 := if c = 0 then (if c < 2048 then 2 else 3) else if c < 128 then 1 else if c < 2048 then 2 else 3
def own_bo (c : Int32) : Int32 := if c = 0 then 2 else if (127 : Int32) < c then (if (2047 : Int32) < c then 3 else 2) else 1
theorem own_mb (c : Int32) : own_mu c = own_bo c := by
  have e1 : (128 : Int32).toInt = 128 := by decide
  have e2 : (2048 : Int32).toInt = 2048 := by decide
  have e3 : (127 : Int32).toInt = 127 := by decide
  have e4 : (2047 : Int32).toInt = 2047 := by decide
  have q1 : c < 128 ↔ ¬ (127 : Int32) < c := by
    rw [Int32.lt_iff_toInt_lt, Int32.lt_iff_toInt_lt]
    omega
  have q2 : c < 2048 ↔ ¬ (2047 : Int32) < c := by
    rw [Int32.lt_iff_toInt_lt, Int32.lt_iff_toInt_lt]
    omega
  unfold own_mu own_bo
  by_cases h0 : c = 0
  · subst h0
    decide
  · by_cases h1 : (127 : Int32) < c <;> by_cases h2 : (2047 : Int32) < c <;> simp [h0, q1, q2, h1, h2]
def own_sum (cs : List Int32) : Nat → Int32
  | 0 => 0
  | i + 1 => own_sum cs i + own_mu (cs.getD i 0)
def own_c16 (c : Int32) : Prop := 0 ≤ c.toInt ∧ c.toInt ≤ 65535
theorem own_chr (x : Int32) : own_c16 (x.toUInt32.toUInt16.toUInt32.toInt32) := by
  have q := c_i2c x
  exact ⟨by omega, by omega⟩
theorem own_nc {c : Int32} (h : own_c16 c) : nar .char c = c := own_nch h.1 h.2
theorem own_fc {c : Int32} (h : own_c16 c) : fits .char (.int c) = true := by
  have := fits_nar_char c
  rwa [own_nc h] at this
theorem own_u0 : own_u [] := fun j => by simp
theorem own_u1 {c : Int32} {cs : List Int32} (h : own_c16 c) (r : own_u cs) : own_u (c :: cs) := fun j => by
  cases j with
  | zero => exact h
  | succ j => exact r j
theorem own_k5 (x : Int32) : (x &&& 2147483647) % 5 = 0 ∨ (x &&& 2147483647) % 5 = 1 ∨ (x &&& 2147483647) % 5 = 2 ∨ (x &&& 2147483647) % 5 = 3 ∨ (x &&& 2147483647) % 5 = 4 := by
  have h1 := (c_and x 2147483647 (by decide)).1
  have h2 := (c_irem (x &&& 2147483647) 5 5 (by decide)).1 h1
  simp only [← Int32.toInt_inj]
  have e0 : (0 : Int32).toInt = 0 := by decide
  have e1 : (1 : Int32).toInt = 1 := by decide
  have e2 : (2 : Int32).toInt = 2 := by decide
  have e3 : (3 : Int32).toInt = 3 := by decide
  have e4 : (4 : Int32).toInt = 4 := by decide
  omega

theorem own_fin0 : own_sum [] ([] : List Int32).length = (0 : Int32) := by
  show (0 : Int32) = _
  simp only [own_mb]

theorem own_fin1 {c0 : Int32} : own_sum [c0] ([c0] : List Int32).length = (own_bo c0) := by
  show (0 : Int32) + own_mu c0 = _
  simp only [own_mb]
  rw [Int32.zero_add]

theorem own_fin2 {c0 c1 : Int32} : own_sum [c0, c1] ([c0, c1] : List Int32).length = ((own_bo c0) + (own_bo c1)) := by
  show (0 : Int32) + own_mu c0 + own_mu c1 = _
  simp only [own_mb]
  rw [Int32.zero_add]

theorem own_fin3 {c0 c1 c2 : Int32} : own_sum [c0, c1, c2] ([c0, c1, c2] : List Int32).length = (((own_bo c0) + (own_bo c1)) + (own_bo c2)) := by
  show (0 : Int32) + own_mu c0 + own_mu c1 + own_mu c2 = _
  simp only [own_mb]
  rw [Int32.zero_add]

theorem own_fin4 {c0 c1 c2 c3 : Int32} : own_sum [c0, c1, c2, c3] ([c0, c1, c2, c3] : List Int32).length = ((((own_bo c0) + (own_bo c1)) + (own_bo c2)) + (own_bo c3)) := by
  show (0 : Int32) + own_mu c0 + own_mu c1 + own_mu c2 + own_mu c3 = _
  simp only [own_mb]
  rw [Int32.zero_add]

theorem d19_0 : decode jdk_52_method_3_code 0 = .ok (.iload_n 0, 1) := by decide +kernel
theorem d19_1 : decode jdk_52_method_3_code 1 = .ok (.ifCond .ge 11, 3) := by decide +kernel
theorem d19_12 : decode jdk_52_method_3_code 12 = .ok (.iload_n 0, 1) := by decide +kernel
theorem d19_13 : decode jdk_52_method_3_code 13 = .ok (.ldc 20, 2) := by decide +kernel
theorem d19_15 : decode jdk_52_method_3_code 15 = .ok (.if_icmp .lt 40, 3) := by decide +kernel
theorem d19_55 : decode jdk_52_method_3_code 55 = .ok (.iload_n 0, 1) := by decide +kernel
theorem d19_56 : decode jdk_52_method_3_code 56 = .ok (.iconst 1, 1) := by decide +kernel
theorem d19_57 : decode jdk_52_method_3_code 57 = .ok (.ishl, 1) := by decide +kernel
theorem d19_58 : decode jdk_52_method_3_code 58 = .ok (.ireturn, 1) := by decide +kernel
theorem pn_java_lang_StringUTF16 : plainName "java/lang/StringUTF16" = true := by first | (simp [plainName, overriddenIn]; done) | decide +kernel
theorem ef_19 (m : MethodId) (x0 : Int32) : entryFrame m #[(.int x0)] 1 = mkF m 0 #[.val (.int x0)] [] := by first | (simp [entryFrame, mkF, argsToLocals, Value.category]; done) | rfl
set_option maxRecDepth 65536 in
set_option maxHeartbeats 40000000 in
theorem rm19 (l : Launch) (Z : State) (a0 : Array Value) (hw : ∀ d ∈ tables_1, d.before a0 Z = true) (ws : List Jvm.Cond) (n : Nat) (h0 : Heap) (n0 : Nat) (O0 : Old Z n0 h0) (hn : n ≤ 4) :
    MetFree l (⟨"java/lang/StringUTF16", "newBytesLength", "(I)I"⟩ : MethodName) (head1 (Jvm.Cond.code (⟨"java/lang/StringUTF16", "newBytesLength", "(I)I"⟩ : MethodName) jdk_52_method_3_code 1 (some .int) :: ws) ({ frames := 0, cells := 0, slots := 0, locals := 0 } : Room)) (fun aQ U => aQ = #[(.int (Nat.toInt32 n))] ∧ Z.Warmed39 U.vm ∧ U.heap = h0) (fun _ _ _ _ _ => True) (fun _ U o U' => ∃ v L, o = .returned v ∧ QI (Nat.toInt32 (2 * n)) h0 n0 v U'.heap L ∧ FrameEnd U o U' L ({ frames := 0, cells := 0, slots := 0, locals := 0 } : Room).cells ({ frames := 0, cells := 0, slots := 0, locals := 0 } : Room).slots) := by
  refine MetFree.of_bodySF (plainFor_of_name pn_java_lang_StringUTF16) hisR ?_
  intro p e s m args below meth kode s₁ Bd hml0 hP hK
  obtain ⟨rfl, hZ, hh⟩ := hP
  have hx := Bd.exec
  have hby := Bd.bytes
  have hml : kode.maxLocals = 1 := hml0
  have hown : s.vm.findClass "java/lang/StringUTF16" = some m.cls := findClass_of_methodNamed Bd.named
  have hnm := (name_of_methodNamed Bd.named Bd.method).1
  have X0 : Stand p l e ({ frames := 0, cells := 0, slots := 0, locals := 0 } : Room) s m #[(.int (Nat.toInt32 n))] below meth kode s₁ [] 0 0 := Stand.of_body Bd
  have e0 : s₁.heap = h0 := by rw [← hh, Bd.state]; rfl
  have N0 := Fr.nil n0
  have pre0 : ∀ t, Steps p.tables e below (s₁.setTop (mkF m 0 #[.val (.int (Nat.toInt32 n))] [])) t → Steps p.tables e below (s₁.setTop (entryFrame m #[(.int (Nat.toInt32 n))] 1)) t := fun t k => castTop (ef_19 m (Nat.toInt32 n)) k
  have hn31 : n < 2147483648 := by omega
  have cn1 := fun (t : State) (kt : Steps p.tables e below (s₁.setTop (mkF m 1 #[.val (.int (Nat.toInt32 n))] [(.int (Nat.toInt32 n))])) t) => pre0 t (by
    refine XS.iloadN X0.here hx rfl (hb hby d19_0) rfl ?_
    show Steps p.tables e below (s₁.setTop (mkF m 1 #[.val (.int (Nat.toInt32 n))] [(.int (Nat.toInt32 n))])) _
    exact kt)
  have cn2 := fun (t : State) (kt : Steps p.tables e below (s₁.setTop (mkF m 15 #[.val (.int (Nat.toInt32 n))] [(.int (1073741823 : Int32)), (.int (Nat.toInt32 n))])) t) => cn1 t (by
    refine XS.ifYes X0.here hx rfl (pc0 := 1) (pc' := 12) rfl (hb hby d19_1) rfl ((if0 _ _).trans (flt (own_ix hn31).1).2.1) (by decide) (by decide) ?_
    show Steps p.tables e below (s₁.setTop (mkF m 12 #[.val (.int (Nat.toInt32 n))] [])) _
    refine XS.iloadN X0.here hx rfl (hb hby d19_12) rfl ?_
    show Steps p.tables e below (s₁.setTop (mkF m 13 #[.val (.int (Nat.toInt32 n))] [(.int (Nat.toInt32 n))])) _
    refine X0.ldcInt hx hown (mvT hZ (hw _ (List.mem_of_getElem? (i := 84) rfl))) (g := (mkF m 13 #[.val (.int (Nat.toInt32 n))] [(.int (Nat.toInt32 n))])) rfl (hb hby d19_13) _ ?_
    show Steps p.tables e below (s₁.setTop (mkF m 15 #[.val (.int (Nat.toInt32 n))] [(.int (1073741823 : Int32)), (.int (Nat.toInt32 n))])) _
    exact kt)
  have cn3 := fun (t : State) (kt : Steps p.tables e below (s₁.setTop (mkF m 58 #[.val (.int (Nat.toInt32 n))] [(.int ((Nat.toInt32 n) <<< ((1 : Int32) &&& 31)))])) t) => cn2 t (by
    refine XS.icmpYes X0.here hx rfl (pc0 := 15) (pc' := 55) rfl (hb hby d19_15) rfl (tlt ((own_lt (j := 1073741823) hn31 (by decide)).mpr (by omega))).1 (by decide) (by decide) ?_
    show Steps p.tables e below (s₁.setTop (mkF m 55 #[.val (.int (Nat.toInt32 n))] [])) _
    refine XS.iloadN X0.here hx rfl (hb hby d19_55) rfl ?_
    show Steps p.tables e below (s₁.setTop (mkF m 56 #[.val (.int (Nat.toInt32 n))] [(.int (Nat.toInt32 n))])) _
    refine XS.iconst X0.here hx rfl (hb hby d19_56) ?_
    show Steps p.tables e below (s₁.setTop (mkF m 57 #[.val (.int (Nat.toInt32 n))] [(.int (1 : Int32)), (.int (Nat.toInt32 n))])) _
    refine XS.ishl X0.here hx rfl (hb hby d19_57) rfl ?_
    show Steps p.tables e below (s₁.setTop (mkF m 58 #[.val (.int (Nat.toInt32 n))] [(.int ((Nat.toInt32 n) <<< ((1 : Int32) &&& 31)))])) _
    exact kt)
  obtain ⟨frs, hr, hrun, hended, hW, hsame⟩ := X0.leave (v := some (.int ((Nat.toInt32 n) <<< ((1 : Int32) &&& 31)))) (fun h => by rw [Bd.returns] at h; cases h)
  refine ⟨_, _, cn3 _ ?_, hrun, hended, _, _, rfl, ?_, ⟨_, rfl⟩, hW, hsame.mono (by decide) (by decide)⟩
  · exact retI X0 hx Bd.returns (hb hby d19_58) hr
  · show QI (Nat.toInt32 (2 * n)) h0 n0 _ s₁.heap _
    rw [e0]
    exact ⟨by rw [own_dbl (by omega)], N0, rfl⟩

theorem d18_0 : decode jdk_52_method_2_code 0 = .ok (.iload_n 0, 1) := by decide +kernel
theorem d18_1 : decode jdk_52_method_2_code 1 = .ok (.invokestatic 11, 3) := by decide +kernel
theorem d18_4 : decode jdk_52_method_2_code 4 = .ok (.newarray .byte, 2) := by decide +kernel
theorem d18_6 : decode jdk_52_method_2_code 6 = .ok (.areturn, 1) := by decide +kernel
theorem pd_0 : parseMethodDescriptor "(I)I" = some ⟨[.int], some .int⟩ := by decide +kernel
theorem ef_18 (m : MethodId) (x0 : Int32) : entryFrame m #[(.int x0)] 1 = mkF m 0 #[.val (.int x0)] [] := by first | (simp [entryFrame, mkF, argsToLocals, Value.category]; done) | rfl
set_option maxRecDepth 65536 in
set_option maxHeartbeats 40000000 in
theorem rm18 (l : Launch) (Z : State) (a0 : Array Value) (hw : ∀ d ∈ tables_1, d.before a0 Z = true) (ws : List Jvm.Cond) (n : Nat) (h0 : Heap) (n0 : Nat) (O0 : Old Z n0 h0) (hn : n ≤ 4) :
    MetFree l (⟨"java/lang/StringUTF16", "newBytesFor", "(I)[B"⟩ : MethodName) (head1 (Jvm.Cond.code (⟨"java/lang/StringUTF16", "newBytesFor", "(I)[B"⟩ : MethodName) jdk_52_method_2_code 1 (some (.array .byte)) :: ws) ({ frames := 1, cells := 1, slots := 8, locals := 12 } : Room)) (fun aQ U => aQ = #[(.int (Nat.toInt32 n))] ∧ Z.Warmed39 U.vm ∧ U.heap = h0) (fun _ _ _ _ _ => True) (fun _ U o U' => ∃ v L, o = .returned v ∧ QNA Z (2 * n) (fun f => ∀ j, f j = .int 0) h0 n0 v U'.heap L ∧ FrameEnd U o U' L ({ frames := 1, cells := 1, slots := 8, locals := 12 } : Room).cells ({ frames := 1, cells := 1, slots := 8, locals := 12 } : Room).slots) := by
  refine MetFree.of_bodySF (plainFor_of_name pn_java_lang_StringUTF16) hisR ?_
  intro p e s m args below meth kode s₁ Bd hml0 hP hK
  obtain ⟨rfl, hZ, hh⟩ := hP
  have hx := Bd.exec
  have hby := Bd.bytes
  have hml : kode.maxLocals = 1 := hml0
  have hown : s.vm.findClass "java/lang/StringUTF16" = some m.cls := findClass_of_methodNamed Bd.named
  have hnm := (name_of_methodNamed Bd.named Bd.method).1
  have X0 : Stand p l e ({ frames := 1, cells := 1, slots := 8, locals := 12 } : Room) s m #[(.int (Nat.toInt32 n))] below meth kode s₁ [] 0 0 := Stand.of_body Bd
  have e0 : s₁.heap = h0 := by rw [← hh, Bd.state]; rfl
  have N0 := Fr.nil n0
  have pre0 : ∀ t, Steps p.tables e below (s₁.setTop (mkF m 0 #[.val (.int (Nat.toInt32 n))] [])) t → Steps p.tables e below (s₁.setTop (entryFrame m #[(.int (Nat.toInt32 n))] 1)) t := fun t k => castTop (ef_18 m (Nat.toInt32 n)) k
  have hx2 := own_ix (i := 2 * n) (by omega)
  have cn1 := fun (t : State) (kt : Steps p.tables e below (s₁.setTop (mkF m 1 #[.val (.int (Nat.toInt32 n))] [(.int (Nat.toInt32 n))])) t) => pre0 t (by
    refine XS.iloadN X0.here hx rfl (hb hby d18_0) rfl ?_
    show Steps p.tables e below (s₁.setTop (mkF m 1 #[.val (.int (Nat.toInt32 n))] [(.int (Nat.toInt32 n))])) _
    exact kt)
  obtain ⟨_, _, ⟨T2, L2, k2, n2⟩, -, X2, ⟨Lc2, hQ2, l2, y2, z2⟩, st2⟩ := Jvm.LawKit.callS X0 hx (y := (⟨"java/lang/StringUTF16", "newBytesLength", "(I)I"⟩ : MethodName)) hown (mvT hZ (hw _ (List.mem_of_getElem? (i := 81) rfl))) (mvT hZ (hw _ (List.mem_of_getElem? (i := 82) rfl))) (mvT hZ (hw _ (List.mem_of_getElem? (i := 23) rfl))) (mvT hZ (hw _ (List.mem_of_getElem? (i := 83) rfl))) (by decide) (backOf (W := 0) (rm19 l Z a0 hw [] n h0 n0 O0 hn) hZ (hw _ (List.mem_of_getElem? (i := 83) rfl)) (hw _ (List.mem_of_getElem? (i := 23) rfl)) (by decide) (by decide)) (g := (mkF m 1 #[.val (.int (Nat.toInt32 n))] [(.int (Nat.toInt32 n))])) rfl (by rw [hml]; rfl) (argsL := [(.int (Nat.toInt32 n))]) (rest := []) (lenOf pd_0 rfl) rfl (by show 2 * 0 + _ ≤ _; exact Nat.le_of_eq rfl) (hb hby d18_1) (fun _ _ => ⟨rfl, e0, (by decide : 0 + 0 ≤ _), (by decide : 0 + 0 ≤ _)⟩)
  dsimp only [Pt.U, Pt.locs, Pt.cells, Pt.slots] at X2 l2 y2 z2 st2 hQ2
  subst l2 y2 z2
  obtain ⟨rfl, Nq2, eh2⟩ := hQ2
  have N2 := Fr.app N0 Nq2
  have cn3 := fun (t : State) (kt : Steps p.tables e below (T2.setTop (mkF m 4 #[.val (.int (Nat.toInt32 n))] [(.int (Nat.toInt32 (2 * n)))])) t) => cn1 t (by
    refine st2 _ ?_
    show Steps p.tables e below (T2.setTop (mkF m 4 #[.val (.int (Nat.toInt32 n))] [(.int (Nat.toInt32 (2 * n)))])) _
    exact kt)
  obtain ⟨T4, h4, k4, X4, e4, E4, A4, st4⟩ := newP X2 hx hZ (hw _ (List.mem_of_getElem? (i := 25) rfl)) eh2 (g := (mkF m 4 #[.val (.int (Nat.toInt32 n))] [(.int (Nat.toInt32 (2 * n)))])) rfl (hb hby d18_4) rfl hx2.1 (cap := 8) (by rw [hx2.2]; omega) (by decide) (by decide) (by decide)
  obtain ⟨b4, g4⟩ : ∃ z, z = h0.size := ⟨_, rfl⟩
  rw [← g4] at A4 st4
  have sz_b4 : h0.size ≤ b4 := Nat.le_trans (Keep.refl h0 []).1 (Nat.le_of_eq g4.symm)
  have g_b4 : n0 ≤ b4 := Nat.le_trans (O0.1 ▸ O0.2.1) sz_b4
  have O4 := O0.ext E4
  have K4 : Keep h0 h4 [] := (Keep.refl h0 []).ext E4
  have AF4 : AF Z h4 b4 k4 .byte (2 * n) (fun _ => defaultValue .byte) := AF.new A4 hx2.2
  have cn5 := fun (t : State) (kt : Steps p.tables e below (T4.setTop (mkF m 6 #[.val (.int (Nat.toInt32 n))] [(.ref b4)])) t) => cn3 t (by
    refine st4 _ ?_
    show Steps p.tables e below (T4.setTop (mkF m 6 #[.val (.int (Nat.toInt32 n))] [(.ref b4)])) _
    exact kt)
  obtain ⟨frs, hr, hrun, hended, hW, hsame⟩ := X4.leave (v := some (.ref b4)) (fun h => by rw [Bd.returns] at h; cases h)
  refine ⟨_, _, cn5 _ ?_, hrun, hended, _, _, rfl, ?_, ⟨_, rfl⟩, hW, hsame.mono (by decide) (by decide)⟩
  · jvm_step X4.here [X4.here.top, hx, (hb hby d18_6), X4.method', Bd.returns, Value.isRef, FieldType.isReference]
    first | (intro acts; rw [hr _ acts rfl rfl rfl]) | rw [hr _ _ rfl rfl rfl]
    exact Steps.refl _
  · show QNA Z (2 * n) (fun f => ∀ j, f j = .int 0) h0 n0 _ T4.heap _
    rw [e4]
    exact ⟨b4, _, _, rfl, N2, K4, sz_b4, AF4, fun _ => rfl⟩

theorem d20_0 : decode jdk_52_method_4_code 0 = .ok (.getstatic 44, 3) := by decide +kernel
theorem d20_3 : decode jdk_52_method_4_code 3 = .ok (.ifCond .ne 25, 3) := by decide +kernel
theorem d20_28 : decode jdk_52_method_4_code 28 = .ok (.iload_n 1, 1) := by decide +kernel
theorem d20_29 : decode jdk_52_method_4_code 29 = .ok (.iconst 1, 1) := by decide +kernel
theorem d20_30 : decode jdk_52_method_4_code 30 = .ok (.ishl, 1) := by decide +kernel
theorem d20_31 : decode jdk_52_method_4_code 31 = .ok (.istore_n 1, 1) := by decide +kernel
theorem d20_32 : decode jdk_52_method_4_code 32 = .ok (.aload_n 0, 1) := by decide +kernel
theorem d20_33 : decode jdk_52_method_4_code 33 = .ok (.iload_n 1, 1) := by decide +kernel
theorem d20_34 : decode jdk_52_method_4_code 34 = .ok (.iinc 1 1, 3) := by decide +kernel
theorem d20_37 : decode jdk_52_method_4_code 37 = .ok (.iload_n 2, 1) := by decide +kernel
theorem d20_38 : decode jdk_52_method_4_code 38 = .ok (.getstatic 59, 3) := by decide +kernel
theorem d20_41 : decode jdk_52_method_4_code 41 = .ok (.ishr, 1) := by decide +kernel
theorem d20_42 : decode jdk_52_method_4_code 42 = .ok (.i2b, 1) := by decide +kernel
theorem d20_43 : decode jdk_52_method_4_code 43 = .ok (.bastore, 1) := by decide +kernel
theorem d20_44 : decode jdk_52_method_4_code 44 = .ok (.aload_n 0, 1) := by decide +kernel
theorem d20_45 : decode jdk_52_method_4_code 45 = .ok (.iload_n 1, 1) := by decide +kernel
theorem d20_46 : decode jdk_52_method_4_code 46 = .ok (.iload_n 2, 1) := by decide +kernel
theorem d20_47 : decode jdk_52_method_4_code 47 = .ok (.getstatic 63, 3) := by decide +kernel
theorem d20_50 : decode jdk_52_method_4_code 50 = .ok (.ishr, 1) := by decide +kernel
theorem d20_51 : decode jdk_52_method_4_code 51 = .ok (.i2b, 1) := by decide +kernel
theorem d20_52 : decode jdk_52_method_4_code 52 = .ok (.bastore, 1) := by decide +kernel
theorem d20_53 : decode jdk_52_method_4_code 53 = .ok (.return_, 1) := by decide +kernel
theorem ef_20 (m : MethodId) (x0 : Addr) (x1 : Int32) (x2 : Int32) : entryFrame m #[(.ref x0), (.int x1), (.int x2)] 3 = mkF m 0 #[.val (.ref x0), .val (.int x1), .val (.int x2)] [] := by first | (simp [entryFrame, mkF, argsToLocals, Value.category]; done) | rfl
set_option maxRecDepth 65536 in
set_option maxHeartbeats 40000000 in
theorem rm20 (l : Launch) (Z : State) (a0 : Array Value) (hw : ∀ d ∈ tables_1, d.before a0 Z = true) (ws : List Jvm.Cond) (ba : Addr) (k : ClassId) (m2 i : Nat) (f : Nat → Value) (c : Int32) (co : Int32) (vf : Value) (h0 : Heap) (n0 : Nat) (O0 : Old Z n0 h0) (g_ba : n0 ≤ ba) (hi : 2 * i + 1 < m2) (hm : m2 ≤ 8) (A_ba : AF Z h0 ba k .byte m2 f) (SWh : SW Z co vf) :
    MetFree l (⟨"java/lang/StringUTF16", "putChar", "([BII)V"⟩ : MethodName) (head1 (Jvm.Cond.code (⟨"java/lang/StringUTF16", "putChar", "([BII)V"⟩ : MethodName) jdk_52_method_4_code 3 none :: ws) ({ frames := 0, cells := 0, slots := 0, locals := 0 } : Room)) (fun aQ U => aQ = #[(.ref ba), (.int (Nat.toInt32 i)), (.int c)] ∧ Z.Warmed39 U.vm ∧ U.heap = h0) (fun _ _ _ _ _ => True) (fun _ U o U' => ∃ v L, o = .returned v ∧ QAF Z ba k .byte m2 (own_upd (own_upd f (2 * i) (.int (own_b0 c))) (2 * i + 1) (.int (own_b1 c))) h0 n0 v U'.heap L ∧ FrameEnd U o U' L ({ frames := 0, cells := 0, slots := 0, locals := 0 } : Room).cells ({ frames := 0, cells := 0, slots := 0, locals := 0 } : Room).slots) := by
  refine MetFree.of_bodySF (plainFor_of_name pn_java_lang_StringUTF16) hisR ?_
  intro p e s m args below meth kode s₁ Bd hml0 hP hK
  obtain ⟨rfl, hZ, hh⟩ := hP
  have hx := Bd.exec
  have hby := Bd.bytes
  have hml : kode.maxLocals = 3 := hml0
  have hown : s.vm.findClass "java/lang/StringUTF16" = some m.cls := findClass_of_methodNamed Bd.named
  have hnm := (name_of_methodNamed Bd.named Bd.method).1
  have X0 : Stand p l e ({ frames := 0, cells := 0, slots := 0, locals := 0 } : Room) s m #[(.ref ba), (.int (Nat.toInt32 i)), (.int c)] below meth kode s₁ [] 0 0 := Stand.of_body Bd
  have e0 : s₁.heap = h0 := by rw [← hh, Bd.state]; rfl
  have N0 := Fr.nil n0
  have pre0 : ∀ t, Steps p.tables e below (s₁.setTop (mkF m 0 #[.val (.ref ba), .val (.int (Nat.toInt32 i)), .val (.int c)] [])) t → Steps p.tables e below (s₁.setTop (entryFrame m #[(.ref ba), (.int (Nat.toInt32 i)), (.int c)] 3)) t := fun t k => castTop (ef_20 m ba (Nat.toInt32 i) c) k
  have SWx := SWh
  obtain ⟨S_CS, hcs, S_AD, S_HI, S_LO, S_SI, hcat_vf⟩ := SWx
  obtain ⟨T1, X1, e1, st1⟩ := getS2 X0 hx hZ hown (host := "") (Or.inl (hw _ (List.mem_of_getElem? (i := 88) rfl))) Via.refl e0 (S_AD.ext O0.2) (g := (mkF m 0 #[.val (.ref ba), .val (.int (Nat.toInt32 i)), .val (.int c)] [])) rfl (hb hby d20_0)
  have cn2 := fun (t : State) (kt : Steps p.tables e below (T1.setTop (mkF m 3 #[.val (.ref ba), .val (.int (Nat.toInt32 i)), .val (.int c)] [(.int (1 : Int32))])) t) => pre0 t (by
    refine st1 _ ?_
    show Steps p.tables e below (T1.setTop (mkF m 3 #[.val (.ref ba), .val (.int (Nat.toInt32 i)), .val (.int c)] [(.int (1 : Int32))])) _
    exact kt)
  have cn3 := fun (t : State) (kt : Steps p.tables e below (T1.setTop (mkF m 32 #[.val (.ref ba), .val (.int ((Nat.toInt32 i) <<< ((1 : Int32) &&& 31))), .val (.int c)] [])) t) => cn2 t (by
    refine XS.ifYes X1.here hx rfl (pc0 := 3) (pc' := 28) rfl (hb hby d20_3) rfl ((if0 _ _).trans (feq (by decide : ¬ ((1 : Int32) = (0 : Int32)))).2) (by decide) (by decide) ?_
    show Steps p.tables e below (T1.setTop (mkF m 28 #[.val (.ref ba), .val (.int (Nat.toInt32 i)), .val (.int c)] [])) _
    refine XS.iloadN X1.here hx rfl (hb hby d20_28) rfl ?_
    show Steps p.tables e below (T1.setTop (mkF m 29 #[.val (.ref ba), .val (.int (Nat.toInt32 i)), .val (.int c)] [(.int (Nat.toInt32 i))])) _
    refine XS.iconst X1.here hx rfl (hb hby d20_29) ?_
    show Steps p.tables e below (T1.setTop (mkF m 30 #[.val (.ref ba), .val (.int (Nat.toInt32 i)), .val (.int c)] [(.int (1 : Int32)), (.int (Nat.toInt32 i))])) _
    refine XS.ishl X1.here hx rfl (hb hby d20_30) rfl ?_
    show Steps p.tables e below (T1.setTop (mkF m 31 #[.val (.ref ba), .val (.int (Nat.toInt32 i)), .val (.int c)] [(.int ((Nat.toInt32 i) <<< ((1 : Int32) &&& 31)))])) _
    refine XS.istoreN X1.here hx rfl (hb hby d20_31) rfl (l' := #[.val (.ref ba), .val (.int ((Nat.toInt32 i) <<< ((1 : Int32) &&& 31))), .val (.int c)]) rfl ?_
    show Steps p.tables e below (T1.setTop (mkF m 32 #[.val (.ref ba), .val (.int ((Nat.toInt32 i) <<< ((1 : Int32) &&& 31))), .val (.int c)] [])) _
    exact kt)
  have cn4 : ∀ t, Steps p.tables e below (T1.setTop (mkF m 32 #[.val (.ref ba), .val (.int (Nat.toInt32 (2 * i))), .val (.int c)] [])) t → Steps p.tables e below (s₁.setTop (entryFrame m #[(.ref ba), (.int (Nat.toInt32 i)), (.int c)] 3)) t := by rw [← (own_dbl (by omega) : ((Nat.toInt32 i) <<< ((1 : Int32) &&& 31)) = (Nat.toInt32 (2 * i)))]; exact cn3
  have cn5 := fun (t : State) (kt : Steps p.tables e below (T1.setTop (mkF m 37 #[.val (.ref ba), .val (.int ((Nat.toInt32 (2 * i)) + (1 : Int32))), .val (.int c)] [(.int (Nat.toInt32 (2 * i))), (.ref ba)])) t) => cn4 t (by
    refine XS.aloadN X1.here hx rfl (hb hby d20_32) rfl rfl ?_
    show Steps p.tables e below (T1.setTop (mkF m 33 #[.val (.ref ba), .val (.int (Nat.toInt32 (2 * i))), .val (.int c)] [(.ref ba)])) _
    refine XS.iloadN X1.here hx rfl (hb hby d20_33) rfl ?_
    show Steps p.tables e below (T1.setTop (mkF m 34 #[.val (.ref ba), .val (.int (Nat.toInt32 (2 * i))), .val (.int c)] [(.int (Nat.toInt32 (2 * i))), (.ref ba)])) _
    refine XS.iinc X1.here hx rfl (hb hby d20_34) rfl (l' := #[.val (.ref ba), .val (.int ((Nat.toInt32 (2 * i)) + (1 : Int32))), .val (.int c)]) rfl ?_
    show Steps p.tables e below (T1.setTop (mkF m 37 #[.val (.ref ba), .val (.int ((Nat.toInt32 (2 * i)) + (1 : Int32))), .val (.int c)] [(.int (Nat.toInt32 (2 * i))), (.ref ba)])) _
    exact kt)
  have cn6 : ∀ t, Steps p.tables e below (T1.setTop (mkF m 37 #[.val (.ref ba), .val (.int (Nat.toInt32 (2 * i + 1))), .val (.int c)] [(.int (Nat.toInt32 (2 * i))), (.ref ba)])) t → Steps p.tables e below (s₁.setTop (entryFrame m #[(.ref ba), (.int (Nat.toInt32 i)), (.int c)] 3)) t := by rw [← (own_inc (by omega) : ((Nat.toInt32 (2 * i)) + (1 : Int32)) = (Nat.toInt32 (2 * i + 1)))]; exact cn5
  have cn7 := fun (t : State) (kt : Steps p.tables e below (T1.setTop (mkF m 38 #[.val (.ref ba), .val (.int (Nat.toInt32 (2 * i + 1))), .val (.int c)] [(.int c), (.int (Nat.toInt32 (2 * i))), (.ref ba)])) t) => cn6 t (by
    refine XS.iloadN X1.here hx rfl (hb hby d20_37) rfl ?_
    show Steps p.tables e below (T1.setTop (mkF m 38 #[.val (.ref ba), .val (.int (Nat.toInt32 (2 * i + 1))), .val (.int c)] [(.int c), (.int (Nat.toInt32 (2 * i))), (.ref ba)])) _
    exact kt)
  obtain ⟨T8, X8, e8, st8⟩ := getS2 X1 hx hZ hown (host := "") (Or.inl (hw _ (List.mem_of_getElem? (i := 89) rfl))) Via.refl e1 (S_HI.ext O0.2) (g := (mkF m 38 #[.val (.ref ba), .val (.int (Nat.toInt32 (2 * i + 1))), .val (.int c)] [(.int c), (.int (Nat.toInt32 (2 * i))), (.ref ba)])) rfl (hb hby d20_38)
  have cn9 := fun (t : State) (kt : Steps p.tables e below (T8.setTop (mkF m 43 #[.val (.ref ba), .val (.int (Nat.toInt32 (2 * i + 1))), .val (.int c)] [(.int ((c >>> ((0 : Int32) &&& 31)).toInt8.toInt32)), (.int (Nat.toInt32 (2 * i))), (.ref ba)])) t) => cn7 t (by
    refine st8 _ ?_
    show Steps p.tables e below (T8.setTop (mkF m 41 #[.val (.ref ba), .val (.int (Nat.toInt32 (2 * i + 1))), .val (.int c)] [(.int (0 : Int32)), (.int c), (.int (Nat.toInt32 (2 * i))), (.ref ba)])) _
    refine XS.ishr X8.here hx rfl (hb hby d20_41) rfl ?_
    show Steps p.tables e below (T8.setTop (mkF m 42 #[.val (.ref ba), .val (.int (Nat.toInt32 (2 * i + 1))), .val (.int c)] [(.int (c >>> ((0 : Int32) &&& 31))), (.int (Nat.toInt32 (2 * i))), (.ref ba)])) _
    refine XS.i2b X8.here hx rfl (hb hby d20_42) rfl ?_
    show Steps p.tables e below (T8.setTop (mkF m 43 #[.val (.ref ba), .val (.int (Nat.toInt32 (2 * i + 1))), .val (.int c)] [(.int ((c >>> ((0 : Int32) &&& 31)).toInt8.toInt32)), (.int (Nat.toInt32 (2 * i))), (.ref ba)])) _
    exact kt)
  have AFx10 := A_ba
  obtain ⟨cl10, Ar10, q10, S10, H10⟩ := AFx10
  have hin10 : ¬ ((Nat.toInt32 (2 * i)) < 0 ∨ cl10.slots.size ≤ ((Nat.toInt32 (2 * i))).toNatClampNeg) := AF.inb S10 (own_ix (by omega)) (by omega)
  obtain ⟨T11, h11, X11, e11, W11, st11⟩ := stB X8 hx hZ e8 Ar10 (j := (Nat.toInt32 (2 * i))) hin10 (g := (mkF m 43 #[.val (.ref ba), .val (.int (Nat.toInt32 (2 * i + 1))), .val (.int c)] [(.int ((c >>> ((0 : Int32) &&& 31)).toInt8.toInt32)), (.int (Nat.toInt32 (2 * i))), (.ref ba)])) rfl rfl (hb hby d20_43)
  rw [own_nb] at W11
  have AF11 : AF Z h11 ba k .byte m2 (own_upd f (2 * i) (.int ((c >>> ((0 : Int32) &&& 31)).toInt8.toInt32))) := AF.set Ar10 q10 S10 H10 W11 (own_ix (by omega)) (by omega)
  have N11 := Fr.snoc X11 N0 g_ba
  have O11 := O0.wr W11 g_ba
  have K11 : Keep h0 h11 [ba] := (Keep.refl h0 [ba]).wr W11 (Or.inl (List.mem_of_getElem? (i := 0) rfl))
  have cn12 := fun (t : State) (kt : Steps p.tables e below (T11.setTop (mkF m 47 #[.val (.ref ba), .val (.int (Nat.toInt32 (2 * i + 1))), .val (.int c)] [(.int c), (.int (Nat.toInt32 (2 * i + 1))), (.ref ba)])) t) => cn9 t (by
    refine st11 _ ?_
    show Steps p.tables e below (T11.setTop (mkF m 44 #[.val (.ref ba), .val (.int (Nat.toInt32 (2 * i + 1))), .val (.int c)] [])) _
    refine XS.aloadN X11.here hx rfl (hb hby d20_44) rfl rfl ?_
    show Steps p.tables e below (T11.setTop (mkF m 45 #[.val (.ref ba), .val (.int (Nat.toInt32 (2 * i + 1))), .val (.int c)] [(.ref ba)])) _
    refine XS.iloadN X11.here hx rfl (hb hby d20_45) rfl ?_
    show Steps p.tables e below (T11.setTop (mkF m 46 #[.val (.ref ba), .val (.int (Nat.toInt32 (2 * i + 1))), .val (.int c)] [(.int (Nat.toInt32 (2 * i + 1))), (.ref ba)])) _
    refine XS.iloadN X11.here hx rfl (hb hby d20_46) rfl ?_
    show Steps p.tables e below (T11.setTop (mkF m 47 #[.val (.ref ba), .val (.int (Nat.toInt32 (2 * i + 1))), .val (.int c)] [(.int c), (.int (Nat.toInt32 (2 * i + 1))), (.ref ba)])) _
    exact kt)
  obtain ⟨T13, X13, e13, st13⟩ := getS2 X11 hx hZ hown (host := "") (Or.inl (hw _ (List.mem_of_getElem? (i := 90) rfl))) Via.refl e11 (S_LO.ext O11.2) (g := (mkF m 47 #[.val (.ref ba), .val (.int (Nat.toInt32 (2 * i + 1))), .val (.int c)] [(.int c), (.int (Nat.toInt32 (2 * i + 1))), (.ref ba)])) rfl (hb hby d20_47)
  have cn14 := fun (t : State) (kt : Steps p.tables e below (T13.setTop (mkF m 52 #[.val (.ref ba), .val (.int (Nat.toInt32 (2 * i + 1))), .val (.int c)] [(.int ((c >>> ((8 : Int32) &&& 31)).toInt8.toInt32)), (.int (Nat.toInt32 (2 * i + 1))), (.ref ba)])) t) => cn12 t (by
    refine st13 _ ?_
    show Steps p.tables e below (T13.setTop (mkF m 50 #[.val (.ref ba), .val (.int (Nat.toInt32 (2 * i + 1))), .val (.int c)] [(.int (8 : Int32)), (.int c), (.int (Nat.toInt32 (2 * i + 1))), (.ref ba)])) _
    refine XS.ishr X13.here hx rfl (hb hby d20_50) rfl ?_
    show Steps p.tables e below (T13.setTop (mkF m 51 #[.val (.ref ba), .val (.int (Nat.toInt32 (2 * i + 1))), .val (.int c)] [(.int (c >>> ((8 : Int32) &&& 31))), (.int (Nat.toInt32 (2 * i + 1))), (.ref ba)])) _
    refine XS.i2b X13.here hx rfl (hb hby d20_51) rfl ?_
    show Steps p.tables e below (T13.setTop (mkF m 52 #[.val (.ref ba), .val (.int (Nat.toInt32 (2 * i + 1))), .val (.int c)] [(.int ((c >>> ((8 : Int32) &&& 31)).toInt8.toInt32)), (.int (Nat.toInt32 (2 * i + 1))), (.ref ba)])) _
    exact kt)
  have AFx15 := AF11
  obtain ⟨cl15, Ar15, q15, S15, H15⟩ := AFx15
  have hin15 : ¬ ((Nat.toInt32 (2 * i + 1)) < 0 ∨ cl15.slots.size ≤ ((Nat.toInt32 (2 * i + 1))).toNatClampNeg) := AF.inb S15 (own_ix (by omega)) (by omega)
  obtain ⟨T16, h16, X16, e16, W16, st16⟩ := stB X13 hx hZ e13 Ar15 (j := (Nat.toInt32 (2 * i + 1))) hin15 (g := (mkF m 52 #[.val (.ref ba), .val (.int (Nat.toInt32 (2 * i + 1))), .val (.int c)] [(.int ((c >>> ((8 : Int32) &&& 31)).toInt8.toInt32)), (.int (Nat.toInt32 (2 * i + 1))), (.ref ba)])) rfl rfl (hb hby d20_52)
  rw [own_nb] at W16
  have AF16 : AF Z h16 ba k .byte m2 (own_upd (own_upd f (2 * i) (.int ((c >>> ((0 : Int32) &&& 31)).toInt8.toInt32))) (2 * i + 1) (.int ((c >>> ((8 : Int32) &&& 31)).toInt8.toInt32))) := AF.set Ar15 q15 S15 H15 W16 (own_ix (by omega)) (by omega)
  have N16 := Fr.snoc X16 N11 g_ba
  have O16 := O11.wr W16 g_ba
  have K16 : Keep h0 h16 [ba] := K11.wr W16 (Or.inl (List.mem_of_getElem? (i := 0) rfl))
  have cn17 := fun (t : State) (kt : Steps p.tables e below (T16.setTop (mkF m 53 #[.val (.ref ba), .val (.int (Nat.toInt32 (2 * i + 1))), .val (.int c)] [])) t) => cn14 t (by
    refine st16 _ ?_
    show Steps p.tables e below (T16.setTop (mkF m 53 #[.val (.ref ba), .val (.int (Nat.toInt32 (2 * i + 1))), .val (.int c)] [])) _
    exact kt)
  obtain ⟨frs, hr, hrun, hended, hW, hsame⟩ := X16.leave (v := none) (fun _ => rfl)
  refine ⟨_, _, cn17 _ ?_, hrun, hended, _, _, rfl, ?_, ⟨_, rfl⟩, hW, hsame.mono (by decide) (by decide)⟩
  · exact X16.returnOut hx Bd.returns (hb hby d20_53) hr
  · show QAF Z ba k .byte m2 (own_upd (own_upd f (2 * i) (.int (own_b0 c))) (2 * i + 1) (.int (own_b1 c))) h0 n0 _ T16.heap _
    rw [e16]
    exact ⟨rfl, N16, K16, AF16⟩

theorem d21_0 : decode jdk_52_method_5_code 0 = .ok (.getstatic 44, 3) := by decide +kernel
theorem d21_3 : decode jdk_52_method_5_code 3 = .ok (.ifCond .ne 25, 3) := by decide +kernel
theorem d21_28 : decode jdk_52_method_5_code 28 = .ok (.iload_n 1, 1) := by decide +kernel
theorem d21_29 : decode jdk_52_method_5_code 29 = .ok (.iconst 1, 1) := by decide +kernel
theorem d21_30 : decode jdk_52_method_5_code 30 = .ok (.ishl, 1) := by decide +kernel
theorem d21_31 : decode jdk_52_method_5_code 31 = .ok (.istore_n 1, 1) := by decide +kernel
theorem d21_32 : decode jdk_52_method_5_code 32 = .ok (.aload_n 0, 1) := by decide +kernel
theorem d21_33 : decode jdk_52_method_5_code 33 = .ok (.iload_n 1, 1) := by decide +kernel
theorem d21_34 : decode jdk_52_method_5_code 34 = .ok (.iinc 1 1, 3) := by decide +kernel
theorem d21_37 : decode jdk_52_method_5_code 37 = .ok (.baload, 1) := by decide +kernel
theorem d21_38 : decode jdk_52_method_5_code 38 = .ok (.sipush 255, 3) := by decide +kernel
theorem d21_41 : decode jdk_52_method_5_code 41 = .ok (.iand, 1) := by decide +kernel
theorem d21_42 : decode jdk_52_method_5_code 42 = .ok (.getstatic 59, 3) := by decide +kernel
theorem d21_45 : decode jdk_52_method_5_code 45 = .ok (.ishl, 1) := by decide +kernel
theorem d21_46 : decode jdk_52_method_5_code 46 = .ok (.aload_n 0, 1) := by decide +kernel
theorem d21_47 : decode jdk_52_method_5_code 47 = .ok (.iload_n 1, 1) := by decide +kernel
theorem d21_48 : decode jdk_52_method_5_code 48 = .ok (.baload, 1) := by decide +kernel
theorem d21_49 : decode jdk_52_method_5_code 49 = .ok (.sipush 255, 3) := by decide +kernel
theorem d21_52 : decode jdk_52_method_5_code 52 = .ok (.iand, 1) := by decide +kernel
theorem d21_53 : decode jdk_52_method_5_code 53 = .ok (.getstatic 63, 3) := by decide +kernel
theorem d21_56 : decode jdk_52_method_5_code 56 = .ok (.ishl, 1) := by decide +kernel
theorem d21_57 : decode jdk_52_method_5_code 57 = .ok (.ior, 1) := by decide +kernel
theorem d21_58 : decode jdk_52_method_5_code 58 = .ok (.i2c, 1) := by decide +kernel
theorem d21_59 : decode jdk_52_method_5_code 59 = .ok (.ireturn, 1) := by decide +kernel
theorem ef_21 (m : MethodId) (x0 : Addr) (x1 : Int32) : entryFrame m #[(.ref x0), (.int x1)] 2 = mkF m 0 #[.val (.ref x0), .val (.int x1)] [] := by first | (simp [entryFrame, mkF, argsToLocals, Value.category]; done) | rfl
set_option maxRecDepth 65536 in
set_option maxHeartbeats 40000000 in
theorem rm21 (l : Launch) (Z : State) (a0 : Array Value) (hw : ∀ d ∈ tables_1, d.before a0 Z = true) (ws : List Jvm.Cond) (ba : Addr) (k : ClassId) (m2 i : Nat) (f : Nat → Value) (x0 x1 : Int32) (co : Int32) (vf : Value) (h0 : Heap) (n0 : Nat) (O0 : Old Z n0 h0) (hi : 2 * i + 1 < m2) (hm : m2 ≤ 8) (hx0 : f (2 * i) = .int x0) (hx1 : f (2 * i + 1) = .int x1) (A_ba : AF Z h0 ba k .byte m2 f) (SWh : SW Z co vf) :
    MetFree l (⟨"java/lang/StringUTF16", "getChar", "([BI)C"⟩ : MethodName) (head1 (Jvm.Cond.code (⟨"java/lang/StringUTF16", "getChar", "([BI)C"⟩ : MethodName) jdk_52_method_5_code 2 (some .char) :: ws) ({ frames := 0, cells := 0, slots := 0, locals := 0 } : Room)) (fun aQ U => aQ = #[(.ref ba), (.int (Nat.toInt32 i))] ∧ Z.Warmed39 U.vm ∧ U.heap = h0) (fun _ _ _ _ _ => True) (fun _ U o U' => ∃ v L, o = .returned v ∧ QI (own_gc x0 x1) h0 n0 v U'.heap L ∧ FrameEnd U o U' L ({ frames := 0, cells := 0, slots := 0, locals := 0 } : Room).cells ({ frames := 0, cells := 0, slots := 0, locals := 0 } : Room).slots) := by
  refine MetFree.of_bodySF (plainFor_of_name pn_java_lang_StringUTF16) hisR ?_
  intro p e s m args below meth kode s₁ Bd hml0 hP hK
  obtain ⟨rfl, hZ, hh⟩ := hP
  have hx := Bd.exec
  have hby := Bd.bytes
  have hml : kode.maxLocals = 2 := hml0
  have hown : s.vm.findClass "java/lang/StringUTF16" = some m.cls := findClass_of_methodNamed Bd.named
  have hnm := (name_of_methodNamed Bd.named Bd.method).1
  have X0 : Stand p l e ({ frames := 0, cells := 0, slots := 0, locals := 0 } : Room) s m #[(.ref ba), (.int (Nat.toInt32 i))] below meth kode s₁ [] 0 0 := Stand.of_body Bd
  have e0 : s₁.heap = h0 := by rw [← hh, Bd.state]; rfl
  have N0 := Fr.nil n0
  have pre0 : ∀ t, Steps p.tables e below (s₁.setTop (mkF m 0 #[.val (.ref ba), .val (.int (Nat.toInt32 i))] [])) t → Steps p.tables e below (s₁.setTop (entryFrame m #[(.ref ba), (.int (Nat.toInt32 i))] 2)) t := fun t k => castTop (ef_21 m ba (Nat.toInt32 i)) k
  have SWx := SWh
  obtain ⟨S_CS, hcs, S_AD, S_HI, S_LO, S_SI, hcat_vf⟩ := SWx
  obtain ⟨T1, X1, e1, st1⟩ := getS2 X0 hx hZ hown (host := "") (Or.inl (hw _ (List.mem_of_getElem? (i := 88) rfl))) Via.refl e0 (S_AD.ext O0.2) (g := (mkF m 0 #[.val (.ref ba), .val (.int (Nat.toInt32 i))] [])) rfl (hb hby d21_0)
  have cn2 := fun (t : State) (kt : Steps p.tables e below (T1.setTop (mkF m 3 #[.val (.ref ba), .val (.int (Nat.toInt32 i))] [(.int (1 : Int32))])) t) => pre0 t (by
    refine st1 _ ?_
    show Steps p.tables e below (T1.setTop (mkF m 3 #[.val (.ref ba), .val (.int (Nat.toInt32 i))] [(.int (1 : Int32))])) _
    exact kt)
  have cn3 := fun (t : State) (kt : Steps p.tables e below (T1.setTop (mkF m 32 #[.val (.ref ba), .val (.int ((Nat.toInt32 i) <<< ((1 : Int32) &&& 31)))] [])) t) => cn2 t (by
    refine XS.ifYes X1.here hx rfl (pc0 := 3) (pc' := 28) rfl (hb hby d21_3) rfl ((if0 _ _).trans (feq (by decide : ¬ ((1 : Int32) = (0 : Int32)))).2) (by decide) (by decide) ?_
    show Steps p.tables e below (T1.setTop (mkF m 28 #[.val (.ref ba), .val (.int (Nat.toInt32 i))] [])) _
    refine XS.iloadN X1.here hx rfl (hb hby d21_28) rfl ?_
    show Steps p.tables e below (T1.setTop (mkF m 29 #[.val (.ref ba), .val (.int (Nat.toInt32 i))] [(.int (Nat.toInt32 i))])) _
    refine XS.iconst X1.here hx rfl (hb hby d21_29) ?_
    show Steps p.tables e below (T1.setTop (mkF m 30 #[.val (.ref ba), .val (.int (Nat.toInt32 i))] [(.int (1 : Int32)), (.int (Nat.toInt32 i))])) _
    refine XS.ishl X1.here hx rfl (hb hby d21_30) rfl ?_
    show Steps p.tables e below (T1.setTop (mkF m 31 #[.val (.ref ba), .val (.int (Nat.toInt32 i))] [(.int ((Nat.toInt32 i) <<< ((1 : Int32) &&& 31)))])) _
    refine XS.istoreN X1.here hx rfl (hb hby d21_31) rfl (l' := #[.val (.ref ba), .val (.int ((Nat.toInt32 i) <<< ((1 : Int32) &&& 31)))]) rfl ?_
    show Steps p.tables e below (T1.setTop (mkF m 32 #[.val (.ref ba), .val (.int ((Nat.toInt32 i) <<< ((1 : Int32) &&& 31)))] [])) _
    exact kt)
  have cn4 : ∀ t, Steps p.tables e below (T1.setTop (mkF m 32 #[.val (.ref ba), .val (.int (Nat.toInt32 (2 * i)))] [])) t → Steps p.tables e below (s₁.setTop (entryFrame m #[(.ref ba), (.int (Nat.toInt32 i))] 2)) t := by rw [← (own_dbl (by omega) : ((Nat.toInt32 i) <<< ((1 : Int32) &&& 31)) = (Nat.toInt32 (2 * i)))]; exact cn3
  have cn5 := fun (t : State) (kt : Steps p.tables e below (T1.setTop (mkF m 37 #[.val (.ref ba), .val (.int ((Nat.toInt32 (2 * i)) + (1 : Int32)))] [(.int (Nat.toInt32 (2 * i))), (.ref ba)])) t) => cn4 t (by
    refine XS.aloadN X1.here hx rfl (hb hby d21_32) rfl rfl ?_
    show Steps p.tables e below (T1.setTop (mkF m 33 #[.val (.ref ba), .val (.int (Nat.toInt32 (2 * i)))] [(.ref ba)])) _
    refine XS.iloadN X1.here hx rfl (hb hby d21_33) rfl ?_
    show Steps p.tables e below (T1.setTop (mkF m 34 #[.val (.ref ba), .val (.int (Nat.toInt32 (2 * i)))] [(.int (Nat.toInt32 (2 * i))), (.ref ba)])) _
    refine XS.iinc X1.here hx rfl (hb hby d21_34) rfl (l' := #[.val (.ref ba), .val (.int ((Nat.toInt32 (2 * i)) + (1 : Int32)))]) rfl ?_
    show Steps p.tables e below (T1.setTop (mkF m 37 #[.val (.ref ba), .val (.int ((Nat.toInt32 (2 * i)) + (1 : Int32)))] [(.int (Nat.toInt32 (2 * i))), (.ref ba)])) _
    exact kt)
  have cn6 : ∀ t, Steps p.tables e below (T1.setTop (mkF m 37 #[.val (.ref ba), .val (.int (Nat.toInt32 (2 * i + 1)))] [(.int (Nat.toInt32 (2 * i))), (.ref ba)])) t → Steps p.tables e below (s₁.setTop (entryFrame m #[(.ref ba), (.int (Nat.toInt32 i))] 2)) t := by rw [← (own_inc (by omega) : ((Nat.toInt32 (2 * i)) + (1 : Int32)) = (Nat.toInt32 (2 * i + 1)))]; exact cn5
  have AFx7 := A_ba
  obtain ⟨cl7, Ar7, q7, S7, H7⟩ := AFx7
  have hin7 : ¬ ((Nat.toInt32 (2 * i)) < 0 ∨ cl7.slots.size ≤ ((Nat.toInt32 (2 * i))).toNatClampNeg) := AF.inb S7 (own_ix (by omega)) (by omega)
  have hat7 : cl7.slots[((Nat.toInt32 (2 * i))).toNatClampNeg]? = some (.int x0) := AF.at H7 (own_ix (by omega)) (by omega) hx0
  have cn8 := fun (t : State) (kt : Steps p.tables e below (T1.setTop (mkF m 42 #[.val (.ref ba), .val (.int (Nat.toInt32 (2 * i + 1)))] [(.int (x0 &&& (255 : Int32)))])) t) => cn6 t (by
    refine X1.baloadBytes hx (j := (Nat.toInt32 (2 * i))) (v := (.int x0)) (by rw [e1]; exact Ar7.1) (State.isArrayOf_alike hZ.alike Ar7.2.1) Ar7.2.2 hin7 hat7 (g := (mkF m 37 #[.val (.ref ba), .val (.int (Nat.toInt32 (2 * i + 1)))] [(.int (Nat.toInt32 (2 * i))), (.ref ba)])) rfl rfl (hb hby d21_37) _ ?_
    show Steps p.tables e below (T1.setTop (mkF m 38 #[.val (.ref ba), .val (.int (Nat.toInt32 (2 * i + 1)))] [(.int x0)])) _
    refine XS.sipush X1.here hx rfl (hb hby d21_38) ?_
    show Steps p.tables e below (T1.setTop (mkF m 41 #[.val (.ref ba), .val (.int (Nat.toInt32 (2 * i + 1)))] [(.int (255 : Int32)), (.int x0)])) _
    refine XS.iand X1.here hx rfl (hb hby d21_41) rfl ?_
    show Steps p.tables e below (T1.setTop (mkF m 42 #[.val (.ref ba), .val (.int (Nat.toInt32 (2 * i + 1)))] [(.int (x0 &&& (255 : Int32)))])) _
    exact kt)
  obtain ⟨T9, X9, e9, st9⟩ := getS2 X1 hx hZ hown (host := "") (Or.inl (hw _ (List.mem_of_getElem? (i := 89) rfl))) Via.refl e1 (S_HI.ext O0.2) (g := (mkF m 42 #[.val (.ref ba), .val (.int (Nat.toInt32 (2 * i + 1)))] [(.int (x0 &&& (255 : Int32)))])) rfl (hb hby d21_42)
  have cn10 := fun (t : State) (kt : Steps p.tables e below (T9.setTop (mkF m 48 #[.val (.ref ba), .val (.int (Nat.toInt32 (2 * i + 1)))] [(.int (Nat.toInt32 (2 * i + 1))), (.ref ba), (.int ((x0 &&& (255 : Int32)) <<< ((0 : Int32) &&& 31)))])) t) => cn8 t (by
    refine st9 _ ?_
    show Steps p.tables e below (T9.setTop (mkF m 45 #[.val (.ref ba), .val (.int (Nat.toInt32 (2 * i + 1)))] [(.int (0 : Int32)), (.int (x0 &&& (255 : Int32)))])) _
    refine XS.ishl X9.here hx rfl (hb hby d21_45) rfl ?_
    show Steps p.tables e below (T9.setTop (mkF m 46 #[.val (.ref ba), .val (.int (Nat.toInt32 (2 * i + 1)))] [(.int ((x0 &&& (255 : Int32)) <<< ((0 : Int32) &&& 31)))])) _
    refine XS.aloadN X9.here hx rfl (hb hby d21_46) rfl rfl ?_
    show Steps p.tables e below (T9.setTop (mkF m 47 #[.val (.ref ba), .val (.int (Nat.toInt32 (2 * i + 1)))] [(.ref ba), (.int ((x0 &&& (255 : Int32)) <<< ((0 : Int32) &&& 31)))])) _
    refine XS.iloadN X9.here hx rfl (hb hby d21_47) rfl ?_
    show Steps p.tables e below (T9.setTop (mkF m 48 #[.val (.ref ba), .val (.int (Nat.toInt32 (2 * i + 1)))] [(.int (Nat.toInt32 (2 * i + 1))), (.ref ba), (.int ((x0 &&& (255 : Int32)) <<< ((0 : Int32) &&& 31)))])) _
    exact kt)
  have AFx11 := A_ba
  obtain ⟨cl11, Ar11, q11, S11, H11⟩ := AFx11
  have hin11 : ¬ ((Nat.toInt32 (2 * i + 1)) < 0 ∨ cl11.slots.size ≤ ((Nat.toInt32 (2 * i + 1))).toNatClampNeg) := AF.inb S11 (own_ix (by omega)) (by omega)
  have hat11 : cl11.slots[((Nat.toInt32 (2 * i + 1))).toNatClampNeg]? = some (.int x1) := AF.at H11 (own_ix (by omega)) (by omega) hx1
  have cn12 := fun (t : State) (kt : Steps p.tables e below (T9.setTop (mkF m 53 #[.val (.ref ba), .val (.int (Nat.toInt32 (2 * i + 1)))] [(.int (x1 &&& (255 : Int32))), (.int ((x0 &&& (255 : Int32)) <<< ((0 : Int32) &&& 31)))])) t) => cn10 t (by
    refine X9.baloadBytes hx (j := (Nat.toInt32 (2 * i + 1))) (v := (.int x1)) (by rw [e9]; exact Ar11.1) (State.isArrayOf_alike hZ.alike Ar11.2.1) Ar11.2.2 hin11 hat11 (g := (mkF m 48 #[.val (.ref ba), .val (.int (Nat.toInt32 (2 * i + 1)))] [(.int (Nat.toInt32 (2 * i + 1))), (.ref ba), (.int ((x0 &&& (255 : Int32)) <<< ((0 : Int32) &&& 31)))])) rfl rfl (hb hby d21_48) _ ?_
    show Steps p.tables e below (T9.setTop (mkF m 49 #[.val (.ref ba), .val (.int (Nat.toInt32 (2 * i + 1)))] [(.int x1), (.int ((x0 &&& (255 : Int32)) <<< ((0 : Int32) &&& 31)))])) _
    refine XS.sipush X9.here hx rfl (hb hby d21_49) ?_
    show Steps p.tables e below (T9.setTop (mkF m 52 #[.val (.ref ba), .val (.int (Nat.toInt32 (2 * i + 1)))] [(.int (255 : Int32)), (.int x1), (.int ((x0 &&& (255 : Int32)) <<< ((0 : Int32) &&& 31)))])) _
    refine XS.iand X9.here hx rfl (hb hby d21_52) rfl ?_
    show Steps p.tables e below (T9.setTop (mkF m 53 #[.val (.ref ba), .val (.int (Nat.toInt32 (2 * i + 1)))] [(.int (x1 &&& (255 : Int32))), (.int ((x0 &&& (255 : Int32)) <<< ((0 : Int32) &&& 31)))])) _
    exact kt)
  obtain ⟨T13, X13, e13, st13⟩ := getS2 X9 hx hZ hown (host := "") (Or.inl (hw _ (List.mem_of_getElem? (i := 90) rfl))) Via.refl e9 (S_LO.ext O0.2) (g := (mkF m 53 #[.val (.ref ba), .val (.int (Nat.toInt32 (2 * i + 1)))] [(.int (x1 &&& (255 : Int32))), (.int ((x0 &&& (255 : Int32)) <<< ((0 : Int32) &&& 31)))])) rfl (hb hby d21_53)
  have cn14 := fun (t : State) (kt : Steps p.tables e below (T13.setTop (mkF m 59 #[.val (.ref ba), .val (.int (Nat.toInt32 (2 * i + 1)))] [(.int ((((x0 &&& (255 : Int32)) <<< ((0 : Int32) &&& 31)) ||| ((x1 &&& (255 : Int32)) <<< ((8 : Int32) &&& 31))).toUInt32.toUInt16.toUInt32.toInt32))])) t) => cn12 t (by
    refine st13 _ ?_
    show Steps p.tables e below (T13.setTop (mkF m 56 #[.val (.ref ba), .val (.int (Nat.toInt32 (2 * i + 1)))] [(.int (8 : Int32)), (.int (x1 &&& (255 : Int32))), (.int ((x0 &&& (255 : Int32)) <<< ((0 : Int32) &&& 31)))])) _
    refine XS.ishl X13.here hx rfl (hb hby d21_56) rfl ?_
    show Steps p.tables e below (T13.setTop (mkF m 57 #[.val (.ref ba), .val (.int (Nat.toInt32 (2 * i + 1)))] [(.int ((x1 &&& (255 : Int32)) <<< ((8 : Int32) &&& 31))), (.int ((x0 &&& (255 : Int32)) <<< ((0 : Int32) &&& 31)))])) _
    refine XS.ior X13.here hx rfl (hb hby d21_57) rfl ?_
    show Steps p.tables e below (T13.setTop (mkF m 58 #[.val (.ref ba), .val (.int (Nat.toInt32 (2 * i + 1)))] [(.int (((x0 &&& (255 : Int32)) <<< ((0 : Int32) &&& 31)) ||| ((x1 &&& (255 : Int32)) <<< ((8 : Int32) &&& 31))))])) _
    refine XS.i2c X13.here hx rfl (hb hby d21_58) rfl ?_
    show Steps p.tables e below (T13.setTop (mkF m 59 #[.val (.ref ba), .val (.int (Nat.toInt32 (2 * i + 1)))] [(.int ((((x0 &&& (255 : Int32)) <<< ((0 : Int32) &&& 31)) ||| ((x1 &&& (255 : Int32)) <<< ((8 : Int32) &&& 31))).toUInt32.toUInt16.toUInt32.toInt32))])) _
    exact kt)
  obtain ⟨frs, hr, hrun, hended, hW, hsame⟩ := X13.leave (v := some (.int (nar .char ((((x0 &&& (255 : Int32)) <<< ((0 : Int32) &&& 31)) ||| ((x1 &&& (255 : Int32)) <<< ((8 : Int32) &&& 31))).toUInt32.toUInt16.toUInt32.toInt32)))) (fun h => by rw [Bd.returns] at h; cases h)
  refine ⟨_, _, cn14 _ ?_, hrun, hended, _, _, rfl, ?_, ⟨_, rfl⟩, hW, hsame.mono (by decide) (by decide)⟩
  · exact retN X13 hx (t := .char) Bd.returns (by simp) (hb hby d21_59) hr
  · show QI (own_gc x0 x1) h0 n0 _ T13.heap _
    rw [e13]
    exact ⟨rfl, N0, rfl⟩

theorem d17_0 : decode jdk_52_method_14_code 0 = .ok (.iload_n 2, 1) := by decide +kernel
theorem d17_1 : decode jdk_52_method_14_code 1 = .ok (.invokestatic 107, 3) := by decide +kernel
theorem d17_4 : decode jdk_52_method_14_code 4 = .ok (.astore_n 3, 1) := by decide +kernel
theorem d17_5 : decode jdk_52_method_14_code 5 = .ok (.iconst 0, 1) := by decide +kernel
theorem d17_6 : decode jdk_52_method_14_code 6 = .ok (.istore 4, 2) := by decide +kernel
theorem d17_8 : decode jdk_52_method_14_code 8 = .ok (.iload 4, 2) := by decide +kernel
theorem d17_10 : decode jdk_52_method_14_code 10 = .ok (.iload_n 2, 1) := by decide +kernel
theorem d17_11 : decode jdk_52_method_14_code 11 = .ok (.if_icmp .ge 21, 3) := by decide +kernel
theorem d17_14 : decode jdk_52_method_14_code 14 = .ok (.aload_n 3, 1) := by decide +kernel
theorem d17_15 : decode jdk_52_method_14_code 15 = .ok (.iload 4, 2) := by decide +kernel
theorem d17_17 : decode jdk_52_method_14_code 17 = .ok (.aload_n 0, 1) := by decide +kernel
theorem d17_18 : decode jdk_52_method_14_code 18 = .ok (.iload_n 1, 1) := by decide +kernel
theorem d17_19 : decode jdk_52_method_14_code 19 = .ok (.caload, 1) := by decide +kernel
theorem d17_20 : decode jdk_52_method_14_code 20 = .ok (.invokestatic 111, 3) := by decide +kernel
theorem d17_23 : decode jdk_52_method_14_code 23 = .ok (.iinc 1 1, 3) := by decide +kernel
theorem d17_26 : decode jdk_52_method_14_code 26 = .ok (.iinc 4 1, 3) := by decide +kernel
theorem d17_29 : decode jdk_52_method_14_code 29 = .ok (.goto (-21), 3) := by decide +kernel
theorem d17_32 : decode jdk_52_method_14_code 32 = .ok (.aload_n 3, 1) := by decide +kernel
theorem d17_33 : decode jdk_52_method_14_code 33 = .ok (.areturn, 1) := by decide +kernel
theorem pd_1 : parseMethodDescriptor "(I)[B" = some ⟨[.int], some (.array .byte)⟩ := by decide +kernel
theorem pd_2 : parseMethodDescriptor "([BII)V" = some ⟨[(.array .byte), .int, .int], none⟩ := by decide +kernel
theorem ef_17 (m : MethodId) (x0 : Addr) (x1 : Int32) (x2 : Int32) : entryFrame m #[(.ref x0), (.int x1), (.int x2)] 5 = mkF m 0 #[.val (.ref x0), .val (.int x1), .val (.int x2), .unset, .unset] [] := by first | (simp [entryFrame, mkF, argsToLocals, Value.category]; done) | rfl
set_option maxRecDepth 65536 in
set_option maxHeartbeats 40000000 in
theorem rm17 (l : Launch) (Z : State) (a0 : Array Value) (hw : ∀ d ∈ tables_1, d.before a0 Z = true) (ws : List Jvm.Cond) (ca : Addr) (kc : ClassId) (cs : List Int32) (co : Int32) (vf : Value) (h0 : Heap) (n0 : Nat) (O0 : Old Z n0 h0) (hn : cs.length ≤ 4) (A_ca : AF Z h0 ca kc .char cs.length (fun j => .int (cs.getD j 0))) (SWh : SW Z co vf) :
    MetFree l (⟨"java/lang/StringUTF16", "toBytes", "([CII)[B"⟩ : MethodName) (head1 (Jvm.Cond.code (⟨"java/lang/StringUTF16", "toBytes", "([CII)[B"⟩ : MethodName) jdk_52_method_14_code 5 (some (.array .byte)) :: ws) ({ frames := 2, cells := 1, slots := 8, locals := 24 } : Room)) (fun aQ U => aQ = #[(.ref ca), (.int (0 : Int32)), (.int (Nat.toInt32 cs.length))] ∧ Z.Warmed39 U.vm ∧ U.heap = h0) (fun _ _ _ _ _ => True) (fun _ U o U' => ∃ v L, o = .returned v ∧ QNA Z (2 * cs.length) (own_U cs) h0 n0 v U'.heap L ∧ FrameEnd U o U' L ({ frames := 2, cells := 1, slots := 8, locals := 24 } : Room).cells ({ frames := 2, cells := 1, slots := 8, locals := 24 } : Room).slots) := by
  refine MetFree.of_bodySF (plainFor_of_name pn_java_lang_StringUTF16) hisR ?_
  intro p e s m args below meth kode s₁ Bd hml0 hP hK
  obtain ⟨rfl, hZ, hh⟩ := hP
  have hx := Bd.exec
  have hby := Bd.bytes
  have hml : kode.maxLocals = 5 := hml0
  have hown : s.vm.findClass "java/lang/StringUTF16" = some m.cls := findClass_of_methodNamed Bd.named
  have hnm := (name_of_methodNamed Bd.named Bd.method).1
  have X0 : Stand p l e ({ frames := 2, cells := 1, slots := 8, locals := 24 } : Room) s m #[(.ref ca), (.int (0 : Int32)), (.int (Nat.toInt32 cs.length))] below meth kode s₁ [] 0 0 := Stand.of_body Bd
  have e0 : s₁.heap = h0 := by rw [← hh, Bd.state]; rfl
  have N0 := Fr.nil n0
  have pre0 : ∀ t, Steps p.tables e below (s₁.setTop (mkF m 0 #[.val (.ref ca), .val (.int (0 : Int32)), .val (.int (Nat.toInt32 cs.length)), .unset, .unset] [])) t → Steps p.tables e below (s₁.setTop (entryFrame m #[(.ref ca), (.int (0 : Int32)), (.int (Nat.toInt32 cs.length))] 5)) t := fun t k => castTop (ef_17 m ca (0 : Int32) (Nat.toInt32 cs.length)) k
  have SWx := SWh
  obtain ⟨S_CS, hcs, S_AD, S_HI, S_LO, S_SI, hcat_vf⟩ := SWx
  have cn1 := fun (t : State) (kt : Steps p.tables e below (s₁.setTop (mkF m 1 #[.val (.ref ca), .val (.int (0 : Int32)), .val (.int (Nat.toInt32 cs.length)), .unset, .unset] [(.int (Nat.toInt32 cs.length))])) t) => pre0 t (by
    refine XS.iloadN X0.here hx rfl (hb hby d17_0) rfl ?_
    show Steps p.tables e below (s₁.setTop (mkF m 1 #[.val (.ref ca), .val (.int (0 : Int32)), .val (.int (Nat.toInt32 cs.length)), .unset, .unset] [(.int (Nat.toInt32 cs.length))])) _
    exact kt)
  obtain ⟨_, _, ⟨T2, L2, k2, n2⟩, -, X2, ⟨Lc2, hQ2, l2, y2, z2⟩, st2⟩ := Jvm.LawKit.callS X0 hx (y := (⟨"java/lang/StringUTF16", "newBytesFor", "(I)[B"⟩ : MethodName)) hown (mvT hZ (hw _ (List.mem_of_getElem? (i := 78) rfl))) (mvT hZ (hw _ (List.mem_of_getElem? (i := 79) rfl))) (mvT hZ (hw _ (List.mem_of_getElem? (i := 23) rfl))) (mvT hZ (hw _ (List.mem_of_getElem? (i := 80) rfl))) (by decide) (backOf (W := 0) (rm18 l Z a0 hw [] cs.length h0 n0 O0 hn) hZ (hw _ (List.mem_of_getElem? (i := 80) rfl)) (hw _ (List.mem_of_getElem? (i := 23) rfl)) (by decide) (by decide)) (g := (mkF m 1 #[.val (.ref ca), .val (.int (0 : Int32)), .val (.int (Nat.toInt32 cs.length)), .unset, .unset] [(.int (Nat.toInt32 cs.length))])) rfl (by rw [hml]; rfl) (argsL := [(.int (Nat.toInt32 cs.length))]) (rest := []) (lenOf pd_1 rfl) rfl (by show 2 * 0 + _ ≤ _; exact Nat.le_of_eq rfl) (hb hby d17_1) (fun _ _ => ⟨rfl, e0, (by decide : 0 + 1 ≤ _), (by decide : 0 + 8 ≤ _)⟩)
  dsimp only [Pt.U, Pt.locs, Pt.cells, Pt.slots] at X2 l2 y2 z2 st2 hQ2
  subst l2 y2 z2
  obtain ⟨r2x, kq2, f2, rfl, Nq2, Kq2, szq2, Aq2, hz2⟩ := hQ2
  have N2 := Fr.app N0 Nq2
  have ne_ca_r2x : ca ≠ r2x := Nat.ne_of_lt (Nat.lt_of_lt_of_le A_ca.lt szq2)
  have sz_r2x : h0.size ≤ r2x := Nat.le_trans (Keep.refl h0 []).1 szq2
  have g_r2x : n0 ≤ r2x := Nat.le_trans (O0.1 ▸ O0.2.1) sz_r2x
  have K2 := Kq2
  have A_ca_e2 := A_ca.keep K2 nin0
  have O2 := O0.keep K2 all0
  have KK2 : Keep h0 T2.heap [] := (Keep.refl h0 []).trans K2 all0
  have cn3 := fun (t : State) (kt : Steps p.tables e below (T2.setTop (mkF m 8 #[.val (.ref ca), .val (.int (0 : Int32)), .val (.int (Nat.toInt32 cs.length)), .val (.ref r2x), .val (.int (0 : Int32))] [])) t) => cn1 t (by
    refine st2 _ ?_
    show Steps p.tables e below (T2.setTop (mkF m 4 #[.val (.ref ca), .val (.int (0 : Int32)), .val (.int (Nat.toInt32 cs.length)), .unset, .unset] [(.ref r2x)])) _
    refine XS.astoreN X2.here hx rfl (hb hby d17_4) rfl rfl (l' := #[.val (.ref ca), .val (.int (0 : Int32)), .val (.int (Nat.toInt32 cs.length)), .val (.ref r2x), .unset]) rfl ?_
    show Steps p.tables e below (T2.setTop (mkF m 5 #[.val (.ref ca), .val (.int (0 : Int32)), .val (.int (Nat.toInt32 cs.length)), .val (.ref r2x), .unset] [])) _
    refine XS.iconst X2.here hx rfl (hb hby d17_5) ?_
    show Steps p.tables e below (T2.setTop (mkF m 6 #[.val (.ref ca), .val (.int (0 : Int32)), .val (.int (Nat.toInt32 cs.length)), .val (.ref r2x), .unset] [(.int (0 : Int32))])) _
    refine XS.istore X2.here hx rfl (hb hby d17_6) rfl (l' := #[.val (.ref ca), .val (.int (0 : Int32)), .val (.int (Nat.toInt32 cs.length)), .val (.ref r2x), .val (.int (0 : Int32))]) rfl ?_
    show Steps p.tables e below (T2.setTop (mkF m 8 #[.val (.ref ca), .val (.int (0 : Int32)), .val (.int (Nat.toInt32 cs.length)), .val (.ref r2x), .val (.int (0 : Int32))] [])) _
    exact kt)
  refine own_loop (A := fun kk => ∃ (TJ : State) (hJ : Heap) (lJ : List Loc) (i : Nat) (fr : Nat → Value), Stand p l e ({ frames := 2, cells := 1, slots := 8, locals := 24 } : Room) s m #[(.ref ca), (.int (0 : Int32)), (.int (Nat.toInt32 cs.length))] below meth kode TJ lJ 1 8 ∧ TJ.heap = hJ ∧ Fr n0 lJ ∧ Old Z n0 hJ ∧ Keep h0 hJ [] ∧ (i + kk = cs.length) ∧ (AF Z hJ ca kc .char cs.length (fun j => .int (cs.getD j 0))) ∧ (AF Z hJ r2x kq2 .byte (2 * cs.length) fr) ∧ (∀ j, j < i → fr (2 * j) = .int (own_b0 (cs.getD j 0)) ∧ fr (2 * j + 1) = .int (own_b1 (cs.getD j 0))) ∧ ∀ t, Steps p.tables e below (TJ.setTop (mkF m 8 #[.val (.ref ca), .val (.int (Nat.toInt32 i)), .val (.int (Nat.toInt32 cs.length)), .val (.ref r2x), .val (.int (Nat.toInt32 i))] [])) t → Steps p.tables e below (s₁.setTop (entryFrame m #[(.ref ca), (.int (0 : Int32)), (.int (Nat.toInt32 cs.length))] 5)) t) ?_ ?_ (cs.length) ?_
  · intro kk4 IH4
    rintro ⟨TJ5, hJ5, lJ5, i, fr, XJ5, eJ5, NJ5, OJ5, KJ5, hik, Ac, Ar, hfr, kJ_5⟩
    have hil : i < cs.length := by omega
    have cn6 := fun (t : State) (kt : Steps p.tables e below (TJ5.setTop (mkF m 11 #[.val (.ref ca), .val (.int (Nat.toInt32 i)), .val (.int (Nat.toInt32 cs.length)), .val (.ref r2x), .val (.int (Nat.toInt32 i))] [(.int (Nat.toInt32 cs.length)), (.int (Nat.toInt32 i))])) t) => kJ_5 t (by
      refine XS.iload XJ5.here hx rfl (hb hby d17_8) rfl ?_
      show Steps p.tables e below (TJ5.setTop (mkF m 10 #[.val (.ref ca), .val (.int (Nat.toInt32 i)), .val (.int (Nat.toInt32 cs.length)), .val (.ref r2x), .val (.int (Nat.toInt32 i))] [(.int (Nat.toInt32 i))])) _
      refine XS.iloadN XJ5.here hx rfl (hb hby d17_10) rfl ?_
      show Steps p.tables e below (TJ5.setTop (mkF m 11 #[.val (.ref ca), .val (.int (Nat.toInt32 i)), .val (.int (Nat.toInt32 cs.length)), .val (.ref r2x), .val (.int (Nat.toInt32 i))] [(.int (Nat.toInt32 cs.length)), (.int (Nat.toInt32 i))])) _
      exact kt)
    have cn7 := fun (t : State) (kt : Steps p.tables e below (TJ5.setTop (mkF m 19 #[.val (.ref ca), .val (.int (Nat.toInt32 i)), .val (.int (Nat.toInt32 cs.length)), .val (.ref r2x), .val (.int (Nat.toInt32 i))] [(.int (Nat.toInt32 i)), (.ref ca), (.int (Nat.toInt32 i)), (.ref r2x)])) t) => cn6 t (by
      refine XS.icmpNo XJ5.here hx rfl (hb hby d17_11) rfl (tlt ((own_lt (by omega) (by omega)).mpr hil)).2.1 ?_
      show Steps p.tables e below (TJ5.setTop (mkF m 14 #[.val (.ref ca), .val (.int (Nat.toInt32 i)), .val (.int (Nat.toInt32 cs.length)), .val (.ref r2x), .val (.int (Nat.toInt32 i))] [])) _
      refine XS.aloadN XJ5.here hx rfl (hb hby d17_14) rfl rfl ?_
      show Steps p.tables e below (TJ5.setTop (mkF m 15 #[.val (.ref ca), .val (.int (Nat.toInt32 i)), .val (.int (Nat.toInt32 cs.length)), .val (.ref r2x), .val (.int (Nat.toInt32 i))] [(.ref r2x)])) _
      refine XS.iload XJ5.here hx rfl (hb hby d17_15) rfl ?_
      show Steps p.tables e below (TJ5.setTop (mkF m 17 #[.val (.ref ca), .val (.int (Nat.toInt32 i)), .val (.int (Nat.toInt32 cs.length)), .val (.ref r2x), .val (.int (Nat.toInt32 i))] [(.int (Nat.toInt32 i)), (.ref r2x)])) _
      refine XS.aloadN XJ5.here hx rfl (hb hby d17_17) rfl rfl ?_
      show Steps p.tables e below (TJ5.setTop (mkF m 18 #[.val (.ref ca), .val (.int (Nat.toInt32 i)), .val (.int (Nat.toInt32 cs.length)), .val (.ref r2x), .val (.int (Nat.toInt32 i))] [(.ref ca), (.int (Nat.toInt32 i)), (.ref r2x)])) _
      refine XS.iloadN XJ5.here hx rfl (hb hby d17_18) rfl ?_
      show Steps p.tables e below (TJ5.setTop (mkF m 19 #[.val (.ref ca), .val (.int (Nat.toInt32 i)), .val (.int (Nat.toInt32 cs.length)), .val (.ref r2x), .val (.int (Nat.toInt32 i))] [(.int (Nat.toInt32 i)), (.ref ca), (.int (Nat.toInt32 i)), (.ref r2x)])) _
      exact kt)
    have AFx8 := Ac
    obtain ⟨cl8, Ar8, q8, S8, H8⟩ := AFx8
    have hin8 : ¬ ((Nat.toInt32 i) < 0 ∨ cl8.slots.size ≤ ((Nat.toInt32 i)).toNatClampNeg) := AF.inb S8 (own_ix (by omega)) hil
    have hat8 : cl8.slots[((Nat.toInt32 i)).toNatClampNeg]? = some (.int (cs.getD i 0)) := AF.at H8 (own_ix (by omega)) hil rfl
    have cn9 := fun (t : State) (kt : Steps p.tables e below (TJ5.setTop (mkF m 20 #[.val (.ref ca), .val (.int (Nat.toInt32 i)), .val (.int (Nat.toInt32 cs.length)), .val (.ref r2x), .val (.int (Nat.toInt32 i))] [(.int (cs.getD i 0)), (.int (Nat.toInt32 i)), (.ref r2x)])) t) => cn7 t (by
      refine XJ5.caload hx (j := (Nat.toInt32 i)) (v := (.int (cs.getD i 0))) (by rw [eJ5]; exact Ar8.1) (State.isArrayOf_alike hZ.alike Ar8.2.1) Ar8.2.2 hin8 hat8 (g := (mkF m 19 #[.val (.ref ca), .val (.int (Nat.toInt32 i)), .val (.int (Nat.toInt32 cs.length)), .val (.ref r2x), .val (.int (Nat.toInt32 i))] [(.int (Nat.toInt32 i)), (.ref ca), (.int (Nat.toInt32 i)), (.ref r2x)])) rfl rfl (hb hby d17_19) _ ?_
      show Steps p.tables e below (TJ5.setTop (mkF m 20 #[.val (.ref ca), .val (.int (Nat.toInt32 i)), .val (.int (Nat.toInt32 cs.length)), .val (.ref r2x), .val (.int (Nat.toInt32 i))] [(.int (cs.getD i 0)), (.int (Nat.toInt32 i)), (.ref r2x)])) _
      exact kt)
    obtain ⟨_, _, ⟨T10, L10, k10, n10⟩, -, X10, ⟨Lc10, hQ10, l10, y10, z10⟩, st10⟩ := Jvm.LawKit.callS XJ5 hx (y := (⟨"java/lang/StringUTF16", "putChar", "([BII)V"⟩ : MethodName)) hown (mvT hZ (hw _ (List.mem_of_getElem? (i := 85) rfl))) (mvT hZ (hw _ (List.mem_of_getElem? (i := 86) rfl))) (mvT hZ (hw _ (List.mem_of_getElem? (i := 23) rfl))) (mvT hZ (hw _ (List.mem_of_getElem? (i := 87) rfl))) (by decide) (backOf (W := 0) (rm20 l Z a0 hw [] r2x kq2 (2 * cs.length) i fr (cs.getD i 0) co vf hJ5 n0 OJ5 g_r2x (by omega) (by omega) Ar SWh) hZ (hw _ (List.mem_of_getElem? (i := 87) rfl)) (hw _ (List.mem_of_getElem? (i := 23) rfl)) (by decide) (by decide)) (g := (mkF m 20 #[.val (.ref ca), .val (.int (Nat.toInt32 i)), .val (.int (Nat.toInt32 cs.length)), .val (.ref r2x), .val (.int (Nat.toInt32 i))] [(.int (cs.getD i 0)), (.int (Nat.toInt32 i)), (.ref r2x)])) rfl (by rw [hml]; rfl) (argsL := [(.ref r2x), (.int (Nat.toInt32 i)), (.int (cs.getD i 0))]) (rest := []) (lenOf pd_2 rfl) rfl (by show 2 * 0 + _ ≤ _; exact Nat.le_of_eq rfl) (hb hby d17_20) (fun _ _ => ⟨rfl, eJ5, (by decide : 1 + 0 ≤ _), (by decide : 8 + 0 ≤ _)⟩)
    dsimp only [Pt.U, Pt.locs, Pt.cells, Pt.slots] at X10 l10 y10 z10 st10 hQ10
    subst l10 y10 z10
    obtain ⟨rfl, Nq10, Kq10, Aq10⟩ := hQ10
    have N10 := Fr.app NJ5 Nq10
    have K10 := Kq10
    have Ac_e10 := Ac.keep K10 (ninS ne_ca_r2x nin0)
    have O10 := OJ5.keep K10 (allS g_r2x all0)
    have KK10 : Keep h0 T10.heap [] := KJ5.trans K10 (allS (Or.inr sz_r2x) all0)
    have cn11 := fun (t : State) (kt : Steps p.tables e below (T10.setTop (mkF m 29 #[.val (.ref ca), .val (.int ((Nat.toInt32 i) + (1 : Int32))), .val (.int (Nat.toInt32 cs.length)), .val (.ref r2x), .val (.int ((Nat.toInt32 i) + (1 : Int32)))] [])) t) => cn9 t (by
      refine st10 _ ?_
      show Steps p.tables e below (T10.setTop (mkF m 23 #[.val (.ref ca), .val (.int (Nat.toInt32 i)), .val (.int (Nat.toInt32 cs.length)), .val (.ref r2x), .val (.int (Nat.toInt32 i))] [])) _
      refine XS.iinc X10.here hx rfl (hb hby d17_23) rfl (l' := #[.val (.ref ca), .val (.int ((Nat.toInt32 i) + (1 : Int32))), .val (.int (Nat.toInt32 cs.length)), .val (.ref r2x), .val (.int (Nat.toInt32 i))]) rfl ?_
      show Steps p.tables e below (T10.setTop (mkF m 26 #[.val (.ref ca), .val (.int ((Nat.toInt32 i) + (1 : Int32))), .val (.int (Nat.toInt32 cs.length)), .val (.ref r2x), .val (.int (Nat.toInt32 i))] [])) _
      refine XS.iinc X10.here hx rfl (hb hby d17_26) rfl (l' := #[.val (.ref ca), .val (.int ((Nat.toInt32 i) + (1 : Int32))), .val (.int (Nat.toInt32 cs.length)), .val (.ref r2x), .val (.int ((Nat.toInt32 i) + (1 : Int32)))]) rfl ?_
      show Steps p.tables e below (T10.setTop (mkF m 29 #[.val (.ref ca), .val (.int ((Nat.toInt32 i) + (1 : Int32))), .val (.int (Nat.toInt32 cs.length)), .val (.ref r2x), .val (.int ((Nat.toInt32 i) + (1 : Int32)))] [])) _
      exact kt)
    have cn12 : ∀ t, Steps p.tables e below (T10.setTop (mkF m 29 #[.val (.ref ca), .val (.int (Nat.toInt32 (i + 1))), .val (.int (Nat.toInt32 cs.length)), .val (.ref r2x), .val (.int (Nat.toInt32 (i + 1)))] [])) t → Steps p.tables e below (s₁.setTop (entryFrame m #[(.ref ca), (.int (0 : Int32)), (.int (Nat.toInt32 cs.length))] 5)) t := by rw [← (own_inc (by omega) : ((Nat.toInt32 i) + (1 : Int32)) = (Nat.toInt32 (i + 1)))]; exact cn11
    have cn13 := fun (t : State) (kt : Steps p.tables e below (T10.setTop (mkF m 8 #[.val (.ref ca), .val (.int (Nat.toInt32 (i + 1))), .val (.int (Nat.toInt32 cs.length)), .val (.ref r2x), .val (.int (Nat.toInt32 (i + 1)))] [])) t) => cn12 t (by
      refine XS.goto X10.here hx rfl (pc0 := 29) (pc' := 8) rfl (hb hby d17_29) (by decide) (by decide) ?_
      show Steps p.tables e below (T10.setTop (mkF m 8 #[.val (.ref ca), .val (.int (Nat.toInt32 (i + 1))), .val (.int (Nat.toInt32 cs.length)), .val (.ref r2x), .val (.int (Nat.toInt32 (i + 1)))] [])) _
      exact kt)
    exact IH4 ⟨T10, T10.heap, _, i + 1, (own_upd (own_upd fr (2 * i) (.int (own_b0 (cs.getD i 0)))) (2 * i + 1) (.int (own_b1 (cs.getD i 0)))), own_up X10 (by decide) (by decide), rfl, N10, O10, KK10, (by omega), Ac_e10, Aq10, own_Ustep hfr, cn13⟩
  · rintro ⟨TJ14, hJ14, lJ14, i, fr, XJ14, eJ14, NJ14, OJ14, KJ14, hik, Ac, Ar, hfr, kJ_14⟩
    obtain rfl : i = cs.length := by omega
    have cn15 := fun (t : State) (kt : Steps p.tables e below (TJ14.setTop (mkF m 11 #[.val (.ref ca), .val (.int (Nat.toInt32 cs.length)), .val (.int (Nat.toInt32 cs.length)), .val (.ref r2x), .val (.int (Nat.toInt32 cs.length))] [(.int (Nat.toInt32 cs.length)), (.int (Nat.toInt32 cs.length))])) t) => kJ_14 t (by
      refine XS.iload XJ14.here hx rfl (hb hby d17_8) rfl ?_
      show Steps p.tables e below (TJ14.setTop (mkF m 10 #[.val (.ref ca), .val (.int (Nat.toInt32 cs.length)), .val (.int (Nat.toInt32 cs.length)), .val (.ref r2x), .val (.int (Nat.toInt32 cs.length))] [(.int (Nat.toInt32 cs.length))])) _
      refine XS.iloadN XJ14.here hx rfl (hb hby d17_10) rfl ?_
      show Steps p.tables e below (TJ14.setTop (mkF m 11 #[.val (.ref ca), .val (.int (Nat.toInt32 cs.length)), .val (.int (Nat.toInt32 cs.length)), .val (.ref r2x), .val (.int (Nat.toInt32 cs.length))] [(.int (Nat.toInt32 cs.length)), (.int (Nat.toInt32 cs.length))])) _
      exact kt)
    have cn16 := fun (t : State) (kt : Steps p.tables e below (TJ14.setTop (mkF m 33 #[.val (.ref ca), .val (.int (Nat.toInt32 cs.length)), .val (.int (Nat.toInt32 cs.length)), .val (.ref r2x), .val (.int (Nat.toInt32 cs.length))] [(.ref r2x)])) t) => cn15 t (by
      refine XS.icmpYes XJ14.here hx rfl (pc0 := 11) (pc' := 32) rfl (hb hby d17_11) rfl (flt (fun q => Nat.lt_irrefl _ ((own_lt (by omega) (by omega)).mp q))).2.1 (by decide) (by decide) ?_
      show Steps p.tables e below (TJ14.setTop (mkF m 32 #[.val (.ref ca), .val (.int (Nat.toInt32 cs.length)), .val (.int (Nat.toInt32 cs.length)), .val (.ref r2x), .val (.int (Nat.toInt32 cs.length))] [])) _
      refine XS.aloadN XJ14.here hx rfl (hb hby d17_32) rfl rfl ?_
      show Steps p.tables e below (TJ14.setTop (mkF m 33 #[.val (.ref ca), .val (.int (Nat.toInt32 cs.length)), .val (.int (Nat.toInt32 cs.length)), .val (.ref r2x), .val (.int (Nat.toInt32 cs.length))] [(.ref r2x)])) _
      exact kt)
    obtain ⟨frs, hr, hrun, hended, hW, hsame⟩ := XJ14.leave (v := some (.ref r2x)) (fun h => by rw [Bd.returns] at h; cases h)
    refine ⟨_, _, cn16 _ ?_, hrun, hended, _, _, rfl, ?_, ⟨_, rfl⟩, hW, hsame.mono (by decide) (by decide)⟩
    · jvm_step XJ14.here [XJ14.here.top, hx, (hb hby d17_33), XJ14.method', Bd.returns, Value.isRef, FieldType.isReference]
      first | (intro acts; rw [hr _ acts rfl rfl rfl]) | rw [hr _ _ rfl rfl rfl]
      exact Steps.refl _
    · show QNA Z (2 * cs.length) (own_U cs) h0 n0 _ TJ14.heap _
      rw [eJ14]
      exact ⟨r2x, _, _, rfl, NJ14, KJ14, sz_r2x, Ar, hfr⟩
  · exact ⟨T2, T2.heap, _, 0, f2, own_up X2 (by decide) (by decide), rfl, N2, O2, KK2, (Nat.zero_add _), A_ca_e2, Aq2, (fun j hj => absurd hj (Nat.not_lt_zero j)), cn3⟩

theorem d6_0 : decode jdk_52_method_21_code 0 = .ok (.iconst 0, 1) := by decide +kernel
theorem d6_1 : decode jdk_52_method_21_code 1 = .ok (.istore 5, 2) := by decide +kernel
theorem d6_3 : decode jdk_52_method_21_code 3 = .ok (.iload 5, 2) := by decide +kernel
theorem d6_5 : decode jdk_52_method_21_code 5 = .ok (.iload 4, 2) := by decide +kernel
theorem d6_7 : decode jdk_52_method_21_code 7 = .ok (.if_icmp .ge 37, 3) := by decide +kernel
theorem d6_10 : decode jdk_52_method_21_code 10 = .ok (.aload_n 0, 1) := by decide +kernel
theorem d6_11 : decode jdk_52_method_21_code 11 = .ok (.iload_n 1, 1) := by decide +kernel
theorem d6_12 : decode jdk_52_method_21_code 12 = .ok (.caload, 1) := by decide +kernel
theorem d6_13 : decode jdk_52_method_21_code 13 = .ok (.istore 6, 2) := by decide +kernel
theorem d6_15 : decode jdk_52_method_21_code 15 = .ok (.iload 6, 2) := by decide +kernel
theorem d6_17 : decode jdk_52_method_21_code 17 = .ok (.sipush 255, 3) := by decide +kernel
theorem d6_20 : decode jdk_52_method_21_code 20 = .ok (.if_icmp .le 6, 3) := by decide +kernel
theorem d6_23 : decode jdk_52_method_21_code 23 = .ok (.iload 5, 2) := by decide +kernel
theorem d6_25 : decode jdk_52_method_21_code 25 = .ok (.ireturn, 1) := by decide +kernel
theorem d6_26 : decode jdk_52_method_21_code 26 = .ok (.aload_n 2, 1) := by decide +kernel
theorem d6_27 : decode jdk_52_method_21_code 27 = .ok (.iload_n 3, 1) := by decide +kernel
theorem d6_28 : decode jdk_52_method_21_code 28 = .ok (.iload 6, 2) := by decide +kernel
theorem d6_30 : decode jdk_52_method_21_code 30 = .ok (.i2b, 1) := by decide +kernel
theorem d6_31 : decode jdk_52_method_21_code 31 = .ok (.bastore, 1) := by decide +kernel
theorem d6_32 : decode jdk_52_method_21_code 32 = .ok (.iinc 1 1, 3) := by decide +kernel
theorem d6_35 : decode jdk_52_method_21_code 35 = .ok (.iinc 3 1, 3) := by decide +kernel
theorem d6_38 : decode jdk_52_method_21_code 38 = .ok (.iinc 5 1, 3) := by decide +kernel
theorem d6_41 : decode jdk_52_method_21_code 41 = .ok (.goto (-38), 3) := by decide +kernel
theorem d6_44 : decode jdk_52_method_21_code 44 = .ok (.iload 4, 2) := by decide +kernel
theorem d6_46 : decode jdk_52_method_21_code 46 = .ok (.ireturn, 1) := by decide +kernel
theorem ef_6 (m : MethodId) (x0 : Addr) (x1 : Int32) (x2 : Addr) (x3 : Int32) (x4 : Int32) : entryFrame m #[(.ref x0), (.int x1), (.ref x2), (.int x3), (.int x4)] 7 = mkF m 0 #[.val (.ref x0), .val (.int x1), .val (.ref x2), .val (.int x3), .val (.int x4), .unset, .unset] [] := by first | (simp [entryFrame, mkF, argsToLocals, Value.category]; done) | rfl
set_option maxRecDepth 65536 in
set_option maxHeartbeats 40000000 in
theorem rm6 (l : Launch) (Z : State) (a0 : Array Value) (hw : ∀ d ∈ tables_1, d.before a0 Z = true) (ws : List Jvm.Cond) (ca da : Addr) (kc kd : ClassId) (cs : List Int32) (fd0 : Nat → Value) (h0 : Heap) (n0 : Nat) (O0 : Old Z n0 h0) (g_da : n0 ≤ da) (necd : ca ≠ da) (hn : cs.length ≤ 4) (A_ca : AF Z h0 ca kc .char cs.length (fun j => .int (cs.getD j 0))) (A_da : AF Z h0 da kd .byte cs.length fd0) :
    MetFree l (⟨"java/lang/StringUTF16", "compress", "([CI[BII)I"⟩ : MethodName) (head1 (Jvm.Cond.code (⟨"java/lang/StringUTF16", "compress", "([CI[BII)I"⟩ : MethodName) jdk_52_method_21_code 7 (some .int) :: ws) ({ frames := 0, cells := 0, slots := 0, locals := 0 } : Room)) (fun aQ U => aQ = #[(.ref ca), (.int (0 : Int32)), (.ref da), (.int (0 : Int32)), (.int (Nat.toInt32 cs.length))] ∧ Z.Warmed39 U.vm ∧ U.heap = h0) (fun _ _ _ _ _ => True) (fun _ U o U' => ∃ v L, o = .returned v ∧ QC5 Z cs da kd h0 n0 v U'.heap L ∧ FrameEnd U o U' L ({ frames := 0, cells := 0, slots := 0, locals := 0 } : Room).cells ({ frames := 0, cells := 0, slots := 0, locals := 0 } : Room).slots) := by
  refine MetFree.of_bodySF (plainFor_of_name pn_java_lang_StringUTF16) hisR ?_
  intro p e s m args below meth kode s₁ Bd hml0 hP hK
  obtain ⟨rfl, hZ, hh⟩ := hP
  have hx := Bd.exec
  have hby := Bd.bytes
  have hml : kode.maxLocals = 7 := hml0
  have hown : s.vm.findClass "java/lang/StringUTF16" = some m.cls := findClass_of_methodNamed Bd.named
  have hnm := (name_of_methodNamed Bd.named Bd.method).1
  have X0 : Stand p l e ({ frames := 0, cells := 0, slots := 0, locals := 0 } : Room) s m #[(.ref ca), (.int (0 : Int32)), (.ref da), (.int (0 : Int32)), (.int (Nat.toInt32 cs.length))] below meth kode s₁ [] 0 0 := Stand.of_body Bd
  have e0 : s₁.heap = h0 := by rw [← hh, Bd.state]; rfl
  have N0 := Fr.nil n0
  have pre0 : ∀ t, Steps p.tables e below (s₁.setTop (mkF m 0 #[.val (.ref ca), .val (.int (0 : Int32)), .val (.ref da), .val (.int (0 : Int32)), .val (.int (Nat.toInt32 cs.length)), .unset, .unset] [])) t → Steps p.tables e below (s₁.setTop (entryFrame m #[(.ref ca), (.int (0 : Int32)), (.ref da), (.int (0 : Int32)), (.int (Nat.toInt32 cs.length))] 7)) t := fun t k => castTop (ef_6 m ca (0 : Int32) da (0 : Int32) (Nat.toInt32 cs.length)) k
  have cn1 := fun (t : State) (kt : Steps p.tables e below (s₁.setTop (mkF m 3 #[.val (.ref ca), .val (.int (0 : Int32)), .val (.ref da), .val (.int (0 : Int32)), .val (.int (Nat.toInt32 cs.length)), .val (.int (0 : Int32)), .unset] [])) t) => pre0 t (by
    refine XS.iconst X0.here hx rfl (hb hby d6_0) ?_
    show Steps p.tables e below (s₁.setTop (mkF m 1 #[.val (.ref ca), .val (.int (0 : Int32)), .val (.ref da), .val (.int (0 : Int32)), .val (.int (Nat.toInt32 cs.length)), .unset, .unset] [(.int (0 : Int32))])) _
    refine XS.istore X0.here hx rfl (hb hby d6_1) rfl (l' := #[.val (.ref ca), .val (.int (0 : Int32)), .val (.ref da), .val (.int (0 : Int32)), .val (.int (Nat.toInt32 cs.length)), .val (.int (0 : Int32)), .unset]) rfl ?_
    show Steps p.tables e below (s₁.setTop (mkF m 3 #[.val (.ref ca), .val (.int (0 : Int32)), .val (.ref da), .val (.int (0 : Int32)), .val (.int (Nat.toInt32 cs.length)), .val (.int (0 : Int32)), .unset] [])) _
    exact kt)
  refine own_loop (A := fun kk => ∃ (TJ : State) (hJ : Heap) (lJ : List Loc) (i : Nat) (fd : Nat → Value) (s6 : Slot), Stand p l e ({ frames := 0, cells := 0, slots := 0, locals := 0 } : Room) s m #[(.ref ca), (.int (0 : Int32)), (.ref da), (.int (0 : Int32)), (.int (Nat.toInt32 cs.length))] below meth kode TJ lJ 0 0 ∧ TJ.heap = hJ ∧ Fr n0 lJ ∧ Old Z n0 hJ ∧ Keep h0 hJ [da] ∧ (i + kk = cs.length) ∧ (One s6) ∧ (AF Z hJ ca kc .char cs.length (fun j => .int (cs.getD j 0))) ∧ (AF Z hJ da kd .byte cs.length fd) ∧ (∀ j, j < i → fd j = .int (cs.getD j 0).toInt8.toInt32 ∧ (cs.getD j 0).toInt ≤ 255) ∧ ∀ t, Steps p.tables e below (TJ.setTop (mkF m 3 #[.val (.ref ca), .val (.int (Nat.toInt32 i)), .val (.ref da), .val (.int (Nat.toInt32 i)), .val (.int (Nat.toInt32 cs.length)), .val (.int (Nat.toInt32 i)), s6] [])) t → Steps p.tables e below (s₁.setTop (entryFrame m #[(.ref ca), (.int (0 : Int32)), (.ref da), (.int (0 : Int32)), (.int (Nat.toInt32 cs.length))] 7)) t) ?_ ?_ (cs.length) ?_
  · intro kk2 IH2
    rintro ⟨TJ3, hJ3, lJ3, i, fd, s6, XJ3, eJ3, NJ3, OJ3, KJ3, hik, ho6, Ac, Ad, hfd, kJ_3⟩
    have hil : i < cs.length := by omega
    have cn4 := fun (t : State) (kt : Steps p.tables e below (TJ3.setTop (mkF m 7 #[.val (.ref ca), .val (.int (Nat.toInt32 i)), .val (.ref da), .val (.int (Nat.toInt32 i)), .val (.int (Nat.toInt32 cs.length)), .val (.int (Nat.toInt32 i)), s6] [(.int (Nat.toInt32 cs.length)), (.int (Nat.toInt32 i))])) t) => kJ_3 t (by
      refine XS.iload XJ3.here hx rfl (hb hby d6_3) rfl ?_
      show Steps p.tables e below (TJ3.setTop (mkF m 5 #[.val (.ref ca), .val (.int (Nat.toInt32 i)), .val (.ref da), .val (.int (Nat.toInt32 i)), .val (.int (Nat.toInt32 cs.length)), .val (.int (Nat.toInt32 i)), s6] [(.int (Nat.toInt32 i))])) _
      refine XS.iload XJ3.here hx rfl (hb hby d6_5) rfl ?_
      show Steps p.tables e below (TJ3.setTop (mkF m 7 #[.val (.ref ca), .val (.int (Nat.toInt32 i)), .val (.ref da), .val (.int (Nat.toInt32 i)), .val (.int (Nat.toInt32 cs.length)), .val (.int (Nat.toInt32 i)), s6] [(.int (Nat.toInt32 cs.length)), (.int (Nat.toInt32 i))])) _
      exact kt)
    have cn5 := fun (t : State) (kt : Steps p.tables e below (TJ3.setTop (mkF m 12 #[.val (.ref ca), .val (.int (Nat.toInt32 i)), .val (.ref da), .val (.int (Nat.toInt32 i)), .val (.int (Nat.toInt32 cs.length)), .val (.int (Nat.toInt32 i)), s6] [(.int (Nat.toInt32 i)), (.ref ca)])) t) => cn4 t (by
      refine XS.icmpNo XJ3.here hx rfl (hb hby d6_7) rfl (tlt ((own_lt (by omega) (by omega)).mpr hil)).2.1 ?_
      show Steps p.tables e below (TJ3.setTop (mkF m 10 #[.val (.ref ca), .val (.int (Nat.toInt32 i)), .val (.ref da), .val (.int (Nat.toInt32 i)), .val (.int (Nat.toInt32 cs.length)), .val (.int (Nat.toInt32 i)), s6] [])) _
      refine XS.aloadN XJ3.here hx rfl (hb hby d6_10) rfl rfl ?_
      show Steps p.tables e below (TJ3.setTop (mkF m 11 #[.val (.ref ca), .val (.int (Nat.toInt32 i)), .val (.ref da), .val (.int (Nat.toInt32 i)), .val (.int (Nat.toInt32 cs.length)), .val (.int (Nat.toInt32 i)), s6] [(.ref ca)])) _
      refine XS.iloadN XJ3.here hx rfl (hb hby d6_11) rfl ?_
      show Steps p.tables e below (TJ3.setTop (mkF m 12 #[.val (.ref ca), .val (.int (Nat.toInt32 i)), .val (.ref da), .val (.int (Nat.toInt32 i)), .val (.int (Nat.toInt32 cs.length)), .val (.int (Nat.toInt32 i)), s6] [(.int (Nat.toInt32 i)), (.ref ca)])) _
      exact kt)
    have AFx6 := Ac
    obtain ⟨cl6, Ar6, q6, S6, H6⟩ := AFx6
    have hin6 : ¬ ((Nat.toInt32 i) < 0 ∨ cl6.slots.size ≤ ((Nat.toInt32 i)).toNatClampNeg) := AF.inb S6 (own_ix (by omega)) hil
    have hat6 : cl6.slots[((Nat.toInt32 i)).toNatClampNeg]? = some (.int (cs.getD i 0)) := AF.at H6 (own_ix (by omega)) hil rfl
    have cn7 := fun (t : State) (kt : Steps p.tables e below (TJ3.setTop (mkF m 20 #[.val (.ref ca), .val (.int (Nat.toInt32 i)), .val (.ref da), .val (.int (Nat.toInt32 i)), .val (.int (Nat.toInt32 cs.length)), .val (.int (Nat.toInt32 i)), .val (.int (cs.getD i 0))] [(.int (255 : Int32)), (.int (cs.getD i 0))])) t) => cn5 t (by
      refine XJ3.caload hx (j := (Nat.toInt32 i)) (v := (.int (cs.getD i 0))) (by rw [eJ3]; exact Ar6.1) (State.isArrayOf_alike hZ.alike Ar6.2.1) Ar6.2.2 hin6 hat6 (g := (mkF m 12 #[.val (.ref ca), .val (.int (Nat.toInt32 i)), .val (.ref da), .val (.int (Nat.toInt32 i)), .val (.int (Nat.toInt32 cs.length)), .val (.int (Nat.toInt32 i)), s6] [(.int (Nat.toInt32 i)), (.ref ca)])) rfl rfl (hb hby d6_12) _ ?_
      show Steps p.tables e below (TJ3.setTop (mkF m 13 #[.val (.ref ca), .val (.int (Nat.toInt32 i)), .val (.ref da), .val (.int (Nat.toInt32 i)), .val (.int (Nat.toInt32 cs.length)), .val (.int (Nat.toInt32 i)), s6] [(.int (cs.getD i 0))])) _
      refine XS.istoreS XJ3.here hx rfl (hb hby d6_13) rfl rfl ho6 ?_
      show Steps p.tables e below (TJ3.setTop (mkF m 15 #[.val (.ref ca), .val (.int (Nat.toInt32 i)), .val (.ref da), .val (.int (Nat.toInt32 i)), .val (.int (Nat.toInt32 cs.length)), .val (.int (Nat.toInt32 i)), .val (.int (cs.getD i 0))] [])) _
      refine XS.iload XJ3.here hx rfl (hb hby d6_15) rfl ?_
      show Steps p.tables e below (TJ3.setTop (mkF m 17 #[.val (.ref ca), .val (.int (Nat.toInt32 i)), .val (.ref da), .val (.int (Nat.toInt32 i)), .val (.int (Nat.toInt32 cs.length)), .val (.int (Nat.toInt32 i)), .val (.int (cs.getD i 0))] [(.int (cs.getD i 0))])) _
      refine XS.sipush XJ3.here hx rfl (hb hby d6_17) ?_
      show Steps p.tables e below (TJ3.setTop (mkF m 20 #[.val (.ref ca), .val (.int (Nat.toInt32 i)), .val (.ref da), .val (.int (Nat.toInt32 i)), .val (.int (Nat.toInt32 cs.length)), .val (.int (Nat.toInt32 i)), .val (.int (cs.getD i 0))] [(.int (255 : Int32)), (.int (cs.getD i 0))])) _
      exact kt)
    by_cases hc20_8 : (255 : Int32) < (cs.getD i 0)
    · have cn9 := fun (t : State) (kt : Steps p.tables e below (TJ3.setTop (mkF m 25 #[.val (.ref ca), .val (.int (Nat.toInt32 i)), .val (.ref da), .val (.int (Nat.toInt32 i)), .val (.int (Nat.toInt32 cs.length)), .val (.int (Nat.toInt32 i)), .val (.int (cs.getD i 0))] [(.int (Nat.toInt32 i))])) t) => cn7 t (by
        refine XS.icmpNo XJ3.here hx rfl (hb hby d6_20) rfl (tlt hc20_8).2.2.2 ?_
        show Steps p.tables e below (TJ3.setTop (mkF m 23 #[.val (.ref ca), .val (.int (Nat.toInt32 i)), .val (.ref da), .val (.int (Nat.toInt32 i)), .val (.int (Nat.toInt32 cs.length)), .val (.int (Nat.toInt32 i)), .val (.int (cs.getD i 0))] [])) _
        refine XS.iload XJ3.here hx rfl (hb hby d6_23) rfl ?_
        show Steps p.tables e below (TJ3.setTop (mkF m 25 #[.val (.ref ca), .val (.int (Nat.toInt32 i)), .val (.ref da), .val (.int (Nat.toInt32 i)), .val (.int (Nat.toInt32 cs.length)), .val (.int (Nat.toInt32 i)), .val (.int (cs.getD i 0))] [(.int (Nat.toInt32 i))])) _
        exact kt)
      obtain ⟨frs, hr, hrun, hended, hW, hsame⟩ := XJ3.leave (v := some (.int (Nat.toInt32 i))) (fun h => by rw [Bd.returns] at h; cases h)
      refine ⟨_, _, cn9 _ ?_, hrun, hended, _, _, rfl, ?_, ⟨_, rfl⟩, hW, hsame.mono (by decide) (by decide)⟩
      · exact retI XJ3 hx Bd.returns (hb hby d6_25) hr
      · show QC5 Z cs da kd h0 n0 _ TJ3.heap _
        rw [eJ3]
        exact Or.inr ⟨i, rfl, NJ3, KJ3, hil, hc20_8⟩
    · have cn10 := fun (t : State) (kt : Steps p.tables e below (TJ3.setTop (mkF m 31 #[.val (.ref ca), .val (.int (Nat.toInt32 i)), .val (.ref da), .val (.int (Nat.toInt32 i)), .val (.int (Nat.toInt32 cs.length)), .val (.int (Nat.toInt32 i)), .val (.int (cs.getD i 0))] [(.int ((cs.getD i 0).toInt8.toInt32)), (.int (Nat.toInt32 i)), (.ref da)])) t) => cn7 t (by
        refine XS.icmpYes XJ3.here hx rfl (pc0 := 20) (pc' := 26) rfl (hb hby d6_20) rfl (flt hc20_8).2.2.2 (by decide) (by decide) ?_
        show Steps p.tables e below (TJ3.setTop (mkF m 26 #[.val (.ref ca), .val (.int (Nat.toInt32 i)), .val (.ref da), .val (.int (Nat.toInt32 i)), .val (.int (Nat.toInt32 cs.length)), .val (.int (Nat.toInt32 i)), .val (.int (cs.getD i 0))] [])) _
        refine XS.aloadN XJ3.here hx rfl (hb hby d6_26) rfl rfl ?_
        show Steps p.tables e below (TJ3.setTop (mkF m 27 #[.val (.ref ca), .val (.int (Nat.toInt32 i)), .val (.ref da), .val (.int (Nat.toInt32 i)), .val (.int (Nat.toInt32 cs.length)), .val (.int (Nat.toInt32 i)), .val (.int (cs.getD i 0))] [(.ref da)])) _
        refine XS.iloadN XJ3.here hx rfl (hb hby d6_27) rfl ?_
        show Steps p.tables e below (TJ3.setTop (mkF m 28 #[.val (.ref ca), .val (.int (Nat.toInt32 i)), .val (.ref da), .val (.int (Nat.toInt32 i)), .val (.int (Nat.toInt32 cs.length)), .val (.int (Nat.toInt32 i)), .val (.int (cs.getD i 0))] [(.int (Nat.toInt32 i)), (.ref da)])) _
        refine XS.iload XJ3.here hx rfl (hb hby d6_28) rfl ?_
        show Steps p.tables e below (TJ3.setTop (mkF m 30 #[.val (.ref ca), .val (.int (Nat.toInt32 i)), .val (.ref da), .val (.int (Nat.toInt32 i)), .val (.int (Nat.toInt32 cs.length)), .val (.int (Nat.toInt32 i)), .val (.int (cs.getD i 0))] [(.int (cs.getD i 0)), (.int (Nat.toInt32 i)), (.ref da)])) _
        refine XS.i2b XJ3.here hx rfl (hb hby d6_30) rfl ?_
        show Steps p.tables e below (TJ3.setTop (mkF m 31 #[.val (.ref ca), .val (.int (Nat.toInt32 i)), .val (.ref da), .val (.int (Nat.toInt32 i)), .val (.int (Nat.toInt32 cs.length)), .val (.int (Nat.toInt32 i)), .val (.int (cs.getD i 0))] [(.int ((cs.getD i 0).toInt8.toInt32)), (.int (Nat.toInt32 i)), (.ref da)])) _
        exact kt)
      have AFx11 := Ad
      obtain ⟨cl11, Ar11, q11, S11, H11⟩ := AFx11
      have hin11 : ¬ ((Nat.toInt32 i) < 0 ∨ cl11.slots.size ≤ ((Nat.toInt32 i)).toNatClampNeg) := AF.inb S11 (own_ix (by omega)) hil
      obtain ⟨T12, h12, X12, e12, W12, st12⟩ := stB XJ3 hx hZ eJ3 Ar11 (j := (Nat.toInt32 i)) hin11 (g := (mkF m 31 #[.val (.ref ca), .val (.int (Nat.toInt32 i)), .val (.ref da), .val (.int (Nat.toInt32 i)), .val (.int (Nat.toInt32 cs.length)), .val (.int (Nat.toInt32 i)), .val (.int (cs.getD i 0))] [(.int ((cs.getD i 0).toInt8.toInt32)), (.int (Nat.toInt32 i)), (.ref da)])) rfl rfl (hb hby d6_31)
      rw [own_nb] at W12
      have Ac_e12 := Ac.other W12 necd
      have AF12 : AF Z h12 da kd .byte cs.length (own_upd fd i (.int ((cs.getD i 0).toInt8.toInt32))) := AF.set Ar11 q11 S11 H11 W12 (own_ix (by omega)) hil
      have N12 := Fr.snoc X12 NJ3 g_da
      have O12 := OJ3.wr W12 g_da
      have K12 : Keep h0 h12 [da] := KJ3.wr W12 (Or.inl (List.mem_of_getElem? (i := 0) rfl))
      have cn13 := fun (t : State) (kt : Steps p.tables e below (T12.setTop (mkF m 41 #[.val (.ref ca), .val (.int ((Nat.toInt32 i) + (1 : Int32))), .val (.ref da), .val (.int ((Nat.toInt32 i) + (1 : Int32))), .val (.int (Nat.toInt32 cs.length)), .val (.int ((Nat.toInt32 i) + (1 : Int32))), .val (.int (cs.getD i 0))] [])) t) => cn10 t (by
        refine st12 _ ?_
        show Steps p.tables e below (T12.setTop (mkF m 32 #[.val (.ref ca), .val (.int (Nat.toInt32 i)), .val (.ref da), .val (.int (Nat.toInt32 i)), .val (.int (Nat.toInt32 cs.length)), .val (.int (Nat.toInt32 i)), .val (.int (cs.getD i 0))] [])) _
        refine XS.iinc X12.here hx rfl (hb hby d6_32) rfl (l' := #[.val (.ref ca), .val (.int ((Nat.toInt32 i) + (1 : Int32))), .val (.ref da), .val (.int (Nat.toInt32 i)), .val (.int (Nat.toInt32 cs.length)), .val (.int (Nat.toInt32 i)), .val (.int (cs.getD i 0))]) rfl ?_
        show Steps p.tables e below (T12.setTop (mkF m 35 #[.val (.ref ca), .val (.int ((Nat.toInt32 i) + (1 : Int32))), .val (.ref da), .val (.int (Nat.toInt32 i)), .val (.int (Nat.toInt32 cs.length)), .val (.int (Nat.toInt32 i)), .val (.int (cs.getD i 0))] [])) _
        refine XS.iinc X12.here hx rfl (hb hby d6_35) rfl (l' := #[.val (.ref ca), .val (.int ((Nat.toInt32 i) + (1 : Int32))), .val (.ref da), .val (.int ((Nat.toInt32 i) + (1 : Int32))), .val (.int (Nat.toInt32 cs.length)), .val (.int (Nat.toInt32 i)), .val (.int (cs.getD i 0))]) rfl ?_
        show Steps p.tables e below (T12.setTop (mkF m 38 #[.val (.ref ca), .val (.int ((Nat.toInt32 i) + (1 : Int32))), .val (.ref da), .val (.int ((Nat.toInt32 i) + (1 : Int32))), .val (.int (Nat.toInt32 cs.length)), .val (.int (Nat.toInt32 i)), .val (.int (cs.getD i 0))] [])) _
        refine XS.iinc X12.here hx rfl (hb hby d6_38) rfl (l' := #[.val (.ref ca), .val (.int ((Nat.toInt32 i) + (1 : Int32))), .val (.ref da), .val (.int ((Nat.toInt32 i) + (1 : Int32))), .val (.int (Nat.toInt32 cs.length)), .val (.int ((Nat.toInt32 i) + (1 : Int32))), .val (.int (cs.getD i 0))]) rfl ?_
        show Steps p.tables e below (T12.setTop (mkF m 41 #[.val (.ref ca), .val (.int ((Nat.toInt32 i) + (1 : Int32))), .val (.ref da), .val (.int ((Nat.toInt32 i) + (1 : Int32))), .val (.int (Nat.toInt32 cs.length)), .val (.int ((Nat.toInt32 i) + (1 : Int32))), .val (.int (cs.getD i 0))] [])) _
        exact kt)
      have cn14 : ∀ t, Steps p.tables e below (T12.setTop (mkF m 41 #[.val (.ref ca), .val (.int (Nat.toInt32 (i + 1))), .val (.ref da), .val (.int (Nat.toInt32 (i + 1))), .val (.int (Nat.toInt32 cs.length)), .val (.int (Nat.toInt32 (i + 1))), .val (.int (cs.getD i 0))] [])) t → Steps p.tables e below (s₁.setTop (entryFrame m #[(.ref ca), (.int (0 : Int32)), (.ref da), (.int (0 : Int32)), (.int (Nat.toInt32 cs.length))] 7)) t := by rw [← (own_inc (by omega) : ((Nat.toInt32 i) + (1 : Int32)) = (Nat.toInt32 (i + 1)))]; exact cn13
      have cn15 := fun (t : State) (kt : Steps p.tables e below (T12.setTop (mkF m 3 #[.val (.ref ca), .val (.int (Nat.toInt32 (i + 1))), .val (.ref da), .val (.int (Nat.toInt32 (i + 1))), .val (.int (Nat.toInt32 cs.length)), .val (.int (Nat.toInt32 (i + 1))), .val (.int (cs.getD i 0))] [])) t) => cn14 t (by
        refine XS.goto X12.here hx rfl (pc0 := 41) (pc' := 3) rfl (hb hby d6_41) (by decide) (by decide) ?_
        show Steps p.tables e below (T12.setTop (mkF m 3 #[.val (.ref ca), .val (.int (Nat.toInt32 (i + 1))), .val (.ref da), .val (.int (Nat.toInt32 (i + 1))), .val (.int (Nat.toInt32 cs.length)), .val (.int (Nat.toInt32 (i + 1))), .val (.int (cs.getD i 0))] [])) _
        exact kt)
      exact IH2 ⟨T12, h12, _, i + 1, (own_upd fd i (.int ((cs.getD i 0).toInt8.toInt32))), _, own_up X12 (by decide) (by decide), e12, N12, O12, K12, (by omega), (One.val rfl), Ac_e12, AF12, own_Lstep hfd hc20_8, cn15⟩
  · rintro ⟨TJ16, hJ16, lJ16, i, fd, s6, XJ16, eJ16, NJ16, OJ16, KJ16, hik, ho6, Ac, Ad, hfd, kJ_16⟩
    obtain rfl : i = cs.length := by omega
    have cn17 := fun (t : State) (kt : Steps p.tables e below (TJ16.setTop (mkF m 7 #[.val (.ref ca), .val (.int (Nat.toInt32 cs.length)), .val (.ref da), .val (.int (Nat.toInt32 cs.length)), .val (.int (Nat.toInt32 cs.length)), .val (.int (Nat.toInt32 cs.length)), s6] [(.int (Nat.toInt32 cs.length)), (.int (Nat.toInt32 cs.length))])) t) => kJ_16 t (by
      refine XS.iload XJ16.here hx rfl (hb hby d6_3) rfl ?_
      show Steps p.tables e below (TJ16.setTop (mkF m 5 #[.val (.ref ca), .val (.int (Nat.toInt32 cs.length)), .val (.ref da), .val (.int (Nat.toInt32 cs.length)), .val (.int (Nat.toInt32 cs.length)), .val (.int (Nat.toInt32 cs.length)), s6] [(.int (Nat.toInt32 cs.length))])) _
      refine XS.iload XJ16.here hx rfl (hb hby d6_5) rfl ?_
      show Steps p.tables e below (TJ16.setTop (mkF m 7 #[.val (.ref ca), .val (.int (Nat.toInt32 cs.length)), .val (.ref da), .val (.int (Nat.toInt32 cs.length)), .val (.int (Nat.toInt32 cs.length)), .val (.int (Nat.toInt32 cs.length)), s6] [(.int (Nat.toInt32 cs.length)), (.int (Nat.toInt32 cs.length))])) _
      exact kt)
    have cn18 := fun (t : State) (kt : Steps p.tables e below (TJ16.setTop (mkF m 46 #[.val (.ref ca), .val (.int (Nat.toInt32 cs.length)), .val (.ref da), .val (.int (Nat.toInt32 cs.length)), .val (.int (Nat.toInt32 cs.length)), .val (.int (Nat.toInt32 cs.length)), s6] [(.int (Nat.toInt32 cs.length))])) t) => cn17 t (by
      refine XS.icmpYes XJ16.here hx rfl (pc0 := 7) (pc' := 44) rfl (hb hby d6_7) rfl (flt (fun q => Nat.lt_irrefl _ ((own_lt (by omega) (by omega)).mp q))).2.1 (by decide) (by decide) ?_
      show Steps p.tables e below (TJ16.setTop (mkF m 44 #[.val (.ref ca), .val (.int (Nat.toInt32 cs.length)), .val (.ref da), .val (.int (Nat.toInt32 cs.length)), .val (.int (Nat.toInt32 cs.length)), .val (.int (Nat.toInt32 cs.length)), s6] [])) _
      refine XS.iload XJ16.here hx rfl (hb hby d6_44) rfl ?_
      show Steps p.tables e below (TJ16.setTop (mkF m 46 #[.val (.ref ca), .val (.int (Nat.toInt32 cs.length)), .val (.ref da), .val (.int (Nat.toInt32 cs.length)), .val (.int (Nat.toInt32 cs.length)), .val (.int (Nat.toInt32 cs.length)), s6] [(.int (Nat.toInt32 cs.length))])) _
      exact kt)
    obtain ⟨frs, hr, hrun, hended, hW, hsame⟩ := XJ16.leave (v := some (.int (Nat.toInt32 cs.length))) (fun h => by rw [Bd.returns] at h; cases h)
    refine ⟨_, _, cn18 _ ?_, hrun, hended, _, _, rfl, ?_, ⟨_, rfl⟩, hW, hsame.mono (by decide) (by decide)⟩
    · exact retI XJ16 hx Bd.returns (hb hby d6_46) hr
    · show QC5 Z cs da kd h0 n0 _ TJ16.heap _
      rw [eJ16]
      exact Or.inl ⟨fd, rfl, NJ16, KJ16, Ad, hfd⟩
  · exact ⟨s₁, h0, _, 0, fd0, _, own_up X0 (by decide) (by decide), e0, N0, O0, (Keep.refl h0 [da]), (Nat.zero_add _), One.u, A_ca, A_da, (fun j hj => absurd hj (Nat.not_lt_zero j)), cn1⟩

theorem d5_0 : decode jdk_52_method_16_code 0 = .ok (.iload_n 2, 1) := by decide +kernel
theorem d5_1 : decode jdk_52_method_16_code 1 = .ok (.newarray .byte, 2) := by decide +kernel
theorem d5_3 : decode jdk_52_method_16_code 3 = .ok (.astore_n 3, 1) := by decide +kernel
theorem d5_4 : decode jdk_52_method_16_code 4 = .ok (.aload_n 0, 1) := by decide +kernel
theorem d5_5 : decode jdk_52_method_16_code 5 = .ok (.iload_n 1, 1) := by decide +kernel
theorem d5_6 : decode jdk_52_method_16_code 6 = .ok (.aload_n 3, 1) := by decide +kernel
theorem d5_7 : decode jdk_52_method_16_code 7 = .ok (.iconst 0, 1) := by decide +kernel
theorem d5_8 : decode jdk_52_method_16_code 8 = .ok (.iload_n 2, 1) := by decide +kernel
theorem d5_9 : decode jdk_52_method_16_code 9 = .ok (.invokestatic 115, 3) := by decide +kernel
theorem d5_12 : decode jdk_52_method_16_code 12 = .ok (.istore 4, 2) := by decide +kernel
theorem d5_14 : decode jdk_52_method_16_code 14 = .ok (.iload 4, 2) := by decide +kernel
theorem d5_16 : decode jdk_52_method_16_code 16 = .ok (.iload_n 2, 1) := by decide +kernel
theorem d5_17 : decode jdk_52_method_16_code 17 = .ok (.if_icmp .eq 40, 3) := by decide +kernel
theorem d5_20 : decode jdk_52_method_16_code 20 = .ok (.aload_n 0, 1) := by decide +kernel
theorem d5_21 : decode jdk_52_method_16_code 21 = .ok (.iload_n 1, 1) := by decide +kernel
theorem d5_22 : decode jdk_52_method_16_code 22 = .ok (.iload_n 2, 1) := by decide +kernel
theorem d5_23 : decode jdk_52_method_16_code 23 = .ok (.invokestatic 119, 3) := by decide +kernel
theorem d5_26 : decode jdk_52_method_16_code 26 = .ok (.astore 5, 2) := by decide +kernel
theorem d5_28 : decode jdk_52_method_16_code 28 = .ok (.aload 5, 2) := by decide +kernel
theorem d5_30 : decode jdk_52_method_16_code 30 = .ok (.iload 4, 2) := by decide +kernel
theorem d5_32 : decode jdk_52_method_16_code 32 = .ok (.invokestatic 71, 3) := by decide +kernel
theorem d5_35 : decode jdk_52_method_16_code 35 = .ok (.sipush 255, 3) := by decide +kernel
theorem d5_38 : decode jdk_52_method_16_code 38 = .ok (.if_icmp .gt 16, 3) := by decide +kernel
theorem d5_54 : decode jdk_52_method_16_code 54 = .ok (.aload 5, 2) := by decide +kernel
theorem d5_56 : decode jdk_52_method_16_code 56 = .ok (.areturn, 1) := by decide +kernel
theorem d5_57 : decode jdk_52_method_16_code 57 = .ok (.aload_n 3, 1) := by decide +kernel
theorem d5_58 : decode jdk_52_method_16_code 58 = .ok (.areturn, 1) := by decide +kernel
theorem pd_5 : parseMethodDescriptor "([BI)C" = some ⟨[(.array .byte), .int], some .char⟩ := by decide +kernel
theorem pd_4 : parseMethodDescriptor "([CII)[B" = some ⟨[(.array .char), .int, .int], some (.array .byte)⟩ := by decide +kernel
theorem pd_3 : parseMethodDescriptor "([CI[BII)I" = some ⟨[(.array .char), .int, (.array .byte), .int, .int], some .int⟩ := by decide +kernel
theorem ef_5 (m : MethodId) (x0 : Addr) (x1 : Int32) (x2 : Int32) : entryFrame m #[(.ref x0), (.int x1), (.int x2)] 6 = mkF m 0 #[.val (.ref x0), .val (.int x1), .val (.int x2), .unset, .unset, .unset] [] := by first | (simp [entryFrame, mkF, argsToLocals, Value.category]; done) | rfl
set_option maxRecDepth 65536 in
set_option maxHeartbeats 40000000 in
theorem rm5 (l : Launch) (Z : State) (a0 : Array Value) (hw : ∀ d ∈ tables_1, d.before a0 Z = true) (ws : List Jvm.Cond) (ca : Addr) (kc : ClassId) (cs : List Int32) (co : Int32) (vf : Value) (h0 : Heap) (n0 : Nat) (O0 : Old Z n0 h0) (hn : cs.length ≤ 4) (hu : own_u cs) (A_ca : AF Z h0 ca kc .char cs.length (fun j => .int (cs.getD j 0))) (SWh : SW Z co vf) :
    MetFree l (⟨"java/lang/StringUTF16", "compress", "([CII)[B"⟩ : MethodName) (head1 (Jvm.Cond.code (⟨"java/lang/StringUTF16", "compress", "([CII)[B"⟩ : MethodName) jdk_52_method_16_code 6 (some (.array .byte)) :: ws) ({ frames := 3, cells := 2, slots := 12, locals := 40 } : Room)) (fun aQ U => aQ = #[(.ref ca), (.int (0 : Int32)), (.int (Nat.toInt32 cs.length))] ∧ Z.Warmed39 U.vm ∧ U.heap = h0) (fun _ _ _ _ _ => True) (fun _ U o U' => ∃ v L, o = .returned v ∧ QC3 Z cs h0 n0 v U'.heap L ∧ FrameEnd U o U' L ({ frames := 3, cells := 2, slots := 12, locals := 40 } : Room).cells ({ frames := 3, cells := 2, slots := 12, locals := 40 } : Room).slots) := by
  refine MetFree.of_bodySF (plainFor_of_name pn_java_lang_StringUTF16) hisR ?_
  intro p e s m args below meth kode s₁ Bd hml0 hP hK
  obtain ⟨rfl, hZ, hh⟩ := hP
  have hx := Bd.exec
  have hby := Bd.bytes
  have hml : kode.maxLocals = 6 := hml0
  have hown : s.vm.findClass "java/lang/StringUTF16" = some m.cls := findClass_of_methodNamed Bd.named
  have hnm := (name_of_methodNamed Bd.named Bd.method).1
  have X0 : Stand p l e ({ frames := 3, cells := 2, slots := 12, locals := 40 } : Room) s m #[(.ref ca), (.int (0 : Int32)), (.int (Nat.toInt32 cs.length))] below meth kode s₁ [] 0 0 := Stand.of_body Bd
  have e0 : s₁.heap = h0 := by rw [← hh, Bd.state]; rfl
  have N0 := Fr.nil n0
  have pre0 : ∀ t, Steps p.tables e below (s₁.setTop (mkF m 0 #[.val (.ref ca), .val (.int (0 : Int32)), .val (.int (Nat.toInt32 cs.length)), .unset, .unset, .unset] [])) t → Steps p.tables e below (s₁.setTop (entryFrame m #[(.ref ca), (.int (0 : Int32)), (.int (Nat.toInt32 cs.length))] 6)) t := fun t k => castTop (ef_5 m ca (0 : Int32) (Nat.toInt32 cs.length)) k
  have SWx := SWh
  obtain ⟨S_CS, hcs, S_AD, S_HI, S_LO, S_SI, hcat_vf⟩ := SWx
  have hx2 := own_ix (i := cs.length) (by omega)
  have cn1 := fun (t : State) (kt : Steps p.tables e below (s₁.setTop (mkF m 1 #[.val (.ref ca), .val (.int (0 : Int32)), .val (.int (Nat.toInt32 cs.length)), .unset, .unset, .unset] [(.int (Nat.toInt32 cs.length))])) t) => pre0 t (by
    refine XS.iloadN X0.here hx rfl (hb hby d5_0) rfl ?_
    show Steps p.tables e below (s₁.setTop (mkF m 1 #[.val (.ref ca), .val (.int (0 : Int32)), .val (.int (Nat.toInt32 cs.length)), .unset, .unset, .unset] [(.int (Nat.toInt32 cs.length))])) _
    exact kt)
  obtain ⟨T2, h2, k2, X2, e2, E2, A2, st2⟩ := newP X0 hx hZ (hw _ (List.mem_of_getElem? (i := 25) rfl)) e0 (g := (mkF m 1 #[.val (.ref ca), .val (.int (0 : Int32)), .val (.int (Nat.toInt32 cs.length)), .unset, .unset, .unset] [(.int (Nat.toInt32 cs.length))])) rfl (hb hby d5_1) rfl hx2.1 (cap := 4) (by rw [hx2.2]; exact hn) (by decide) (by decide) (by decide)
  obtain ⟨b2, g2⟩ : ∃ z, z = h0.size := ⟨_, rfl⟩
  rw [← g2] at A2 st2
  have ne_ca_b2 : ca ≠ b2 := Nat.ne_of_lt (Nat.lt_of_lt_of_le A_ca.lt (Nat.le_of_eq g2.symm))
  have sz_b2 : h0.size ≤ b2 := Nat.le_trans (Keep.refl h0 []).1 (Nat.le_of_eq g2.symm)
  have g_b2 : n0 ≤ b2 := Nat.le_trans (O0.1 ▸ O0.2.1) sz_b2
  have A_ca_e2 := A_ca.ext E2
  have O2 := O0.ext E2
  have K2 : Keep h0 h2 [] := (Keep.refl h0 []).ext E2
  have AF2 : AF Z h2 b2 k2 .byte cs.length (fun _ => defaultValue .byte) := AF.new A2 hx2.2
  have cn3 := fun (t : State) (kt : Steps p.tables e below (T2.setTop (mkF m 9 #[.val (.ref ca), .val (.int (0 : Int32)), .val (.int (Nat.toInt32 cs.length)), .val (.ref b2), .unset, .unset] [(.int (Nat.toInt32 cs.length)), (.int (0 : Int32)), (.ref b2), (.int (0 : Int32)), (.ref ca)])) t) => cn1 t (by
    refine st2 _ ?_
    show Steps p.tables e below (T2.setTop (mkF m 3 #[.val (.ref ca), .val (.int (0 : Int32)), .val (.int (Nat.toInt32 cs.length)), .unset, .unset, .unset] [(.ref b2)])) _
    refine XS.astoreN X2.here hx rfl (hb hby d5_3) rfl rfl (l' := #[.val (.ref ca), .val (.int (0 : Int32)), .val (.int (Nat.toInt32 cs.length)), .val (.ref b2), .unset, .unset]) rfl ?_
    show Steps p.tables e below (T2.setTop (mkF m 4 #[.val (.ref ca), .val (.int (0 : Int32)), .val (.int (Nat.toInt32 cs.length)), .val (.ref b2), .unset, .unset] [])) _
    refine XS.aloadN X2.here hx rfl (hb hby d5_4) rfl rfl ?_
    show Steps p.tables e below (T2.setTop (mkF m 5 #[.val (.ref ca), .val (.int (0 : Int32)), .val (.int (Nat.toInt32 cs.length)), .val (.ref b2), .unset, .unset] [(.ref ca)])) _
    refine XS.iloadN X2.here hx rfl (hb hby d5_5) rfl ?_
    show Steps p.tables e below (T2.setTop (mkF m 6 #[.val (.ref ca), .val (.int (0 : Int32)), .val (.int (Nat.toInt32 cs.length)), .val (.ref b2), .unset, .unset] [(.int (0 : Int32)), (.ref ca)])) _
    refine XS.aloadN X2.here hx rfl (hb hby d5_6) rfl rfl ?_
    show Steps p.tables e below (T2.setTop (mkF m 7 #[.val (.ref ca), .val (.int (0 : Int32)), .val (.int (Nat.toInt32 cs.length)), .val (.ref b2), .unset, .unset] [(.ref b2), (.int (0 : Int32)), (.ref ca)])) _
    refine XS.iconst X2.here hx rfl (hb hby d5_7) ?_
    show Steps p.tables e below (T2.setTop (mkF m 8 #[.val (.ref ca), .val (.int (0 : Int32)), .val (.int (Nat.toInt32 cs.length)), .val (.ref b2), .unset, .unset] [(.int (0 : Int32)), (.ref b2), (.int (0 : Int32)), (.ref ca)])) _
    refine XS.iloadN X2.here hx rfl (hb hby d5_8) rfl ?_
    show Steps p.tables e below (T2.setTop (mkF m 9 #[.val (.ref ca), .val (.int (0 : Int32)), .val (.int (Nat.toInt32 cs.length)), .val (.ref b2), .unset, .unset] [(.int (Nat.toInt32 cs.length)), (.int (0 : Int32)), (.ref b2), (.int (0 : Int32)), (.ref ca)])) _
    exact kt)
  obtain ⟨_, _, ⟨T4, L4, k4, n4⟩, -, X4, ⟨Lc4, hQ4, l4, y4, z4⟩, st4⟩ := Jvm.LawKit.callS X2 hx (y := (⟨"java/lang/StringUTF16", "compress", "([CI[BII)I"⟩ : MethodName)) hown (mvT hZ (hw _ (List.mem_of_getElem? (i := 26) rfl))) (mvT hZ (hw _ (List.mem_of_getElem? (i := 27) rfl))) (mvT hZ (hw _ (List.mem_of_getElem? (i := 23) rfl))) (mvT hZ (hw _ (List.mem_of_getElem? (i := 28) rfl))) (by decide) (backOf (W := 0) (rm6 l Z a0 hw [] ca b2 kc k2 cs (fun _ => defaultValue .byte) h2 n0 O2 g_b2 ne_ca_b2 hn A_ca_e2 AF2) hZ (hw _ (List.mem_of_getElem? (i := 28) rfl)) (hw _ (List.mem_of_getElem? (i := 23) rfl)) (by decide) (by decide)) (g := (mkF m 9 #[.val (.ref ca), .val (.int (0 : Int32)), .val (.int (Nat.toInt32 cs.length)), .val (.ref b2), .unset, .unset] [(.int (Nat.toInt32 cs.length)), (.int (0 : Int32)), (.ref b2), (.int (0 : Int32)), (.ref ca)])) rfl (by rw [hml]; rfl) (argsL := [(.ref ca), (.int (0 : Int32)), (.ref b2), (.int (0 : Int32)), (.int (Nat.toInt32 cs.length))]) (rest := []) (lenOf pd_3 rfl) rfl (by show 2 * 0 + _ ≤ _; exact Nat.le_of_eq rfl) (hb hby d5_9) (fun _ _ => ⟨rfl, e2, (by decide : 1 + 0 ≤ _), (by decide : 4 + 0 ≤ _)⟩)
  dsimp only [Pt.U, Pt.locs, Pt.cells, Pt.slots] at X4 l4 y4 z4 st4 hQ4
  subst l4 y4 z4
  rcases hQ4 with ⟨f4, rfl, Nq4, Kq4, Aq4, hL4⟩ | ⟨i, rfl, Nq4, Kq4, hil, hgt⟩
  · have N4 := Fr.app N0 Nq4
    have K4 := Kq4
    have A_ca_e4 := A_ca_e2.keep K4 (ninS ne_ca_b2 nin0)
    have O4 := O2.keep K4 (allS g_b2 all0)
    have KK4 : Keep h0 T4.heap [] := K2.trans K4 (allS (Or.inr sz_b2) all0)
    have cn5 := fun (t : State) (kt : Steps p.tables e below (T4.setTop (mkF m 17 #[.val (.ref ca), .val (.int (0 : Int32)), .val (.int (Nat.toInt32 cs.length)), .val (.ref b2), .val (.int (Nat.toInt32 cs.length)), .unset] [(.int (Nat.toInt32 cs.length)), (.int (Nat.toInt32 cs.length))])) t) => cn3 t (by
      refine st4 _ ?_
      show Steps p.tables e below (T4.setTop (mkF m 12 #[.val (.ref ca), .val (.int (0 : Int32)), .val (.int (Nat.toInt32 cs.length)), .val (.ref b2), .unset, .unset] [(.int (Nat.toInt32 cs.length))])) _
      refine XS.istore X4.here hx rfl (hb hby d5_12) rfl (l' := #[.val (.ref ca), .val (.int (0 : Int32)), .val (.int (Nat.toInt32 cs.length)), .val (.ref b2), .val (.int (Nat.toInt32 cs.length)), .unset]) rfl ?_
      show Steps p.tables e below (T4.setTop (mkF m 14 #[.val (.ref ca), .val (.int (0 : Int32)), .val (.int (Nat.toInt32 cs.length)), .val (.ref b2), .val (.int (Nat.toInt32 cs.length)), .unset] [])) _
      refine XS.iload X4.here hx rfl (hb hby d5_14) rfl ?_
      show Steps p.tables e below (T4.setTop (mkF m 16 #[.val (.ref ca), .val (.int (0 : Int32)), .val (.int (Nat.toInt32 cs.length)), .val (.ref b2), .val (.int (Nat.toInt32 cs.length)), .unset] [(.int (Nat.toInt32 cs.length))])) _
      refine XS.iloadN X4.here hx rfl (hb hby d5_16) rfl ?_
      show Steps p.tables e below (T4.setTop (mkF m 17 #[.val (.ref ca), .val (.int (0 : Int32)), .val (.int (Nat.toInt32 cs.length)), .val (.ref b2), .val (.int (Nat.toInt32 cs.length)), .unset] [(.int (Nat.toInt32 cs.length)), (.int (Nat.toInt32 cs.length))])) _
      exact kt)
    have cn6 := fun (t : State) (kt : Steps p.tables e below (T4.setTop (mkF m 58 #[.val (.ref ca), .val (.int (0 : Int32)), .val (.int (Nat.toInt32 cs.length)), .val (.ref b2), .val (.int (Nat.toInt32 cs.length)), .unset] [(.ref b2)])) t) => cn5 t (by
      refine XS.icmpYes X4.here hx rfl (pc0 := 17) (pc' := 57) rfl (hb hby d5_17) rfl (teq (rfl : (Nat.toInt32 cs.length) = (Nat.toInt32 cs.length))).1 (by decide) (by decide) ?_
      show Steps p.tables e below (T4.setTop (mkF m 57 #[.val (.ref ca), .val (.int (0 : Int32)), .val (.int (Nat.toInt32 cs.length)), .val (.ref b2), .val (.int (Nat.toInt32 cs.length)), .unset] [])) _
      refine XS.aloadN X4.here hx rfl (hb hby d5_57) rfl rfl ?_
      show Steps p.tables e below (T4.setTop (mkF m 58 #[.val (.ref ca), .val (.int (0 : Int32)), .val (.int (Nat.toInt32 cs.length)), .val (.ref b2), .val (.int (Nat.toInt32 cs.length)), .unset] [(.ref b2)])) _
      exact kt)
    obtain ⟨frs, hr, hrun, hended, hW, hsame⟩ := X4.leave (v := some (.ref b2)) (fun h => by rw [Bd.returns] at h; cases h)
    refine ⟨_, _, cn6 _ ?_, hrun, hended, _, _, rfl, ?_, ⟨_, rfl⟩, hW, hsame.mono (by decide) (by decide)⟩
    · jvm_step X4.here [X4.here.top, hx, (hb hby d5_58), X4.method', Bd.returns, Value.isRef, FieldType.isReference]
      first | (intro acts; rw [hr _ acts rfl rfl rfl]) | rw [hr _ _ rfl rfl rfl]
      exact Steps.refl _
    · show QC3 Z cs h0 n0 _ T4.heap _
      exact Or.inl ⟨b2, k2, _, rfl, N4, KK4, sz_b2, Aq4, hL4⟩
  · have N4 := Fr.app N0 Nq4
    have K4 := Kq4
    have A_ca_e4 := A_ca_e2.keep K4 (ninS ne_ca_b2 nin0)
    have O4 := O2.keep K4 (allS g_b2 all0)
    have KK4 : Keep h0 T4.heap [] := K2.trans K4 (allS (Or.inr sz_b2) all0)
    have hne := Nat.ne_of_lt hil
    have cn7 := fun (t : State) (kt : Steps p.tables e below (T4.setTop (mkF m 17 #[.val (.ref ca), .val (.int (0 : Int32)), .val (.int (Nat.toInt32 cs.length)), .val (.ref b2), .val (.int (Nat.toInt32 i)), .unset] [(.int (Nat.toInt32 cs.length)), (.int (Nat.toInt32 i))])) t) => cn3 t (by
      refine st4 _ ?_
      show Steps p.tables e below (T4.setTop (mkF m 12 #[.val (.ref ca), .val (.int (0 : Int32)), .val (.int (Nat.toInt32 cs.length)), .val (.ref b2), .unset, .unset] [(.int (Nat.toInt32 i))])) _
      refine XS.istore X4.here hx rfl (hb hby d5_12) rfl (l' := #[.val (.ref ca), .val (.int (0 : Int32)), .val (.int (Nat.toInt32 cs.length)), .val (.ref b2), .val (.int (Nat.toInt32 i)), .unset]) rfl ?_
      show Steps p.tables e below (T4.setTop (mkF m 14 #[.val (.ref ca), .val (.int (0 : Int32)), .val (.int (Nat.toInt32 cs.length)), .val (.ref b2), .val (.int (Nat.toInt32 i)), .unset] [])) _
      refine XS.iload X4.here hx rfl (hb hby d5_14) rfl ?_
      show Steps p.tables e below (T4.setTop (mkF m 16 #[.val (.ref ca), .val (.int (0 : Int32)), .val (.int (Nat.toInt32 cs.length)), .val (.ref b2), .val (.int (Nat.toInt32 i)), .unset] [(.int (Nat.toInt32 i))])) _
      refine XS.iloadN X4.here hx rfl (hb hby d5_16) rfl ?_
      show Steps p.tables e below (T4.setTop (mkF m 17 #[.val (.ref ca), .val (.int (0 : Int32)), .val (.int (Nat.toInt32 cs.length)), .val (.ref b2), .val (.int (Nat.toInt32 i)), .unset] [(.int (Nat.toInt32 cs.length)), (.int (Nat.toInt32 i))])) _
      exact kt)
    have cn8 := fun (t : State) (kt : Steps p.tables e below (T4.setTop (mkF m 23 #[.val (.ref ca), .val (.int (0 : Int32)), .val (.int (Nat.toInt32 cs.length)), .val (.ref b2), .val (.int (Nat.toInt32 i)), .unset] [(.int (Nat.toInt32 cs.length)), (.int (0 : Int32)), (.ref ca)])) t) => cn7 t (by
      refine XS.icmpNo X4.here hx rfl (hb hby d5_17) rfl (feq (fun q => hne ((own_eqn (by omega) (by omega)).mp q))).1 ?_
      show Steps p.tables e below (T4.setTop (mkF m 20 #[.val (.ref ca), .val (.int (0 : Int32)), .val (.int (Nat.toInt32 cs.length)), .val (.ref b2), .val (.int (Nat.toInt32 i)), .unset] [])) _
      refine XS.aloadN X4.here hx rfl (hb hby d5_20) rfl rfl ?_
      show Steps p.tables e below (T4.setTop (mkF m 21 #[.val (.ref ca), .val (.int (0 : Int32)), .val (.int (Nat.toInt32 cs.length)), .val (.ref b2), .val (.int (Nat.toInt32 i)), .unset] [(.ref ca)])) _
      refine XS.iloadN X4.here hx rfl (hb hby d5_21) rfl ?_
      show Steps p.tables e below (T4.setTop (mkF m 22 #[.val (.ref ca), .val (.int (0 : Int32)), .val (.int (Nat.toInt32 cs.length)), .val (.ref b2), .val (.int (Nat.toInt32 i)), .unset] [(.int (0 : Int32)), (.ref ca)])) _
      refine XS.iloadN X4.here hx rfl (hb hby d5_22) rfl ?_
      show Steps p.tables e below (T4.setTop (mkF m 23 #[.val (.ref ca), .val (.int (0 : Int32)), .val (.int (Nat.toInt32 cs.length)), .val (.ref b2), .val (.int (Nat.toInt32 i)), .unset] [(.int (Nat.toInt32 cs.length)), (.int (0 : Int32)), (.ref ca)])) _
      exact kt)
    obtain ⟨_, _, ⟨T9, L9, k9, n9⟩, -, X9, ⟨Lc9, hQ9, l9, y9, z9⟩, st9⟩ := Jvm.LawKit.callS X4 hx (y := (⟨"java/lang/StringUTF16", "toBytes", "([CII)[B"⟩ : MethodName)) hown (mvT hZ (hw _ (List.mem_of_getElem? (i := 75) rfl))) (mvT hZ (hw _ (List.mem_of_getElem? (i := 76) rfl))) (mvT hZ (hw _ (List.mem_of_getElem? (i := 23) rfl))) (mvT hZ (hw _ (List.mem_of_getElem? (i := 77) rfl))) (by decide) (backOf (W := 0) (rm17 l Z a0 hw [] ca kc cs co vf T4.heap n0 O4 hn A_ca_e4 SWh) hZ (hw _ (List.mem_of_getElem? (i := 77) rfl)) (hw _ (List.mem_of_getElem? (i := 23) rfl)) (by decide) (by decide)) (g := (mkF m 23 #[.val (.ref ca), .val (.int (0 : Int32)), .val (.int (Nat.toInt32 cs.length)), .val (.ref b2), .val (.int (Nat.toInt32 i)), .unset] [(.int (Nat.toInt32 cs.length)), (.int (0 : Int32)), (.ref ca)])) rfl (by rw [hml]; rfl) (argsL := [(.ref ca), (.int (0 : Int32)), (.int (Nat.toInt32 cs.length))]) (rest := []) (lenOf pd_4 rfl) rfl (by show 2 * 0 + _ ≤ _; exact Nat.le_of_eq rfl) (hb hby d5_23) (fun _ _ => ⟨rfl, rfl, (by decide : 1 + 1 ≤ _), (by decide : 4 + 8 ≤ _)⟩)
    dsimp only [Pt.U, Pt.locs, Pt.cells, Pt.slots] at X9 l9 y9 z9 st9 hQ9
    subst l9 y9 z9
    obtain ⟨r9x, kq9, f9, rfl, Nq9, Kq9, szq9, Aq9, hU9⟩ := hQ9
    have N9 := Fr.app N4 Nq9
    have ne_ca_r9x : ca ≠ r9x := Nat.ne_of_lt (Nat.lt_of_lt_of_le A_ca_e4.lt szq9)
    have sz_r9x : h0.size ≤ r9x := Nat.le_trans KK4.1 szq9
    have g_r9x : n0 ≤ r9x := Nat.le_trans (O0.1 ▸ O0.2.1) sz_r9x
    have K9 := Kq9
    have A_ca_e9 := A_ca_e4.keep K9 nin0
    have O9 := O4.keep K9 all0
    have KK9 : Keep h0 T9.heap [] := KK4.trans K9 all0
    have cn10 := fun (t : State) (kt : Steps p.tables e below (T9.setTop (mkF m 32 #[.val (.ref ca), .val (.int (0 : Int32)), .val (.int (Nat.toInt32 cs.length)), .val (.ref b2), .val (.int (Nat.toInt32 i)), .val (.ref r9x)] [(.int (Nat.toInt32 i)), (.ref r9x)])) t) => cn8 t (by
      refine st9 _ ?_
      show Steps p.tables e below (T9.setTop (mkF m 26 #[.val (.ref ca), .val (.int (0 : Int32)), .val (.int (Nat.toInt32 cs.length)), .val (.ref b2), .val (.int (Nat.toInt32 i)), .unset] [(.ref r9x)])) _
      refine XS.astore X9.here hx rfl (hb hby d5_26) rfl rfl (l' := #[.val (.ref ca), .val (.int (0 : Int32)), .val (.int (Nat.toInt32 cs.length)), .val (.ref b2), .val (.int (Nat.toInt32 i)), .val (.ref r9x)]) rfl ?_
      show Steps p.tables e below (T9.setTop (mkF m 28 #[.val (.ref ca), .val (.int (0 : Int32)), .val (.int (Nat.toInt32 cs.length)), .val (.ref b2), .val (.int (Nat.toInt32 i)), .val (.ref r9x)] [])) _
      refine XS.aload X9.here hx rfl (hb hby d5_28) rfl rfl ?_
      show Steps p.tables e below (T9.setTop (mkF m 30 #[.val (.ref ca), .val (.int (0 : Int32)), .val (.int (Nat.toInt32 cs.length)), .val (.ref b2), .val (.int (Nat.toInt32 i)), .val (.ref r9x)] [(.ref r9x)])) _
      refine XS.iload X9.here hx rfl (hb hby d5_30) rfl ?_
      show Steps p.tables e below (T9.setTop (mkF m 32 #[.val (.ref ca), .val (.int (0 : Int32)), .val (.int (Nat.toInt32 cs.length)), .val (.ref b2), .val (.int (Nat.toInt32 i)), .val (.ref r9x)] [(.int (Nat.toInt32 i)), (.ref r9x)])) _
      exact kt)
    obtain ⟨_, _, ⟨T11, L11, k11, n11⟩, -, X11, ⟨Lc11, hQ11, l11, y11, z11⟩, st11⟩ := Jvm.LawKit.callS X9 hx (y := (⟨"java/lang/StringUTF16", "getChar", "([BI)C"⟩ : MethodName)) hown (mvT hZ (hw _ (List.mem_of_getElem? (i := 91) rfl))) (mvT hZ (hw _ (List.mem_of_getElem? (i := 92) rfl))) (mvT hZ (hw _ (List.mem_of_getElem? (i := 23) rfl))) (mvT hZ (hw _ (List.mem_of_getElem? (i := 93) rfl))) (by decide) (backOf (W := 0) (rm21 l Z a0 hw [] r9x kq9 (2 * cs.length) i f9 (own_b0 (cs.getD i 0)) (own_b1 (cs.getD i 0)) co vf T9.heap n0 O9 (by omega) (by omega) (hU9 i hil).1 (hU9 i hil).2 Aq9 SWh) hZ (hw _ (List.mem_of_getElem? (i := 93) rfl)) (hw _ (List.mem_of_getElem? (i := 23) rfl)) (by decide) (by decide)) (g := (mkF m 32 #[.val (.ref ca), .val (.int (0 : Int32)), .val (.int (Nat.toInt32 cs.length)), .val (.ref b2), .val (.int (Nat.toInt32 i)), .val (.ref r9x)] [(.int (Nat.toInt32 i)), (.ref r9x)])) rfl (by rw [hml]; rfl) (argsL := [(.ref r9x), (.int (Nat.toInt32 i))]) (rest := []) (lenOf pd_5 rfl) rfl (by show 2 * 0 + _ ≤ _; exact Nat.le_of_eq rfl) (hb hby d5_32) (fun _ _ => ⟨rfl, rfl, (by decide : 2 + 0 ≤ _), (by decide : 12 + 0 ≤ _)⟩)
    dsimp only [Pt.U, Pt.locs, Pt.cells, Pt.slots] at X11 l11 y11 z11 st11 hQ11
    subst l11 y11 z11
    obtain ⟨rfl, Nq11, eh11⟩ := hQ11
    have N11 := Fr.app N9 Nq11
    have cn12 := fun (t : State) (kt : Steps p.tables e below (T11.setTop (mkF m 38 #[.val (.ref ca), .val (.int (0 : Int32)), .val (.int (Nat.toInt32 cs.length)), .val (.ref b2), .val (.int (Nat.toInt32 i)), .val (.ref r9x)] [(.int (255 : Int32)), (.int (own_gc (own_b0 (cs.getD i 0)) (own_b1 (cs.getD i 0))))])) t) => cn10 t (by
      refine st11 _ ?_
      show Steps p.tables e below (T11.setTop (mkF m 35 #[.val (.ref ca), .val (.int (0 : Int32)), .val (.int (Nat.toInt32 cs.length)), .val (.ref b2), .val (.int (Nat.toInt32 i)), .val (.ref r9x)] [(.int (own_gc (own_b0 (cs.getD i 0)) (own_b1 (cs.getD i 0))))])) _
      refine XS.sipush X11.here hx rfl (hb hby d5_35) ?_
      show Steps p.tables e below (T11.setTop (mkF m 38 #[.val (.ref ca), .val (.int (0 : Int32)), .val (.int (Nat.toInt32 cs.length)), .val (.ref b2), .val (.int (Nat.toInt32 i)), .val (.ref r9x)] [(.int (255 : Int32)), (.int (own_gc (own_b0 (cs.getD i 0)) (own_b1 (cs.getD i 0))))])) _
      exact kt)
    have cn13 := fun (t : State) (kt : Steps p.tables e below (T11.setTop (mkF m 56 #[.val (.ref ca), .val (.int (0 : Int32)), .val (.int (Nat.toInt32 cs.length)), .val (.ref b2), .val (.int (Nat.toInt32 i)), .val (.ref r9x)] [(.ref r9x)])) t) => cn12 t (by
      refine XS.icmpYes X11.here hx rfl (pc0 := 38) (pc' := 54) rfl (hb hby d5_38) rfl (tlt (by rw [own_gc_b (hu i).1 (hu i).2]; exact hgt)).2.2.1 (by decide) (by decide) ?_
      show Steps p.tables e below (T11.setTop (mkF m 54 #[.val (.ref ca), .val (.int (0 : Int32)), .val (.int (Nat.toInt32 cs.length)), .val (.ref b2), .val (.int (Nat.toInt32 i)), .val (.ref r9x)] [])) _
      refine XS.aload X11.here hx rfl (hb hby d5_54) rfl rfl ?_
      show Steps p.tables e below (T11.setTop (mkF m 56 #[.val (.ref ca), .val (.int (0 : Int32)), .val (.int (Nat.toInt32 cs.length)), .val (.ref b2), .val (.int (Nat.toInt32 i)), .val (.ref r9x)] [(.ref r9x)])) _
      exact kt)
    obtain ⟨frs, hr, hrun, hended, hW, hsame⟩ := X11.leave (v := some (.ref r9x)) (fun h => by rw [Bd.returns] at h; cases h)
    refine ⟨_, _, cn13 _ ?_, hrun, hended, _, _, rfl, ?_, ⟨_, rfl⟩, hW, hsame.mono (by decide) (by decide)⟩
    · jvm_step X11.here [X11.here.top, hx, (hb hby d5_56), X11.method', Bd.returns, Value.isRef, FieldType.isReference]
      first | (intro acts; rw [hr _ acts rfl rfl rfl]) | rw [hr _ _ rfl rfl rfl]
      exact Steps.refl _
    · show QC3 Z cs h0 n0 _ T11.heap _
      rw [eh11]
      exact Or.inr ⟨r9x, kq9, _, rfl, N11, KK9, sz_r9x, Aq9, ⟨hU9, i, hil, hgt⟩⟩

theorem d7_0 : decode jdk_52_method_15_code 0 = .ok (.iload_n 1, 1) := by decide +kernel
theorem d7_1 : decode jdk_52_method_15_code 1 = .ok (.aload_n 0, 1) := by decide +kernel
theorem d7_2 : decode jdk_52_method_15_code 2 = .ok (.arraylength, 1) := by decide +kernel
theorem d7_3 : decode jdk_52_method_15_code 3 = .ok (.isub, 1) := by decide +kernel
theorem d7_4 : decode jdk_52_method_15_code 4 = .ok (.bipush 31, 2) := by decide +kernel
theorem d7_6 : decode jdk_52_method_15_code 6 = .ok (.iushr, 1) := by decide +kernel
theorem d7_7 : decode jdk_52_method_15_code 7 = .ok (.i2b, 1) := by decide +kernel
theorem d7_8 : decode jdk_52_method_15_code 8 = .ok (.ireturn, 1) := by decide +kernel
theorem ef_7L (m : MethodId) (x0 : Addr) (x1 : Int32) : entryFrame m #[(.ref x0), (.int x1)] 2 = mkF m 0 #[.val (.ref x0), .val (.int x1)] [] := by first | (simp [entryFrame, mkF, argsToLocals, Value.category]; done) | rfl
set_option maxRecDepth 65536 in
set_option maxHeartbeats 40000000 in
theorem rm7L (l : Launch) (Z : State) (a0 : Array Value) (hw : ∀ d ∈ tables_1, d.before a0 Z = true) (ws : List Jvm.Cond) (ba : Addr) (k : ClassId) (n : Nat) (f : Nat → Value) (h0 : Heap) (n0 : Nat) (O0 : Old Z n0 h0) (hn0 : 0 < n) (hn : n ≤ 4) (A_ba : AF Z h0 ba k .byte n f) :
    MetFree l (⟨"java/lang/StringUTF16", "coderFromArrayLen", "([BI)B"⟩ : MethodName) (head1 (Jvm.Cond.code (⟨"java/lang/StringUTF16", "coderFromArrayLen", "([BI)B"⟩ : MethodName) jdk_52_method_15_code 2 (some .byte) :: ws) ({ frames := 0, cells := 0, slots := 0, locals := 0 } : Room)) (fun aQ U => aQ = #[(.ref ba), (.int (Nat.toInt32 n))] ∧ Z.Warmed39 U.vm ∧ U.heap = h0) (fun _ _ _ _ _ => True) (fun _ U o U' => ∃ v L, o = .returned v ∧ QI 0 h0 n0 v U'.heap L ∧ FrameEnd U o U' L ({ frames := 0, cells := 0, slots := 0, locals := 0 } : Room).cells ({ frames := 0, cells := 0, slots := 0, locals := 0 } : Room).slots) := by
  refine MetFree.of_bodySF (plainFor_of_name pn_java_lang_StringUTF16) hisR ?_
  intro p e s m args below meth kode s₁ Bd hml0 hP hK
  obtain ⟨rfl, hZ, hh⟩ := hP
  have hx := Bd.exec
  have hby := Bd.bytes
  have hml : kode.maxLocals = 2 := hml0
  have hown : s.vm.findClass "java/lang/StringUTF16" = some m.cls := findClass_of_methodNamed Bd.named
  have hnm := (name_of_methodNamed Bd.named Bd.method).1
  have X0 : Stand p l e ({ frames := 0, cells := 0, slots := 0, locals := 0 } : Room) s m #[(.ref ba), (.int (Nat.toInt32 n))] below meth kode s₁ [] 0 0 := Stand.of_body Bd
  have e0 : s₁.heap = h0 := by rw [← hh, Bd.state]; rfl
  have N0 := Fr.nil n0
  have pre0 : ∀ t, Steps p.tables e below (s₁.setTop (mkF m 0 #[.val (.ref ba), .val (.int (Nat.toInt32 n))] [])) t → Steps p.tables e below (s₁.setTop (entryFrame m #[(.ref ba), (.int (Nat.toInt32 n))] 2)) t := fun t k => castTop (ef_7L m ba (Nat.toInt32 n)) k
  have cn1 := fun (t : State) (kt : Steps p.tables e below (s₁.setTop (mkF m 2 #[.val (.ref ba), .val (.int (Nat.toInt32 n))] [(.ref ba), (.int (Nat.toInt32 n))])) t) => pre0 t (by
    refine XS.iloadN X0.here hx rfl (hb hby d7_0) rfl ?_
    show Steps p.tables e below (s₁.setTop (mkF m 1 #[.val (.ref ba), .val (.int (Nat.toInt32 n))] [(.int (Nat.toInt32 n))])) _
    refine XS.aloadN X0.here hx rfl (hb hby d7_1) rfl rfl ?_
    show Steps p.tables e below (s₁.setTop (mkF m 2 #[.val (.ref ba), .val (.int (Nat.toInt32 n))] [(.ref ba), (.int (Nat.toInt32 n))])) _
    exact kt)
  have AFx2 := A_ba
  obtain ⟨cl2, Ar2, q2, S2, H2⟩ := AFx2
  have cn3 := fun (t : State) (kt : Steps p.tables e below (s₁.setTop (mkF m 8 #[.val (.ref ba), .val (.int (Nat.toInt32 n))] [(.int (((((Nat.toInt32 n) - (Nat.toInt32 n)).toUInt32 >>> ((31 : Int32) &&& 31).toUInt32).toInt32).toInt8.toInt32))])) t) => cn1 t (by
    refine X0.arraylength hx (by rw [e0]; exact Ar2.1) (State.isArrayOf_alike hZ.alike Ar2.2.1) (g := (mkF m 2 #[.val (.ref ba), .val (.int (Nat.toInt32 n))] [(.ref ba), (.int (Nat.toInt32 n))])) rfl rfl (hb hby d7_2) _ ?_
    rw [S2]
    show Steps p.tables e below (s₁.setTop (mkF m 3 #[.val (.ref ba), .val (.int (Nat.toInt32 n))] [(.int (Nat.toInt32 n)), (.int (Nat.toInt32 n))])) _
    refine XS.isub X0.here hx rfl (hb hby d7_3) rfl ?_
    show Steps p.tables e below (s₁.setTop (mkF m 4 #[.val (.ref ba), .val (.int (Nat.toInt32 n))] [(.int ((Nat.toInt32 n) - (Nat.toInt32 n)))])) _
    refine XS.bipush X0.here hx rfl (hb hby d7_4) ?_
    show Steps p.tables e below (s₁.setTop (mkF m 6 #[.val (.ref ba), .val (.int (Nat.toInt32 n))] [(.int (31 : Int32)), (.int ((Nat.toInt32 n) - (Nat.toInt32 n)))])) _
    refine XS.iushr X0.here hx rfl (hb hby d7_6) rfl ?_
    show Steps p.tables e below (s₁.setTop (mkF m 7 #[.val (.ref ba), .val (.int (Nat.toInt32 n))] [(.int ((((Nat.toInt32 n) - (Nat.toInt32 n)).toUInt32 >>> ((31 : Int32) &&& 31).toUInt32).toInt32))])) _
    refine XS.i2b X0.here hx rfl (hb hby d7_7) rfl ?_
    show Steps p.tables e below (s₁.setTop (mkF m 8 #[.val (.ref ba), .val (.int (Nat.toInt32 n))] [(.int (((((Nat.toInt32 n) - (Nat.toInt32 n)).toUInt32 >>> ((31 : Int32) &&& 31).toUInt32).toInt32).toInt8.toInt32))])) _
    exact kt)
  obtain ⟨frs, hr, hrun, hended, hW, hsame⟩ := X0.leave (v := some (.int (nar .byte (((((Nat.toInt32 n) - (Nat.toInt32 n)).toUInt32 >>> ((31 : Int32) &&& 31).toUInt32).toInt32).toInt8.toInt32)))) (fun h => by rw [Bd.returns] at h; cases h)
  refine ⟨_, _, cn3 _ ?_, hrun, hended, _, _, rfl, ?_, ⟨_, rfl⟩, hW, hsame.mono (by decide) (by decide)⟩
  · exact retN X0 hx (t := .byte) Bd.returns (by simp) (hb hby d7_8) hr
  · show QI 0 h0 n0 _ s₁.heap _
    rw [e0]
    exact ⟨by rw [own_cd0], N0, rfl⟩

theorem ef_7U (m : MethodId) (x0 : Addr) (x1 : Int32) : entryFrame m #[(.ref x0), (.int x1)] 2 = mkF m 0 #[.val (.ref x0), .val (.int x1)] [] := by first | (simp [entryFrame, mkF, argsToLocals, Value.category]; done) | rfl
set_option maxRecDepth 65536 in
set_option maxHeartbeats 40000000 in
theorem rm7U (l : Launch) (Z : State) (a0 : Array Value) (hw : ∀ d ∈ tables_1, d.before a0 Z = true) (ws : List Jvm.Cond) (ba : Addr) (k : ClassId) (n : Nat) (f : Nat → Value) (h0 : Heap) (n0 : Nat) (O0 : Old Z n0 h0) (hn0 : 0 < n) (hn : n ≤ 4) (A_ba : AF Z h0 ba k .byte (2 * n) f) :
    MetFree l (⟨"java/lang/StringUTF16", "coderFromArrayLen", "([BI)B"⟩ : MethodName) (head1 (Jvm.Cond.code (⟨"java/lang/StringUTF16", "coderFromArrayLen", "([BI)B"⟩ : MethodName) jdk_52_method_15_code 2 (some .byte) :: ws) ({ frames := 0, cells := 0, slots := 0, locals := 0 } : Room)) (fun aQ U => aQ = #[(.ref ba), (.int (Nat.toInt32 n))] ∧ Z.Warmed39 U.vm ∧ U.heap = h0) (fun _ _ _ _ _ => True) (fun _ U o U' => ∃ v L, o = .returned v ∧ QI 1 h0 n0 v U'.heap L ∧ FrameEnd U o U' L ({ frames := 0, cells := 0, slots := 0, locals := 0 } : Room).cells ({ frames := 0, cells := 0, slots := 0, locals := 0 } : Room).slots) := by
  refine MetFree.of_bodySF (plainFor_of_name pn_java_lang_StringUTF16) hisR ?_
  intro p e s m args below meth kode s₁ Bd hml0 hP hK
  obtain ⟨rfl, hZ, hh⟩ := hP
  have hx := Bd.exec
  have hby := Bd.bytes
  have hml : kode.maxLocals = 2 := hml0
  have hown : s.vm.findClass "java/lang/StringUTF16" = some m.cls := findClass_of_methodNamed Bd.named
  have hnm := (name_of_methodNamed Bd.named Bd.method).1
  have X0 : Stand p l e ({ frames := 0, cells := 0, slots := 0, locals := 0 } : Room) s m #[(.ref ba), (.int (Nat.toInt32 n))] below meth kode s₁ [] 0 0 := Stand.of_body Bd
  have e0 : s₁.heap = h0 := by rw [← hh, Bd.state]; rfl
  have N0 := Fr.nil n0
  have pre0 : ∀ t, Steps p.tables e below (s₁.setTop (mkF m 0 #[.val (.ref ba), .val (.int (Nat.toInt32 n))] [])) t → Steps p.tables e below (s₁.setTop (entryFrame m #[(.ref ba), (.int (Nat.toInt32 n))] 2)) t := fun t k => castTop (ef_7U m ba (Nat.toInt32 n)) k
  have cn1 := fun (t : State) (kt : Steps p.tables e below (s₁.setTop (mkF m 2 #[.val (.ref ba), .val (.int (Nat.toInt32 n))] [(.ref ba), (.int (Nat.toInt32 n))])) t) => pre0 t (by
    refine XS.iloadN X0.here hx rfl (hb hby d7_0) rfl ?_
    show Steps p.tables e below (s₁.setTop (mkF m 1 #[.val (.ref ba), .val (.int (Nat.toInt32 n))] [(.int (Nat.toInt32 n))])) _
    refine XS.aloadN X0.here hx rfl (hb hby d7_1) rfl rfl ?_
    show Steps p.tables e below (s₁.setTop (mkF m 2 #[.val (.ref ba), .val (.int (Nat.toInt32 n))] [(.ref ba), (.int (Nat.toInt32 n))])) _
    exact kt)
  have AFx2 := A_ba
  obtain ⟨cl2, Ar2, q2, S2, H2⟩ := AFx2
  have cn3 := fun (t : State) (kt : Steps p.tables e below (s₁.setTop (mkF m 8 #[.val (.ref ba), .val (.int (Nat.toInt32 n))] [(.int (((((Nat.toInt32 n) - (Nat.toInt32 (2 * n))).toUInt32 >>> ((31 : Int32) &&& 31).toUInt32).toInt32).toInt8.toInt32))])) t) => cn1 t (by
    refine X0.arraylength hx (by rw [e0]; exact Ar2.1) (State.isArrayOf_alike hZ.alike Ar2.2.1) (g := (mkF m 2 #[.val (.ref ba), .val (.int (Nat.toInt32 n))] [(.ref ba), (.int (Nat.toInt32 n))])) rfl rfl (hb hby d7_2) _ ?_
    rw [S2]
    show Steps p.tables e below (s₁.setTop (mkF m 3 #[.val (.ref ba), .val (.int (Nat.toInt32 n))] [(.int (Nat.toInt32 (2 * n))), (.int (Nat.toInt32 n))])) _
    refine XS.isub X0.here hx rfl (hb hby d7_3) rfl ?_
    show Steps p.tables e below (s₁.setTop (mkF m 4 #[.val (.ref ba), .val (.int (Nat.toInt32 n))] [(.int ((Nat.toInt32 n) - (Nat.toInt32 (2 * n))))])) _
    refine XS.bipush X0.here hx rfl (hb hby d7_4) ?_
    show Steps p.tables e below (s₁.setTop (mkF m 6 #[.val (.ref ba), .val (.int (Nat.toInt32 n))] [(.int (31 : Int32)), (.int ((Nat.toInt32 n) - (Nat.toInt32 (2 * n))))])) _
    refine XS.iushr X0.here hx rfl (hb hby d7_6) rfl ?_
    show Steps p.tables e below (s₁.setTop (mkF m 7 #[.val (.ref ba), .val (.int (Nat.toInt32 n))] [(.int ((((Nat.toInt32 n) - (Nat.toInt32 (2 * n))).toUInt32 >>> ((31 : Int32) &&& 31).toUInt32).toInt32))])) _
    refine XS.i2b X0.here hx rfl (hb hby d7_7) rfl ?_
    show Steps p.tables e below (s₁.setTop (mkF m 8 #[.val (.ref ba), .val (.int (Nat.toInt32 n))] [(.int (((((Nat.toInt32 n) - (Nat.toInt32 (2 * n))).toUInt32 >>> ((31 : Int32) &&& 31).toUInt32).toInt32).toInt8.toInt32))])) _
    exact kt)
  obtain ⟨frs, hr, hrun, hended, hW, hsame⟩ := X0.leave (v := some (.int (nar .byte (((((Nat.toInt32 n) - (Nat.toInt32 (2 * n))).toUInt32 >>> ((31 : Int32) &&& 31).toUInt32).toInt32).toInt8.toInt32)))) (fun h => by rw [Bd.returns] at h; cases h)
  refine ⟨_, _, cn3 _ ?_, hrun, hended, _, _, rfl, ?_, ⟨_, rfl⟩, hW, hsame.mono (by decide) (by decide)⟩
  · exact retN X0 hx (t := .byte) Bd.returns (by simp) (hb hby d7_8) hr
  · show QI 1 h0 n0 _ s₁.heap _
    rw [e0]
    exact ⟨by rw [(own_cd1 hn0 (by omega))], N0, rfl⟩

theorem d3_0 : decode jdk_42_method_149_code 0 = .ok (.aload_n 0, 1) := by decide +kernel
theorem d3_1 : decode jdk_42_method_149_code 1 = .ok (.invokespecial 1, 3) := by decide +kernel
theorem d3_4 : decode jdk_42_method_149_code 4 = .ok (.iload_n 3, 1) := by decide +kernel
theorem d3_5 : decode jdk_42_method_149_code 5 = .ok (.ifCond .ne 22, 3) := by decide +kernel
theorem d3_27 : decode jdk_42_method_149_code 27 = .ok (.getstatic 38, 3) := by decide +kernel
theorem d3_30 : decode jdk_42_method_149_code 30 = .ok (.ifCond .eq 28, 3) := by decide +kernel
theorem d3_33 : decode jdk_42_method_149_code 33 = .ok (.aload_n 1, 1) := by decide +kernel
theorem d3_34 : decode jdk_42_method_149_code 34 = .ok (.iload_n 2, 1) := by decide +kernel
theorem d3_35 : decode jdk_42_method_149_code 35 = .ok (.iload_n 3, 1) := by decide +kernel
theorem d3_36 : decode jdk_42_method_149_code 36 = .ok (.invokestatic 177, 3) := by decide +kernel
theorem d3_39 : decode jdk_42_method_149_code 39 = .ok (.astore 5, 2) := by decide +kernel
theorem d3_41 : decode jdk_42_method_149_code 41 = .ok (.aload_n 0, 1) := by decide +kernel
theorem d3_42 : decode jdk_42_method_149_code 42 = .ok (.aload 5, 2) := by decide +kernel
theorem d3_44 : decode jdk_42_method_149_code 44 = .ok (.iload_n 3, 1) := by decide +kernel
theorem d3_45 : decode jdk_42_method_149_code 45 = .ok (.invokestatic 47, 3) := by decide +kernel
theorem d3_48 : decode jdk_42_method_149_code 48 = .ok (.putfield 15, 3) := by decide +kernel
theorem d3_51 : decode jdk_42_method_149_code 51 = .ok (.aload_n 0, 1) := by decide +kernel
theorem d3_52 : decode jdk_42_method_149_code 52 = .ok (.aload 5, 2) := by decide +kernel
theorem d3_54 : decode jdk_42_method_149_code 54 = .ok (.putfield 9, 3) := by decide +kernel
theorem d3_57 : decode jdk_42_method_149_code 57 = .ok (.return_, 1) := by decide +kernel
theorem pd_6 : parseMethodDescriptor "([BI)B" = some ⟨[(.array .byte), .int], some .byte⟩ := by decide +kernel
theorem pn_java_lang_String : plainName "java/lang/String" = true := by first | (simp [plainName, overriddenIn]; done) | decide +kernel
theorem ef_149s (m : MethodId) (x0 : Addr) (x1 : Addr) (x2 : Int32) (x3 : Int32) : entryFrame m #[(.ref x0), (.ref x1), (.int x2), (.int x3), .null] 6 = mkF m 0 #[.val (.ref x0), .val (.ref x1), .val (.int x2), .val (.int x3), .val .null, .unset] [] := by first | (simp [entryFrame, mkF, argsToLocals, Value.category]; done) | rfl
set_option maxRecDepth 65536 in
set_option maxHeartbeats 40000000 in
theorem rm149s (l : Launch) (Z : State) (a0 : Array Value) (hw : ∀ d ∈ tables_1, d.before a0 Z = true) (ws : List Jvm.Cond) (a1 ca : Addr) (kc : ClassId) (cs : List Int32) (co : Int32) (vf : Value) (h0 : Heap) (n0 : Nat) (O0 : Old Z n0 h0) (g_a1 : n0 ≤ a1) (E_a1 : Exa Z h0 a1 "java/lang/String") (Fvalue : Fld Z h0 a1 "java/lang/String" "value" "[B" .null) (Fcoder : Fld Z h0 a1 "java/lang/String" "coder" "B" (.int (0 : Int32))) (neac : a1 ≠ ca) (hn0 : 0 < cs.length) (hn : cs.length ≤ 4) (hu : own_u cs) (A_ca : AF Z h0 ca kc .char cs.length (fun j => .int (cs.getD j 0))) (SWh : SW Z co vf) :
    MetFree l (⟨"java/lang/String", "<init>", "([CIILjava/lang/Void;)V"⟩ : MethodName) (head1 (Jvm.Cond.code (⟨"java/lang/String", "<init>", "([CIILjava/lang/Void;)V"⟩ : MethodName) jdk_42_method_149_code 6 none :: ws) ({ frames := 4, cells := 2, slots := 12, locals := 57 } : Room)) (fun aQ U => aQ = #[(.ref a1), (.ref ca), (.int (0 : Int32)), (.int (Nat.toInt32 cs.length)), .null] ∧ Z.Warmed39 U.vm ∧ U.heap = h0) (fun _ _ _ _ _ => True) (fun _ U o U' => ∃ v L, o = .returned v ∧ QST Z a1 cs h0 n0 v U'.heap L ∧ FrameEnd U o U' L ({ frames := 4, cells := 2, slots := 12, locals := 57 } : Room).cells ({ frames := 4, cells := 2, slots := 12, locals := 57 } : Room).slots) := by
  refine MetFree.of_bodySF (plainFor_of_name pn_java_lang_String) hisR ?_
  intro p e s m args below meth kode s₁ Bd hml0 hP hK
  obtain ⟨rfl, hZ, hh⟩ := hP
  have hx := Bd.exec
  have hby := Bd.bytes
  have hml : kode.maxLocals = 6 := hml0
  have hown : s.vm.findClass "java/lang/String" = some m.cls := findClass_of_methodNamed Bd.named
  have hnm := (name_of_methodNamed Bd.named Bd.method).1
  have X0 : Stand p l e ({ frames := 4, cells := 2, slots := 12, locals := 57 } : Room) s m #[(.ref a1), (.ref ca), (.int (0 : Int32)), (.int (Nat.toInt32 cs.length)), .null] below meth kode s₁ [] 0 0 := Stand.of_body Bd
  have e0 : s₁.heap = h0 := by rw [← hh, Bd.state]; rfl
  have N0 := Fr.nil n0
  have pre0 : ∀ t, Steps p.tables e below (s₁.setTop (mkF m 0 #[.val (.ref a1), .val (.ref ca), .val (.int (0 : Int32)), .val (.int (Nat.toInt32 cs.length)), .val .null, .unset] [])) t → Steps p.tables e below (s₁.setTop (entryFrame m #[(.ref a1), (.ref ca), (.int (0 : Int32)), (.int (Nat.toInt32 cs.length)), .null] 6)) t := fun t k => castTop (ef_149s m a1 ca (0 : Int32) (Nat.toInt32 cs.length)) k
  have SWx := SWh
  obtain ⟨S_CS, hcs, S_AD, S_HI, S_LO, S_SI, hcat_vf⟩ := SWx
  have cn1 := fun (t : State) (kt : Steps p.tables e below (s₁.setTop (mkF m 1 #[.val (.ref a1), .val (.ref ca), .val (.int (0 : Int32)), .val (.int (Nat.toInt32 cs.length)), .val .null, .unset] [(.ref a1)])) t) => pre0 t (by
    refine XS.aloadN X0.here hx rfl (hb hby d3_0) rfl rfl ?_
    show Steps p.tables e below (s₁.setTop (mkF m 1 #[.val (.ref a1), .val (.ref ca), .val (.int (0 : Int32)), .val (.int (Nat.toInt32 cs.length)), .val .null, .unset] [(.ref a1)])) _
    exact kt)
  obtain ⟨T2, X2, e2, st2⟩ := initO X0 hx hZ hown (hw _ (List.mem_of_getElem? (i := 17) rfl)) (hw _ (List.mem_of_getElem? (i := 18) rfl)) (hw _ (List.mem_of_getElem? (i := 19) rfl)) e0 (g := (mkF m 1 #[.val (.ref a1), .val (.ref ca), .val (.int (0 : Int32)), .val (.int (Nat.toInt32 cs.length)), .val .null, .unset] [(.ref a1)])) rfl (by rw [hml]; rfl) rfl (hb hby d3_1) (by decide) (W := 0) (by show 2 * 0 + _ ≤ _; exact Nat.le_of_eq rfl) (by decide)
  have cn3 := fun (t : State) (kt : Steps p.tables e below (T2.setTop (mkF m 5 #[.val (.ref a1), .val (.ref ca), .val (.int (0 : Int32)), .val (.int (Nat.toInt32 cs.length)), .val .null, .unset] [(.int (Nat.toInt32 cs.length))])) t) => cn1 t (by
    refine st2 _ ?_
    show Steps p.tables e below (T2.setTop (mkF m 4 #[.val (.ref a1), .val (.ref ca), .val (.int (0 : Int32)), .val (.int (Nat.toInt32 cs.length)), .val .null, .unset] [])) _
    refine XS.iloadN X2.here hx rfl (hb hby d3_4) rfl ?_
    show Steps p.tables e below (T2.setTop (mkF m 5 #[.val (.ref a1), .val (.ref ca), .val (.int (0 : Int32)), .val (.int (Nat.toInt32 cs.length)), .val .null, .unset] [(.int (Nat.toInt32 cs.length))])) _
    exact kt)
  have cn4 := fun (t : State) (kt : Steps p.tables e below (T2.setTop (mkF m 27 #[.val (.ref a1), .val (.ref ca), .val (.int (0 : Int32)), .val (.int (Nat.toInt32 cs.length)), .val .null, .unset] [])) t) => cn3 t (by
    refine XS.ifYes X2.here hx rfl (pc0 := 5) (pc' := 27) rfl (hb hby d3_5) rfl ((if0 _ _).trans (feq (fun q => Nat.ne_of_gt hn0 ((own_eqn (j := 0) (by omega) (by decide)).mp q))).2) (by decide) (by decide) ?_
    show Steps p.tables e below (T2.setTop (mkF m 27 #[.val (.ref a1), .val (.ref ca), .val (.int (0 : Int32)), .val (.int (Nat.toInt32 cs.length)), .val .null, .unset] [])) _
    exact kt)
  obtain ⟨T5, X5, e5, st5⟩ := getS2 X2 hx hZ hown (host := "") (Or.inl (hw _ (List.mem_of_getElem? (i := 20) rfl))) Via.refl e2 (S_CS.ext O0.2) (g := (mkF m 27 #[.val (.ref a1), .val (.ref ca), .val (.int (0 : Int32)), .val (.int (Nat.toInt32 cs.length)), .val .null, .unset] [])) rfl (hb hby d3_27)
  have cn6 := fun (t : State) (kt : Steps p.tables e below (T5.setTop (mkF m 30 #[.val (.ref a1), .val (.ref ca), .val (.int (0 : Int32)), .val (.int (Nat.toInt32 cs.length)), .val .null, .unset] [(.int co)])) t) => cn4 t (by
    refine st5 _ ?_
    show Steps p.tables e below (T5.setTop (mkF m 30 #[.val (.ref a1), .val (.ref ca), .val (.int (0 : Int32)), .val (.int (Nat.toInt32 cs.length)), .val .null, .unset] [(.int co)])) _
    exact kt)
  have cn7 := fun (t : State) (kt : Steps p.tables e below (T5.setTop (mkF m 36 #[.val (.ref a1), .val (.ref ca), .val (.int (0 : Int32)), .val (.int (Nat.toInt32 cs.length)), .val .null, .unset] [(.int (Nat.toInt32 cs.length)), (.int (0 : Int32)), (.ref ca)])) t) => cn6 t (by
    refine XS.ifNo X5.here hx rfl (hb hby d3_30) rfl ((if0 _ _).trans (feq hcs).1) ?_
    show Steps p.tables e below (T5.setTop (mkF m 33 #[.val (.ref a1), .val (.ref ca), .val (.int (0 : Int32)), .val (.int (Nat.toInt32 cs.length)), .val .null, .unset] [])) _
    refine XS.aloadN X5.here hx rfl (hb hby d3_33) rfl rfl ?_
    show Steps p.tables e below (T5.setTop (mkF m 34 #[.val (.ref a1), .val (.ref ca), .val (.int (0 : Int32)), .val (.int (Nat.toInt32 cs.length)), .val .null, .unset] [(.ref ca)])) _
    refine XS.iloadN X5.here hx rfl (hb hby d3_34) rfl ?_
    show Steps p.tables e below (T5.setTop (mkF m 35 #[.val (.ref a1), .val (.ref ca), .val (.int (0 : Int32)), .val (.int (Nat.toInt32 cs.length)), .val .null, .unset] [(.int (0 : Int32)), (.ref ca)])) _
    refine XS.iloadN X5.here hx rfl (hb hby d3_35) rfl ?_
    show Steps p.tables e below (T5.setTop (mkF m 36 #[.val (.ref a1), .val (.ref ca), .val (.int (0 : Int32)), .val (.int (Nat.toInt32 cs.length)), .val .null, .unset] [(.int (Nat.toInt32 cs.length)), (.int (0 : Int32)), (.ref ca)])) _
    exact kt)
  obtain ⟨_, _, ⟨T8, L8, k8, n8⟩, -, X8, ⟨Lc8, hQ8, l8, y8, z8⟩, st8⟩ := Jvm.LawKit.callS X5 hx (y := (⟨"java/lang/StringUTF16", "compress", "([CII)[B"⟩ : MethodName)) hown (mvT hZ (hw _ (List.mem_of_getElem? (i := 21) rfl))) (mvT hZ (hw _ (List.mem_of_getElem? (i := 22) rfl))) (mvT hZ (hw _ (List.mem_of_getElem? (i := 23) rfl))) (mvT hZ (hw _ (List.mem_of_getElem? (i := 24) rfl))) (by decide) (backOf (W := 0) (rm5 l Z a0 hw [] ca kc cs co vf h0 n0 O0 hn hu A_ca SWh) hZ (hw _ (List.mem_of_getElem? (i := 24) rfl)) (hw _ (List.mem_of_getElem? (i := 23) rfl)) (by decide) (by decide)) (g := (mkF m 36 #[.val (.ref a1), .val (.ref ca), .val (.int (0 : Int32)), .val (.int (Nat.toInt32 cs.length)), .val .null, .unset] [(.int (Nat.toInt32 cs.length)), (.int (0 : Int32)), (.ref ca)])) rfl (by rw [hml]; rfl) (argsL := [(.ref ca), (.int (0 : Int32)), (.int (Nat.toInt32 cs.length))]) (rest := []) (lenOf pd_4 rfl) rfl (by show 2 * 0 + _ ≤ _; exact Nat.le_of_eq rfl) (hb hby d3_36) (fun _ _ => ⟨rfl, e5, (by decide : 0 + 2 ≤ _), (by decide : 0 + 12 ≤ _)⟩)
  dsimp only [Pt.U, Pt.locs, Pt.cells, Pt.slots] at X8 l8 y8 z8 st8 hQ8
  subst l8 y8 z8
  rcases hQ8 with ⟨r8x, kq8, f8, rfl, Nq8, Kq8, szq8, Aq8, hP8⟩ | ⟨r8x, kq8, f8, rfl, Nq8, Kq8, szq8, Aq8, hP8⟩
  · have N8 := Fr.app N0 Nq8
    have ne_a1_r8x : a1 ≠ r8x := Nat.ne_of_lt (Nat.lt_of_lt_of_le E_a1.lt szq8)
    have ne_ca_r8x : ca ≠ r8x := Nat.ne_of_lt (Nat.lt_of_lt_of_le A_ca.lt szq8)
    have sz_r8x : h0.size ≤ r8x := Nat.le_trans (Keep.refl h0 [a1]).1 szq8
    have g_r8x : n0 ≤ r8x := Nat.le_trans (O0.1 ▸ O0.2.1) sz_r8x
    have K8 := Kq8
    have E_a1_e8 := E_a1.keep K8
    have Fvalue_e8 := Fvalue.keep K8 nin0
    have Fcoder_e8 := Fcoder.keep K8 nin0
    have A_ca_e8 := A_ca.keep K8 nin0
    have O8 := O0.keep K8 all0
    have KK8 : Keep h0 T8.heap [a1] := (Keep.refl h0 [a1]).trans K8 all0
    have cn9 := fun (t : State) (kt : Steps p.tables e below (T8.setTop (mkF m 45 #[.val (.ref a1), .val (.ref ca), .val (.int (0 : Int32)), .val (.int (Nat.toInt32 cs.length)), .val .null, .val (.ref r8x)] [(.int (Nat.toInt32 cs.length)), (.ref r8x), (.ref a1)])) t) => cn7 t (by
      refine st8 _ ?_
      show Steps p.tables e below (T8.setTop (mkF m 39 #[.val (.ref a1), .val (.ref ca), .val (.int (0 : Int32)), .val (.int (Nat.toInt32 cs.length)), .val .null, .unset] [(.ref r8x)])) _
      refine XS.astore X8.here hx rfl (hb hby d3_39) rfl rfl (l' := #[.val (.ref a1), .val (.ref ca), .val (.int (0 : Int32)), .val (.int (Nat.toInt32 cs.length)), .val .null, .val (.ref r8x)]) rfl ?_
      show Steps p.tables e below (T8.setTop (mkF m 41 #[.val (.ref a1), .val (.ref ca), .val (.int (0 : Int32)), .val (.int (Nat.toInt32 cs.length)), .val .null, .val (.ref r8x)] [])) _
      refine XS.aloadN X8.here hx rfl (hb hby d3_41) rfl rfl ?_
      show Steps p.tables e below (T8.setTop (mkF m 42 #[.val (.ref a1), .val (.ref ca), .val (.int (0 : Int32)), .val (.int (Nat.toInt32 cs.length)), .val .null, .val (.ref r8x)] [(.ref a1)])) _
      refine XS.aload X8.here hx rfl (hb hby d3_42) rfl rfl ?_
      show Steps p.tables e below (T8.setTop (mkF m 44 #[.val (.ref a1), .val (.ref ca), .val (.int (0 : Int32)), .val (.int (Nat.toInt32 cs.length)), .val .null, .val (.ref r8x)] [(.ref r8x), (.ref a1)])) _
      refine XS.iloadN X8.here hx rfl (hb hby d3_44) rfl ?_
      show Steps p.tables e below (T8.setTop (mkF m 45 #[.val (.ref a1), .val (.ref ca), .val (.int (0 : Int32)), .val (.int (Nat.toInt32 cs.length)), .val .null, .val (.ref r8x)] [(.int (Nat.toInt32 cs.length)), (.ref r8x), (.ref a1)])) _
      exact kt)
    obtain ⟨_, _, ⟨T10, L10, k10, n10⟩, -, X10, ⟨Lc10, hQ10, l10, y10, z10⟩, st10⟩ := Jvm.LawKit.callS X8 hx (y := (⟨"java/lang/StringUTF16", "coderFromArrayLen", "([BI)B"⟩ : MethodName)) hown (mvT hZ (hw _ (List.mem_of_getElem? (i := 29) rfl))) (mvT hZ (hw _ (List.mem_of_getElem? (i := 30) rfl))) (mvT hZ (hw _ (List.mem_of_getElem? (i := 23) rfl))) (mvT hZ (hw _ (List.mem_of_getElem? (i := 31) rfl))) (by decide) (backOf (W := 1) (rm7L l Z a0 hw [] r8x kq8 cs.length f8 T8.heap n0 O8 hn0 hn Aq8) hZ (hw _ (List.mem_of_getElem? (i := 31) rfl)) (hw _ (List.mem_of_getElem? (i := 23) rfl)) (by decide) (by decide)) (g := (mkF m 45 #[.val (.ref a1), .val (.ref ca), .val (.int (0 : Int32)), .val (.int (Nat.toInt32 cs.length)), .val .null, .val (.ref r8x)] [(.int (Nat.toInt32 cs.length)), (.ref r8x), (.ref a1)])) rfl (by rw [hml]; rfl) (argsL := [(.ref r8x), (.int (Nat.toInt32 cs.length))]) (rest := [(.ref a1)]) (lenOf pd_6 rfl) rfl (by show 2 * 0 + _ ≤ _; exact Nat.le_of_eq rfl) (hb hby d3_45) (fun _ _ => ⟨rfl, rfl, (by decide : 2 + 0 ≤ _), (by decide : 12 + 0 ≤ _)⟩)
    dsimp only [Pt.U, Pt.locs, Pt.cells, Pt.slots] at X10 l10 y10 z10 st10 hQ10
    subst l10 y10 z10
    obtain ⟨rfl, Nq10, eh10⟩ := hQ10
    have N10 := Fr.app N8 Nq10
    have cn11 := fun (t : State) (kt : Steps p.tables e below (T10.setTop (mkF m 48 #[.val (.ref a1), .val (.ref ca), .val (.int (0 : Int32)), .val (.int (Nat.toInt32 cs.length)), .val .null, .val (.ref r8x)] [(.int (0 : Int32)), (.ref a1)])) t) => cn9 t (by
      refine st10 _ ?_
      show Steps p.tables e below (T10.setTop (mkF m 48 #[.val (.ref a1), .val (.ref ca), .val (.int (0 : Int32)), .val (.int (Nat.toInt32 cs.length)), .val .null, .val (.ref r8x)] [(.int (0 : Int32)), (.ref a1)])) _
      exact kt)
    obtain ⟨T12, h12, X12, e12, W12, st12⟩ := putFN X10 hx hZ hown (hw _ (List.mem_of_getElem? (i := 32) rfl)) Via.refl eh10 Fcoder_e8 E_a1_e8 (Or.inr ⟨(hw _ (List.mem_of_getElem? (i := 33) rfl)), rfl, hnm⟩) (hw _ (List.mem_of_getElem? (i := 8) rfl)) (ty := .byte) (v' := (.int (0 : Int32))) (by decide) rfl rfl (g := (mkF m 48 #[.val (.ref a1), .val (.ref ca), .val (.int (0 : Int32)), .val (.int (Nat.toInt32 cs.length)), .val .null, .val (.ref r8x)] [(.int (0 : Int32)), (.ref a1)])) rfl rfl (hb hby d3_48)
    have E_a1_e12 := E_a1_e8.wr W12
    have Fvalue_e12 := Fvalue_e8.other W12 (Or.inr (slot_ne (Or.inr (hw _ (List.mem_of_getElem? (i := 35) rfl))) (Or.inr (hw _ (List.mem_of_getElem? (i := 33) rfl))) (by decide) (t := (.array .byte)) (t' := .byte) (by decide) (by decide)))
    have A_ca_e12 := A_ca_e8.other W12 (Ne.symm neac)
    have Aq8_e12 := Aq8.other W12 (Ne.symm ne_a1_r8x)
    have N12 := Fr.snoc X12 N10 g_a1
    have O12 := O8.wr W12 g_a1
    have K12 : Keep h0 h12 [a1] := KK8.wr W12 (Or.inl (List.mem_of_getElem? (i := 0) rfl))
    have Fcoder_12 := Fcoder_e8.same W12
    have cn13 := fun (t : State) (kt : Steps p.tables e below (T12.setTop (mkF m 54 #[.val (.ref a1), .val (.ref ca), .val (.int (0 : Int32)), .val (.int (Nat.toInt32 cs.length)), .val .null, .val (.ref r8x)] [(.ref r8x), (.ref a1)])) t) => cn11 t (by
      refine st12 _ ?_
      show Steps p.tables e below (T12.setTop (mkF m 51 #[.val (.ref a1), .val (.ref ca), .val (.int (0 : Int32)), .val (.int (Nat.toInt32 cs.length)), .val .null, .val (.ref r8x)] [])) _
      refine XS.aloadN X12.here hx rfl (hb hby d3_51) rfl rfl ?_
      show Steps p.tables e below (T12.setTop (mkF m 52 #[.val (.ref a1), .val (.ref ca), .val (.int (0 : Int32)), .val (.int (Nat.toInt32 cs.length)), .val .null, .val (.ref r8x)] [(.ref a1)])) _
      refine XS.aload X12.here hx rfl (hb hby d3_52) rfl rfl ?_
      show Steps p.tables e below (T12.setTop (mkF m 54 #[.val (.ref a1), .val (.ref ca), .val (.int (0 : Int32)), .val (.int (Nat.toInt32 cs.length)), .val .null, .val (.ref r8x)] [(.ref r8x), (.ref a1)])) _
      exact kt)
    obtain ⟨T14, h14, X14, e14, W14, st14⟩ := putF X12 hx hZ hown (host := "") (Or.inl (hw _ (List.mem_of_getElem? (i := 34) rfl))) Via.refl e12 Fvalue_e12 E_a1_e12 (Or.inr ⟨(hw _ (List.mem_of_getElem? (i := 35) rfl)), rfl, hnm⟩) (hw _ (List.mem_of_getElem? (i := 8) rfl)) (ty := (.array .byte)) (by decide) rfl rfl (g := (mkF m 54 #[.val (.ref a1), .val (.ref ca), .val (.int (0 : Int32)), .val (.int (Nat.toInt32 cs.length)), .val .null, .val (.ref r8x)] [(.ref r8x), (.ref a1)])) rfl rfl (hb hby d3_54)
    have E_a1_e14 := E_a1_e12.wr W14
    have Fcoder_12_e14 := Fcoder_12.other W14 (Or.inr (slot_ne (Or.inr (hw _ (List.mem_of_getElem? (i := 33) rfl))) (Or.inr (hw _ (List.mem_of_getElem? (i := 35) rfl))) (by decide) (t := .byte) (t' := (.array .byte)) (by decide) (by decide)))
    have A_ca_e14 := A_ca_e12.other W14 (Ne.symm neac)
    have Aq8_e14 := Aq8_e12.other W14 (Ne.symm ne_a1_r8x)
    have N14 := Fr.snoc X14 N12 g_a1
    have O14 := O12.wr W14 g_a1
    have K14 : Keep h0 h14 [a1] := K12.wr W14 (Or.inl (List.mem_of_getElem? (i := 0) rfl))
    have Fvalue_14 := Fvalue_e12.same W14
    have cn15 := fun (t : State) (kt : Steps p.tables e below (T14.setTop (mkF m 57 #[.val (.ref a1), .val (.ref ca), .val (.int (0 : Int32)), .val (.int (Nat.toInt32 cs.length)), .val .null, .val (.ref r8x)] [])) t) => cn13 t (by
      refine st14 _ ?_
      show Steps p.tables e below (T14.setTop (mkF m 57 #[.val (.ref a1), .val (.ref ca), .val (.int (0 : Int32)), .val (.int (Nat.toInt32 cs.length)), .val .null, .val (.ref r8x)] [])) _
      exact kt)
    obtain ⟨frs, hr, hrun, hended, hW, hsame⟩ := X14.leave (v := none) (fun _ => rfl)
    refine ⟨_, _, cn15 _ ?_, hrun, hended, _, _, rfl, ?_, ⟨_, rfl⟩, hW, hsame.mono (by decide) (by decide)⟩
    · exact X14.returnOut hx Bd.returns (hb hby d3_57) hr
    · show QST Z a1 cs h0 n0 _ T14.heap _
      rw [e14]
      exact ⟨rfl, N14, K14, r8x, _, _, (0 : Int32), E_a1_e14, Fvalue_14, Fcoder_12_e14, Or.inl ⟨rfl, Aq8_e14, hP8⟩⟩
  · have N8 := Fr.app N0 Nq8
    have ne_a1_r8x : a1 ≠ r8x := Nat.ne_of_lt (Nat.lt_of_lt_of_le E_a1.lt szq8)
    have ne_ca_r8x : ca ≠ r8x := Nat.ne_of_lt (Nat.lt_of_lt_of_le A_ca.lt szq8)
    have sz_r8x : h0.size ≤ r8x := Nat.le_trans (Keep.refl h0 [a1]).1 szq8
    have g_r8x : n0 ≤ r8x := Nat.le_trans (O0.1 ▸ O0.2.1) sz_r8x
    have K8 := Kq8
    have E_a1_e8 := E_a1.keep K8
    have Fvalue_e8 := Fvalue.keep K8 nin0
    have Fcoder_e8 := Fcoder.keep K8 nin0
    have A_ca_e8 := A_ca.keep K8 nin0
    have O8 := O0.keep K8 all0
    have KK8 : Keep h0 T8.heap [a1] := (Keep.refl h0 [a1]).trans K8 all0
    have cn16 := fun (t : State) (kt : Steps p.tables e below (T8.setTop (mkF m 45 #[.val (.ref a1), .val (.ref ca), .val (.int (0 : Int32)), .val (.int (Nat.toInt32 cs.length)), .val .null, .val (.ref r8x)] [(.int (Nat.toInt32 cs.length)), (.ref r8x), (.ref a1)])) t) => cn7 t (by
      refine st8 _ ?_
      show Steps p.tables e below (T8.setTop (mkF m 39 #[.val (.ref a1), .val (.ref ca), .val (.int (0 : Int32)), .val (.int (Nat.toInt32 cs.length)), .val .null, .unset] [(.ref r8x)])) _
      refine XS.astore X8.here hx rfl (hb hby d3_39) rfl rfl (l' := #[.val (.ref a1), .val (.ref ca), .val (.int (0 : Int32)), .val (.int (Nat.toInt32 cs.length)), .val .null, .val (.ref r8x)]) rfl ?_
      show Steps p.tables e below (T8.setTop (mkF m 41 #[.val (.ref a1), .val (.ref ca), .val (.int (0 : Int32)), .val (.int (Nat.toInt32 cs.length)), .val .null, .val (.ref r8x)] [])) _
      refine XS.aloadN X8.here hx rfl (hb hby d3_41) rfl rfl ?_
      show Steps p.tables e below (T8.setTop (mkF m 42 #[.val (.ref a1), .val (.ref ca), .val (.int (0 : Int32)), .val (.int (Nat.toInt32 cs.length)), .val .null, .val (.ref r8x)] [(.ref a1)])) _
      refine XS.aload X8.here hx rfl (hb hby d3_42) rfl rfl ?_
      show Steps p.tables e below (T8.setTop (mkF m 44 #[.val (.ref a1), .val (.ref ca), .val (.int (0 : Int32)), .val (.int (Nat.toInt32 cs.length)), .val .null, .val (.ref r8x)] [(.ref r8x), (.ref a1)])) _
      refine XS.iloadN X8.here hx rfl (hb hby d3_44) rfl ?_
      show Steps p.tables e below (T8.setTop (mkF m 45 #[.val (.ref a1), .val (.ref ca), .val (.int (0 : Int32)), .val (.int (Nat.toInt32 cs.length)), .val .null, .val (.ref r8x)] [(.int (Nat.toInt32 cs.length)), (.ref r8x), (.ref a1)])) _
      exact kt)
    obtain ⟨_, _, ⟨T17, L17, k17, n17⟩, -, X17, ⟨Lc17, hQ17, l17, y17, z17⟩, st17⟩ := Jvm.LawKit.callS X8 hx (y := (⟨"java/lang/StringUTF16", "coderFromArrayLen", "([BI)B"⟩ : MethodName)) hown (mvT hZ (hw _ (List.mem_of_getElem? (i := 29) rfl))) (mvT hZ (hw _ (List.mem_of_getElem? (i := 30) rfl))) (mvT hZ (hw _ (List.mem_of_getElem? (i := 23) rfl))) (mvT hZ (hw _ (List.mem_of_getElem? (i := 31) rfl))) (by decide) (backOf (W := 1) (rm7U l Z a0 hw [] r8x kq8 cs.length f8 T8.heap n0 O8 hn0 hn Aq8) hZ (hw _ (List.mem_of_getElem? (i := 31) rfl)) (hw _ (List.mem_of_getElem? (i := 23) rfl)) (by decide) (by decide)) (g := (mkF m 45 #[.val (.ref a1), .val (.ref ca), .val (.int (0 : Int32)), .val (.int (Nat.toInt32 cs.length)), .val .null, .val (.ref r8x)] [(.int (Nat.toInt32 cs.length)), (.ref r8x), (.ref a1)])) rfl (by rw [hml]; rfl) (argsL := [(.ref r8x), (.int (Nat.toInt32 cs.length))]) (rest := [(.ref a1)]) (lenOf pd_6 rfl) rfl (by show 2 * 0 + _ ≤ _; exact Nat.le_of_eq rfl) (hb hby d3_45) (fun _ _ => ⟨rfl, rfl, (by decide : 2 + 0 ≤ _), (by decide : 12 + 0 ≤ _)⟩)
    dsimp only [Pt.U, Pt.locs, Pt.cells, Pt.slots] at X17 l17 y17 z17 st17 hQ17
    subst l17 y17 z17
    obtain ⟨rfl, Nq17, eh17⟩ := hQ17
    have N17 := Fr.app N8 Nq17
    have cn18 := fun (t : State) (kt : Steps p.tables e below (T17.setTop (mkF m 48 #[.val (.ref a1), .val (.ref ca), .val (.int (0 : Int32)), .val (.int (Nat.toInt32 cs.length)), .val .null, .val (.ref r8x)] [(.int (1 : Int32)), (.ref a1)])) t) => cn16 t (by
      refine st17 _ ?_
      show Steps p.tables e below (T17.setTop (mkF m 48 #[.val (.ref a1), .val (.ref ca), .val (.int (0 : Int32)), .val (.int (Nat.toInt32 cs.length)), .val .null, .val (.ref r8x)] [(.int (1 : Int32)), (.ref a1)])) _
      exact kt)
    obtain ⟨T19, h19, X19, e19, W19, st19⟩ := putFN X17 hx hZ hown (hw _ (List.mem_of_getElem? (i := 32) rfl)) Via.refl eh17 Fcoder_e8 E_a1_e8 (Or.inr ⟨(hw _ (List.mem_of_getElem? (i := 33) rfl)), rfl, hnm⟩) (hw _ (List.mem_of_getElem? (i := 8) rfl)) (ty := .byte) (v' := (.int (1 : Int32))) (by decide) rfl rfl (g := (mkF m 48 #[.val (.ref a1), .val (.ref ca), .val (.int (0 : Int32)), .val (.int (Nat.toInt32 cs.length)), .val .null, .val (.ref r8x)] [(.int (1 : Int32)), (.ref a1)])) rfl rfl (hb hby d3_48)
    have E_a1_e19 := E_a1_e8.wr W19
    have Fvalue_e19 := Fvalue_e8.other W19 (Or.inr (slot_ne (Or.inr (hw _ (List.mem_of_getElem? (i := 35) rfl))) (Or.inr (hw _ (List.mem_of_getElem? (i := 33) rfl))) (by decide) (t := (.array .byte)) (t' := .byte) (by decide) (by decide)))
    have A_ca_e19 := A_ca_e8.other W19 (Ne.symm neac)
    have Aq8_e19 := Aq8.other W19 (Ne.symm ne_a1_r8x)
    have N19 := Fr.snoc X19 N17 g_a1
    have O19 := O8.wr W19 g_a1
    have K19 : Keep h0 h19 [a1] := KK8.wr W19 (Or.inl (List.mem_of_getElem? (i := 0) rfl))
    have Fcoder_19 := Fcoder_e8.same W19
    have cn20 := fun (t : State) (kt : Steps p.tables e below (T19.setTop (mkF m 54 #[.val (.ref a1), .val (.ref ca), .val (.int (0 : Int32)), .val (.int (Nat.toInt32 cs.length)), .val .null, .val (.ref r8x)] [(.ref r8x), (.ref a1)])) t) => cn18 t (by
      refine st19 _ ?_
      show Steps p.tables e below (T19.setTop (mkF m 51 #[.val (.ref a1), .val (.ref ca), .val (.int (0 : Int32)), .val (.int (Nat.toInt32 cs.length)), .val .null, .val (.ref r8x)] [])) _
      refine XS.aloadN X19.here hx rfl (hb hby d3_51) rfl rfl ?_
      show Steps p.tables e below (T19.setTop (mkF m 52 #[.val (.ref a1), .val (.ref ca), .val (.int (0 : Int32)), .val (.int (Nat.toInt32 cs.length)), .val .null, .val (.ref r8x)] [(.ref a1)])) _
      refine XS.aload X19.here hx rfl (hb hby d3_52) rfl rfl ?_
      show Steps p.tables e below (T19.setTop (mkF m 54 #[.val (.ref a1), .val (.ref ca), .val (.int (0 : Int32)), .val (.int (Nat.toInt32 cs.length)), .val .null, .val (.ref r8x)] [(.ref r8x), (.ref a1)])) _
      exact kt)
    obtain ⟨T21, h21, X21, e21, W21, st21⟩ := putF X19 hx hZ hown (host := "") (Or.inl (hw _ (List.mem_of_getElem? (i := 34) rfl))) Via.refl e19 Fvalue_e19 E_a1_e19 (Or.inr ⟨(hw _ (List.mem_of_getElem? (i := 35) rfl)), rfl, hnm⟩) (hw _ (List.mem_of_getElem? (i := 8) rfl)) (ty := (.array .byte)) (by decide) rfl rfl (g := (mkF m 54 #[.val (.ref a1), .val (.ref ca), .val (.int (0 : Int32)), .val (.int (Nat.toInt32 cs.length)), .val .null, .val (.ref r8x)] [(.ref r8x), (.ref a1)])) rfl rfl (hb hby d3_54)
    have E_a1_e21 := E_a1_e19.wr W21
    have Fcoder_19_e21 := Fcoder_19.other W21 (Or.inr (slot_ne (Or.inr (hw _ (List.mem_of_getElem? (i := 33) rfl))) (Or.inr (hw _ (List.mem_of_getElem? (i := 35) rfl))) (by decide) (t := .byte) (t' := (.array .byte)) (by decide) (by decide)))
    have A_ca_e21 := A_ca_e19.other W21 (Ne.symm neac)
    have Aq8_e21 := Aq8_e19.other W21 (Ne.symm ne_a1_r8x)
    have N21 := Fr.snoc X21 N19 g_a1
    have O21 := O19.wr W21 g_a1
    have K21 : Keep h0 h21 [a1] := K19.wr W21 (Or.inl (List.mem_of_getElem? (i := 0) rfl))
    have Fvalue_21 := Fvalue_e19.same W21
    have cn22 := fun (t : State) (kt : Steps p.tables e below (T21.setTop (mkF m 57 #[.val (.ref a1), .val (.ref ca), .val (.int (0 : Int32)), .val (.int (Nat.toInt32 cs.length)), .val .null, .val (.ref r8x)] [])) t) => cn20 t (by
      refine st21 _ ?_
      show Steps p.tables e below (T21.setTop (mkF m 57 #[.val (.ref a1), .val (.ref ca), .val (.int (0 : Int32)), .val (.int (Nat.toInt32 cs.length)), .val .null, .val (.ref r8x)] [])) _
      exact kt)
    obtain ⟨frs, hr, hrun, hended, hW, hsame⟩ := X21.leave (v := none) (fun _ => rfl)
    refine ⟨_, _, cn22 _ ?_, hrun, hended, _, _, rfl, ?_, ⟨_, rfl⟩, hW, hsame.mono (by decide) (by decide)⟩
    · exact X21.returnOut hx Bd.returns (hb hby d3_57) hr
    · show QST Z a1 cs h0 n0 _ T21.heap _
      rw [e21]
      exact ⟨rfl, N21, K21, r8x, _, _, (1 : Int32), E_a1_e21, Fvalue_21, Fcoder_19_e21, Or.inr ⟨rfl, Aq8_e21, hP8⟩⟩

theorem d2_0 : decode jdk_42_method_3_code 0 = .ok (.aload_n 0, 1) := by decide +kernel
theorem d2_1 : decode jdk_42_method_3_code 1 = .ok (.aload_n 1, 1) := by decide +kernel
theorem d2_2 : decode jdk_42_method_3_code 2 = .ok (.iconst 0, 1) := by decide +kernel
theorem d2_3 : decode jdk_42_method_3_code 3 = .ok (.aload_n 1, 1) := by decide +kernel
theorem d2_4 : decode jdk_42_method_3_code 4 = .ok (.arraylength, 1) := by decide +kernel
theorem d2_5 : decode jdk_42_method_3_code 5 = .ok (.aconst_null, 1) := by decide +kernel
theorem d2_6 : decode jdk_42_method_3_code 6 = .ok (.invokespecial 27, 3) := by decide +kernel
theorem d2_9 : decode jdk_42_method_3_code 9 = .ok (.return_, 1) := by decide +kernel
theorem pd_7 : parseMethodDescriptor "([CIILjava/lang/Void;)V" = some ⟨[(.array .char), .int, .int, (.object "java/lang/Void")], none⟩ := by decide +kernel
theorem ef_3s (m : MethodId) (x0 : Addr) (x1 : Addr) : entryFrame m #[(.ref x0), (.ref x1)] 2 = mkF m 0 #[.val (.ref x0), .val (.ref x1)] [] := by first | (simp [entryFrame, mkF, argsToLocals, Value.category]; done) | rfl
set_option maxRecDepth 65536 in
set_option maxHeartbeats 40000000 in
theorem rm3s (l : Launch) (Z : State) (a0 : Array Value) (hw : ∀ d ∈ tables_1, d.before a0 Z = true) (ws : List Jvm.Cond) (a1 ca : Addr) (kc : ClassId) (cs : List Int32) (co : Int32) (vf : Value) (h0 : Heap) (n0 : Nat) (O0 : Old Z n0 h0) (g_a1 : n0 ≤ a1) (E_a1 : Exa Z h0 a1 "java/lang/String") (Fvalue : Fld Z h0 a1 "java/lang/String" "value" "[B" .null) (Fcoder : Fld Z h0 a1 "java/lang/String" "coder" "B" (.int (0 : Int32))) (neac : a1 ≠ ca) (hn0 : 0 < cs.length) (hn : cs.length ≤ 4) (hu : own_u cs) (A_ca : AF Z h0 ca kc .char cs.length (fun j => .int (cs.getD j 0))) (SWh : SW Z co vf) :
    MetFree l (⟨"java/lang/String", "<init>", "([C)V"⟩ : MethodName) (head1 (Jvm.Cond.code (⟨"java/lang/String", "<init>", "([C)V"⟩ : MethodName) jdk_42_method_3_code 2 none :: ws) ({ frames := 5, cells := 2, slots := 12, locals := 74 } : Room)) (fun aQ U => aQ = #[(.ref a1), (.ref ca)] ∧ Z.Warmed39 U.vm ∧ U.heap = h0) (fun _ _ _ _ _ => True) (fun _ U o U' => ∃ v L, o = .returned v ∧ QST Z a1 cs h0 n0 v U'.heap L ∧ FrameEnd U o U' L ({ frames := 5, cells := 2, slots := 12, locals := 74 } : Room).cells ({ frames := 5, cells := 2, slots := 12, locals := 74 } : Room).slots) := by
  refine MetFree.of_bodySF (plainFor_of_name pn_java_lang_String) hisR ?_
  intro p e s m args below meth kode s₁ Bd hml0 hP hK
  obtain ⟨rfl, hZ, hh⟩ := hP
  have hx := Bd.exec
  have hby := Bd.bytes
  have hml : kode.maxLocals = 2 := hml0
  have hown : s.vm.findClass "java/lang/String" = some m.cls := findClass_of_methodNamed Bd.named
  have hnm := (name_of_methodNamed Bd.named Bd.method).1
  have X0 : Stand p l e ({ frames := 5, cells := 2, slots := 12, locals := 74 } : Room) s m #[(.ref a1), (.ref ca)] below meth kode s₁ [] 0 0 := Stand.of_body Bd
  have e0 : s₁.heap = h0 := by rw [← hh, Bd.state]; rfl
  have N0 := Fr.nil n0
  have pre0 : ∀ t, Steps p.tables e below (s₁.setTop (mkF m 0 #[.val (.ref a1), .val (.ref ca)] [])) t → Steps p.tables e below (s₁.setTop (entryFrame m #[(.ref a1), (.ref ca)] 2)) t := fun t k => castTop (ef_3s m a1 ca) k
  have SWx := SWh
  obtain ⟨S_CS, hcs, S_AD, S_HI, S_LO, S_SI, hcat_vf⟩ := SWx
  have cn1 := fun (t : State) (kt : Steps p.tables e below (s₁.setTop (mkF m 4 #[.val (.ref a1), .val (.ref ca)] [(.ref ca), (.int (0 : Int32)), (.ref ca), (.ref a1)])) t) => pre0 t (by
    refine XS.aloadN X0.here hx rfl (hb hby d2_0) rfl rfl ?_
    show Steps p.tables e below (s₁.setTop (mkF m 1 #[.val (.ref a1), .val (.ref ca)] [(.ref a1)])) _
    refine XS.aloadN X0.here hx rfl (hb hby d2_1) rfl rfl ?_
    show Steps p.tables e below (s₁.setTop (mkF m 2 #[.val (.ref a1), .val (.ref ca)] [(.ref ca), (.ref a1)])) _
    refine XS.iconst X0.here hx rfl (hb hby d2_2) ?_
    show Steps p.tables e below (s₁.setTop (mkF m 3 #[.val (.ref a1), .val (.ref ca)] [(.int (0 : Int32)), (.ref ca), (.ref a1)])) _
    refine XS.aloadN X0.here hx rfl (hb hby d2_3) rfl rfl ?_
    show Steps p.tables e below (s₁.setTop (mkF m 4 #[.val (.ref a1), .val (.ref ca)] [(.ref ca), (.int (0 : Int32)), (.ref ca), (.ref a1)])) _
    exact kt)
  have AFx2 := A_ca
  obtain ⟨cl2, Ar2, q2, S2, H2⟩ := AFx2
  have cn3 := fun (t : State) (kt : Steps p.tables e below (s₁.setTop (mkF m 6 #[.val (.ref a1), .val (.ref ca)] [.null, (.int (Nat.toInt32 cs.length)), (.int (0 : Int32)), (.ref ca), (.ref a1)])) t) => cn1 t (by
    refine X0.arraylength hx (by rw [e0]; exact Ar2.1) (State.isArrayOf_alike hZ.alike Ar2.2.1) (g := (mkF m 4 #[.val (.ref a1), .val (.ref ca)] [(.ref ca), (.int (0 : Int32)), (.ref ca), (.ref a1)])) rfl rfl (hb hby d2_4) _ ?_
    rw [S2]
    show Steps p.tables e below (s₁.setTop (mkF m 5 #[.val (.ref a1), .val (.ref ca)] [(.int (Nat.toInt32 cs.length)), (.int (0 : Int32)), (.ref ca), (.ref a1)])) _
    refine XS.aconstNull X0.here hx rfl (hb hby d2_5) ?_
    show Steps p.tables e below (s₁.setTop (mkF m 6 #[.val (.ref a1), .val (.ref ca)] [.null, (.int (Nat.toInt32 cs.length)), (.int (0 : Int32)), (.ref ca), (.ref a1)])) _
    exact kt)
  obtain ⟨_, _, ⟨T4, L4, k4, n4⟩, -, X4, ⟨Lc4, hQ4, l4, y4, z4⟩, st4⟩ := X0.specialBack hx (y := (⟨"java/lang/String", "<init>", "([CIILjava/lang/Void;)V"⟩ : MethodName)) rfl hown (mvT hZ (hw _ (List.mem_of_getElem? (i := 13) rfl))) (mvT hZ (hw _ (List.mem_of_getElem? (i := 14) rfl))) (mvT hZ (hw _ (List.mem_of_getElem? (i := 16) rfl))) (by decide) (backOf (W := 0) (rm149s l Z a0 hw [] a1 ca kc cs co vf h0 n0 O0 g_a1 E_a1 Fvalue Fcoder neac hn0 hn hu A_ca SWh) hZ (hw _ (List.mem_of_getElem? (i := 16) rfl)) (hw _ (List.mem_of_getElem? (i := 9) rfl)) (by decide) (by decide)) (g := (mkF m 6 #[.val (.ref a1), .val (.ref ca)] [.null, (.int (Nat.toInt32 cs.length)), (.int (0 : Int32)), (.ref ca), (.ref a1)])) rfl (by rw [hml]; rfl) (Steps.refl _) (a := a1) (argsL := [(.ref ca), (.int (0 : Int32)), (.int (Nat.toInt32 cs.length)), .null]) (rest := []) (lenOf pd_7 rfl) rfl (by show 2 * 0 + _ ≤ _; exact Nat.le_of_eq rfl) (hb hby d2_6) (fun _ _ => ⟨rfl, e0, (by decide : 0 + 2 ≤ _), (by decide : 0 + 12 ≤ _)⟩)
  dsimp only [Pt.U, Pt.locs, Pt.cells, Pt.slots] at X4 l4 y4 z4 st4 hQ4
  subst l4 y4 z4
  obtain ⟨rfl, Nq4, Kq4, b4x, kb4, fb4, cd4, SS4⟩ := hQ4
  have N4 := Fr.app N0 Nq4
  have K4 := Kq4
  have E_a1_e4 := E_a1.keep K4
  have A_ca_e4 := A_ca.keep K4 (ninS (Ne.symm neac) nin0)
  have O4 := O0.keep K4 (allS g_a1 all0)
  have KK4 : Keep h0 T4.heap [a1] := (Keep.refl h0 [a1]).trans K4 (allS (Or.inl (List.mem_of_getElem? (i := 0) rfl)) all0)
  have cn5 := fun (t : State) (kt : Steps p.tables e below (T4.setTop (mkF m 9 #[.val (.ref a1), .val (.ref ca)] [])) t) => cn3 t (by
    refine st4.trans ?_
    show Steps p.tables e below (T4.setTop (mkF m 9 #[.val (.ref a1), .val (.ref ca)] [])) _
    exact kt)
  obtain ⟨frs, hr, hrun, hended, hW, hsame⟩ := X4.leave (v := none) (fun _ => rfl)
  refine ⟨_, _, cn5 _ ?_, hrun, hended, _, _, rfl, ?_, ⟨_, rfl⟩, hW, hsame.mono (by decide) (by decide)⟩
  · exact X4.returnOut hx Bd.returns (hb hby d2_9) hr
  · show QST Z a1 cs h0 n0 _ T4.heap _
    exact ⟨rfl, N4, KK4, _, _, _, _, SS4⟩

theorem d15_0 : decode jdk_41_method_11_code 0 = .ok (.iload_n 0, 1) := by decide +kernel
theorem d15_1 : decode jdk_41_method_11_code 1 = .ok (.ifCond .lt 8, 3) := by decide +kernel
theorem d15_4 : decode jdk_41_method_11_code 4 = .ok (.iload_n 0, 1) := by decide +kernel
theorem d15_5 : decode jdk_41_method_11_code 5 = .ok (.iload_n 1, 1) := by decide +kernel
theorem d15_6 : decode jdk_41_method_11_code 6 = .ok (.if_icmp .lt 10, 3) := by decide +kernel
theorem d15_16 : decode jdk_41_method_11_code 16 = .ok (.iload_n 0, 1) := by decide +kernel
theorem d15_17 : decode jdk_41_method_11_code 17 = .ok (.ireturn, 1) := by decide +kernel
theorem pn_jdk_internal_util_Preconditions : plainName "jdk/internal/util/Preconditions" = true := by first | (simp [plainName, overriddenIn]; done) | decide +kernel
theorem ef_15 (m : MethodId) (x0 : Int32) (x1 : Int32) (x2 : Value) (hx2 : x2.category = 1) : entryFrame m #[(.int x0), (.int x1), x2] 3 = mkF m 0 #[.val (.int x0), .val (.int x1), .val x2] [] := by first | (simp [entryFrame, mkF, argsToLocals, Value.category, hx2]; done) | rfl | (cases x2 <;> first | rfl | (simp [Value.category] at hx2; done))
set_option maxRecDepth 65536 in
set_option maxHeartbeats 40000000 in
theorem rm15 (l : Launch) (Z : State) (a0 : Array Value) (hw : ∀ d ∈ tables_1, d.before a0 Z = true) (ws : List Jvm.Cond) (i n : Nat) (vf : Value) (h0 : Heap) (n0 : Nat) (O0 : Old Z n0 h0) (hi : i < n) (hm : n ≤ 8) (hcat_vf : vf.category = 1) :
    MetFree l (⟨"jdk/internal/util/Preconditions", "checkIndex", "(IILjava/util/function/BiFunction;)I"⟩ : MethodName) (head1 (Jvm.Cond.code (⟨"jdk/internal/util/Preconditions", "checkIndex", "(IILjava/util/function/BiFunction;)I"⟩ : MethodName) jdk_41_method_11_code 3 (some .int) :: ws) ({ frames := 0, cells := 0, slots := 0, locals := 0 } : Room)) (fun aQ U => aQ = #[(.int (Nat.toInt32 i)), (.int (Nat.toInt32 n)), vf] ∧ Z.Warmed39 U.vm ∧ U.heap = h0) (fun _ _ _ _ _ => True) (fun _ U o U' => ∃ v L, o = .returned v ∧ QI (Nat.toInt32 i) h0 n0 v U'.heap L ∧ FrameEnd U o U' L ({ frames := 0, cells := 0, slots := 0, locals := 0 } : Room).cells ({ frames := 0, cells := 0, slots := 0, locals := 0 } : Room).slots) := by
  refine MetFree.of_bodySF (plainFor_of_name pn_jdk_internal_util_Preconditions) hisR ?_
  intro p e s m args below meth kode s₁ Bd hml0 hP hK
  obtain ⟨rfl, hZ, hh⟩ := hP
  have hx := Bd.exec
  have hby := Bd.bytes
  have hml : kode.maxLocals = 3 := hml0
  have hown : s.vm.findClass "jdk/internal/util/Preconditions" = some m.cls := findClass_of_methodNamed Bd.named
  have hnm := (name_of_methodNamed Bd.named Bd.method).1
  have X0 : Stand p l e ({ frames := 0, cells := 0, slots := 0, locals := 0 } : Room) s m #[(.int (Nat.toInt32 i)), (.int (Nat.toInt32 n)), vf] below meth kode s₁ [] 0 0 := Stand.of_body Bd
  have e0 : s₁.heap = h0 := by rw [← hh, Bd.state]; rfl
  have N0 := Fr.nil n0
  have pre0 : ∀ t, Steps p.tables e below (s₁.setTop (mkF m 0 #[.val (.int (Nat.toInt32 i)), .val (.int (Nat.toInt32 n)), .val vf] [])) t → Steps p.tables e below (s₁.setTop (entryFrame m #[(.int (Nat.toInt32 i)), (.int (Nat.toInt32 n)), vf] 3)) t := fun t k => castTop (ef_15 m (Nat.toInt32 i) (Nat.toInt32 n) vf hcat_vf) k
  have cn1 := fun (t : State) (kt : Steps p.tables e below (s₁.setTop (mkF m 1 #[.val (.int (Nat.toInt32 i)), .val (.int (Nat.toInt32 n)), .val vf] [(.int (Nat.toInt32 i))])) t) => pre0 t (by
    refine XS.iloadN X0.here hx rfl (hb hby d15_0) rfl ?_
    show Steps p.tables e below (s₁.setTop (mkF m 1 #[.val (.int (Nat.toInt32 i)), .val (.int (Nat.toInt32 n)), .val vf] [(.int (Nat.toInt32 i))])) _
    exact kt)
  have cn2 := fun (t : State) (kt : Steps p.tables e below (s₁.setTop (mkF m 6 #[.val (.int (Nat.toInt32 i)), .val (.int (Nat.toInt32 n)), .val vf] [(.int (Nat.toInt32 n)), (.int (Nat.toInt32 i))])) t) => cn1 t (by
    refine XS.ifNo X0.here hx rfl (hb hby d15_1) rfl ((if0 _ _).trans (flt (own_ix (by omega)).1).1) ?_
    show Steps p.tables e below (s₁.setTop (mkF m 4 #[.val (.int (Nat.toInt32 i)), .val (.int (Nat.toInt32 n)), .val vf] [])) _
    refine XS.iloadN X0.here hx rfl (hb hby d15_4) rfl ?_
    show Steps p.tables e below (s₁.setTop (mkF m 5 #[.val (.int (Nat.toInt32 i)), .val (.int (Nat.toInt32 n)), .val vf] [(.int (Nat.toInt32 i))])) _
    refine XS.iloadN X0.here hx rfl (hb hby d15_5) rfl ?_
    show Steps p.tables e below (s₁.setTop (mkF m 6 #[.val (.int (Nat.toInt32 i)), .val (.int (Nat.toInt32 n)), .val vf] [(.int (Nat.toInt32 n)), (.int (Nat.toInt32 i))])) _
    exact kt)
  have cn3 := fun (t : State) (kt : Steps p.tables e below (s₁.setTop (mkF m 17 #[.val (.int (Nat.toInt32 i)), .val (.int (Nat.toInt32 n)), .val vf] [(.int (Nat.toInt32 i))])) t) => cn2 t (by
    refine XS.icmpYes X0.here hx rfl (pc0 := 6) (pc' := 16) rfl (hb hby d15_6) rfl (tlt ((own_lt (by omega) (by omega)).mpr hi)).1 (by decide) (by decide) ?_
    show Steps p.tables e below (s₁.setTop (mkF m 16 #[.val (.int (Nat.toInt32 i)), .val (.int (Nat.toInt32 n)), .val vf] [])) _
    refine XS.iloadN X0.here hx rfl (hb hby d15_16) rfl ?_
    show Steps p.tables e below (s₁.setTop (mkF m 17 #[.val (.int (Nat.toInt32 i)), .val (.int (Nat.toInt32 n)), .val vf] [(.int (Nat.toInt32 i))])) _
    exact kt)
  obtain ⟨frs, hr, hrun, hended, hW, hsame⟩ := X0.leave (v := some (.int (Nat.toInt32 i))) (fun h => by rw [Bd.returns] at h; cases h)
  refine ⟨_, _, cn3 _ ?_, hrun, hended, _, _, rfl, ?_, ⟨_, rfl⟩, hW, hsame.mono (by decide) (by decide)⟩
  · exact retI X0 hx Bd.returns (hb hby d15_17) hr
  · show QI (Nat.toInt32 i) h0 n0 _ s₁.heap _
    rw [e0]
    exact ⟨rfl, N0, rfl⟩

theorem d14_0 : decode jdk_42_method_155_code 0 = .ok (.iload_n 0, 1) := by decide +kernel
theorem d14_1 : decode jdk_42_method_155_code 1 = .ok (.iload_n 1, 1) := by decide +kernel
theorem d14_2 : decode jdk_42_method_155_code 2 = .ok (.getstatic 1053, 3) := by decide +kernel
theorem d14_5 : decode jdk_42_method_155_code 5 = .ok (.invokestatic 1059, 3) := by decide +kernel
theorem d14_8 : decode jdk_42_method_155_code 8 = .ok (.pop, 1) := by decide +kernel
theorem d14_9 : decode jdk_42_method_155_code 9 = .ok (.return_, 1) := by decide +kernel
theorem pd_8 : parseMethodDescriptor "(IILjava/util/function/BiFunction;)I" = some ⟨[.int, .int, (.object "java/util/function/BiFunction")], some .int⟩ := by decide +kernel
theorem ef_14 (m : MethodId) (x0 : Int32) (x1 : Int32) : entryFrame m #[(.int x0), (.int x1)] 2 = mkF m 0 #[.val (.int x0), .val (.int x1)] [] := by first | (simp [entryFrame, mkF, argsToLocals, Value.category]; done) | rfl
set_option maxRecDepth 65536 in
set_option maxHeartbeats 40000000 in
theorem rm14 (l : Launch) (Z : State) (a0 : Array Value) (hw : ∀ d ∈ tables_1, d.before a0 Z = true) (ws : List Jvm.Cond) (i n : Nat) (co : Int32) (vf : Value) (h0 : Heap) (n0 : Nat) (O0 : Old Z n0 h0) (hi : i < n) (hm : n ≤ 8) (SWh : SW Z co vf) :
    MetFree l (⟨"java/lang/String", "checkIndex", "(II)V"⟩ : MethodName) (head1 (Jvm.Cond.code (⟨"java/lang/String", "checkIndex", "(II)V"⟩ : MethodName) jdk_42_method_155_code 2 none :: ws) ({ frames := 1, cells := 0, slots := 0, locals := 14 } : Room)) (fun aQ U => aQ = #[(.int (Nat.toInt32 i)), (.int (Nat.toInt32 n))] ∧ Z.Warmed39 U.vm ∧ U.heap = h0) (fun _ _ _ _ _ => True) (fun _ U o U' => ∃ v L, o = .returned v ∧ QN h0 n0 v U'.heap L ∧ FrameEnd U o U' L ({ frames := 1, cells := 0, slots := 0, locals := 14 } : Room).cells ({ frames := 1, cells := 0, slots := 0, locals := 14 } : Room).slots) := by
  refine MetFree.of_bodySF (plainFor_of_name pn_java_lang_String) hisR ?_
  intro p e s m args below meth kode s₁ Bd hml0 hP hK
  obtain ⟨rfl, hZ, hh⟩ := hP
  have hx := Bd.exec
  have hby := Bd.bytes
  have hml : kode.maxLocals = 2 := hml0
  have hown : s.vm.findClass "java/lang/String" = some m.cls := findClass_of_methodNamed Bd.named
  have hnm := (name_of_methodNamed Bd.named Bd.method).1
  have X0 : Stand p l e ({ frames := 1, cells := 0, slots := 0, locals := 14 } : Room) s m #[(.int (Nat.toInt32 i)), (.int (Nat.toInt32 n))] below meth kode s₁ [] 0 0 := Stand.of_body Bd
  have e0 : s₁.heap = h0 := by rw [← hh, Bd.state]; rfl
  have N0 := Fr.nil n0
  have pre0 : ∀ t, Steps p.tables e below (s₁.setTop (mkF m 0 #[.val (.int (Nat.toInt32 i)), .val (.int (Nat.toInt32 n))] [])) t → Steps p.tables e below (s₁.setTop (entryFrame m #[(.int (Nat.toInt32 i)), (.int (Nat.toInt32 n))] 2)) t := fun t k => castTop (ef_14 m (Nat.toInt32 i) (Nat.toInt32 n)) k
  have SWx := SWh
  obtain ⟨S_CS, hcs, S_AD, S_HI, S_LO, S_SI, hcat_vf⟩ := SWx
  have cn1 := fun (t : State) (kt : Steps p.tables e below (s₁.setTop (mkF m 2 #[.val (.int (Nat.toInt32 i)), .val (.int (Nat.toInt32 n))] [(.int (Nat.toInt32 n)), (.int (Nat.toInt32 i))])) t) => pre0 t (by
    refine XS.iloadN X0.here hx rfl (hb hby d14_0) rfl ?_
    show Steps p.tables e below (s₁.setTop (mkF m 1 #[.val (.int (Nat.toInt32 i)), .val (.int (Nat.toInt32 n))] [(.int (Nat.toInt32 i))])) _
    refine XS.iloadN X0.here hx rfl (hb hby d14_1) rfl ?_
    show Steps p.tables e below (s₁.setTop (mkF m 2 #[.val (.int (Nat.toInt32 i)), .val (.int (Nat.toInt32 n))] [(.int (Nat.toInt32 n)), (.int (Nat.toInt32 i))])) _
    exact kt)
  obtain ⟨T2, X2, e2, st2⟩ := getS2 X0 hx hZ hown (host := "") (Or.inl (hw _ (List.mem_of_getElem? (i := 67) rfl))) Via.refl e0 (S_SI.ext O0.2) (g := (mkF m 2 #[.val (.int (Nat.toInt32 i)), .val (.int (Nat.toInt32 n))] [(.int (Nat.toInt32 n)), (.int (Nat.toInt32 i))])) rfl (hb hby d14_2)
  have cn3 := fun (t : State) (kt : Steps p.tables e below (T2.setTop (mkF m 5 #[.val (.int (Nat.toInt32 i)), .val (.int (Nat.toInt32 n))] [vf, (.int (Nat.toInt32 n)), (.int (Nat.toInt32 i))])) t) => cn1 t (by
    refine st2 _ ?_
    show Steps p.tables e below (T2.setTop (mkF m 5 #[.val (.int (Nat.toInt32 i)), .val (.int (Nat.toInt32 n))] [vf, (.int (Nat.toInt32 n)), (.int (Nat.toInt32 i))])) _
    exact kt)
  obtain ⟨_, _, ⟨T4, L4, k4, n4⟩, -, X4, ⟨Lc4, hQ4, l4, y4, z4⟩, st4⟩ := Jvm.LawKit.callS X2 hx (y := (⟨"jdk/internal/util/Preconditions", "checkIndex", "(IILjava/util/function/BiFunction;)I"⟩ : MethodName)) hown (mvT hZ (hw _ (List.mem_of_getElem? (i := 69) rfl))) (mvT hZ (hw _ (List.mem_of_getElem? (i := 70) rfl))) (mvT hZ (hw _ (List.mem_of_getElem? (i := 68) rfl))) (mvT hZ (hw _ (List.mem_of_getElem? (i := 71) rfl))) (by decide) (backOf (W := 0) (rm15 l Z a0 hw [] i n vf h0 n0 O0 hi hm hcat_vf) hZ (hw _ (List.mem_of_getElem? (i := 71) rfl)) (hw _ (List.mem_of_getElem? (i := 68) rfl)) (by decide) (by decide)) (g := (mkF m 5 #[.val (.int (Nat.toInt32 i)), .val (.int (Nat.toInt32 n))] [vf, (.int (Nat.toInt32 n)), (.int (Nat.toInt32 i))])) rfl (by rw [hml]; rfl) (argsL := [(.int (Nat.toInt32 i)), (.int (Nat.toInt32 n)), vf]) (rest := []) (lenOf pd_8 rfl) rfl (by show 2 * 0 + _ ≤ _; exact Nat.le_of_eq rfl) (hb hby d14_5) (fun _ _ => ⟨rfl, e2, (by decide : 0 + 0 ≤ _), (by decide : 0 + 0 ≤ _)⟩)
  dsimp only [Pt.U, Pt.locs, Pt.cells, Pt.slots] at X4 l4 y4 z4 st4 hQ4
  subst l4 y4 z4
  obtain ⟨rfl, Nq4, eh4⟩ := hQ4
  have N4 := Fr.app N0 Nq4
  have cn5 := fun (t : State) (kt : Steps p.tables e below (T4.setTop (mkF m 9 #[.val (.int (Nat.toInt32 i)), .val (.int (Nat.toInt32 n))] [])) t) => cn3 t (by
    refine st4 _ ?_
    show Steps p.tables e below (T4.setTop (mkF m 8 #[.val (.int (Nat.toInt32 i)), .val (.int (Nat.toInt32 n))] [(.int (Nat.toInt32 i))])) _
    refine XS.pop X4.here hx rfl (hb hby d14_8) rfl rfl ?_
    show Steps p.tables e below (T4.setTop (mkF m 9 #[.val (.int (Nat.toInt32 i)), .val (.int (Nat.toInt32 n))] [])) _
    exact kt)
  obtain ⟨frs, hr, hrun, hended, hW, hsame⟩ := X4.leave (v := none) (fun _ => rfl)
  refine ⟨_, _, cn5 _ ?_, hrun, hended, _, _, rfl, ?_, ⟨_, rfl⟩, hW, hsame.mono (by decide) (by decide)⟩
  · exact X4.returnOut hx Bd.returns (hb hby d14_9) hr
  · show QN h0 n0 _ T4.heap _
    rw [eh4]
    exact ⟨rfl, N4, rfl⟩

theorem d13_0 : decode jdk_43_method_2_code 0 = .ok (.iload_n 1, 1) := by decide +kernel
theorem d13_1 : decode jdk_43_method_2_code 1 = .ok (.aload_n 0, 1) := by decide +kernel
theorem d13_2 : decode jdk_43_method_2_code 2 = .ok (.arraylength, 1) := by decide +kernel
theorem d13_3 : decode jdk_43_method_2_code 3 = .ok (.invokestatic 9, 3) := by decide +kernel
theorem d13_6 : decode jdk_43_method_2_code 6 = .ok (.aload_n 0, 1) := by decide +kernel
theorem d13_7 : decode jdk_43_method_2_code 7 = .ok (.iload_n 1, 1) := by decide +kernel
theorem d13_8 : decode jdk_43_method_2_code 8 = .ok (.baload, 1) := by decide +kernel
theorem d13_9 : decode jdk_43_method_2_code 9 = .ok (.sipush 255, 3) := by decide +kernel
theorem d13_12 : decode jdk_43_method_2_code 12 = .ok (.iand, 1) := by decide +kernel
theorem d13_13 : decode jdk_43_method_2_code 13 = .ok (.i2c, 1) := by decide +kernel
theorem d13_14 : decode jdk_43_method_2_code 14 = .ok (.ireturn, 1) := by decide +kernel
theorem pd_9 : parseMethodDescriptor "(II)V" = some ⟨[.int, .int], none⟩ := by decide +kernel
theorem pn_java_lang_StringLatin1 : plainName "java/lang/StringLatin1" = true := by first | (simp [plainName, overriddenIn]; done) | decide +kernel
theorem ef_13 (m : MethodId) (x0 : Addr) (x1 : Int32) : entryFrame m #[(.ref x0), (.int x1)] 2 = mkF m 0 #[.val (.ref x0), .val (.int x1)] [] := by first | (simp [entryFrame, mkF, argsToLocals, Value.category]; done) | rfl
set_option maxRecDepth 65536 in
set_option maxHeartbeats 40000000 in
theorem rm13 (l : Launch) (Z : State) (a0 : Array Value) (hw : ∀ d ∈ tables_1, d.before a0 Z = true) (ws : List Jvm.Cond) (ba : Addr) (k : ClassId) (n i : Nat) (f : Nat → Value) (x : Int32) (co : Int32) (vf : Value) (h0 : Heap) (n0 : Nat) (O0 : Old Z n0 h0) (hi : i < n) (hm : n ≤ 8) (hxv : f i = .int x) (A_ba : AF Z h0 ba k .byte n f) (SWh : SW Z co vf) :
    MetFree l (⟨"java/lang/StringLatin1", "charAt", "([BI)C"⟩ : MethodName) (head1 (Jvm.Cond.code (⟨"java/lang/StringLatin1", "charAt", "([BI)C"⟩ : MethodName) jdk_43_method_2_code 2 (some .char) :: ws) ({ frames := 2, cells := 0, slots := 0, locals := 27 } : Room)) (fun aQ U => aQ = #[(.ref ba), (.int (Nat.toInt32 i))] ∧ Z.Warmed39 U.vm ∧ U.heap = h0) (fun _ _ _ _ _ => True) (fun _ U o U' => ∃ v L, o = .returned v ∧ QI (own_lc x) h0 n0 v U'.heap L ∧ FrameEnd U o U' L ({ frames := 2, cells := 0, slots := 0, locals := 27 } : Room).cells ({ frames := 2, cells := 0, slots := 0, locals := 27 } : Room).slots) := by
  refine MetFree.of_bodySF (plainFor_of_name pn_java_lang_StringLatin1) hisR ?_
  intro p e s m args below meth kode s₁ Bd hml0 hP hK
  obtain ⟨rfl, hZ, hh⟩ := hP
  have hx := Bd.exec
  have hby := Bd.bytes
  have hml : kode.maxLocals = 2 := hml0
  have hown : s.vm.findClass "java/lang/StringLatin1" = some m.cls := findClass_of_methodNamed Bd.named
  have hnm := (name_of_methodNamed Bd.named Bd.method).1
  have X0 : Stand p l e ({ frames := 2, cells := 0, slots := 0, locals := 27 } : Room) s m #[(.ref ba), (.int (Nat.toInt32 i))] below meth kode s₁ [] 0 0 := Stand.of_body Bd
  have e0 : s₁.heap = h0 := by rw [← hh, Bd.state]; rfl
  have N0 := Fr.nil n0
  have pre0 : ∀ t, Steps p.tables e below (s₁.setTop (mkF m 0 #[.val (.ref ba), .val (.int (Nat.toInt32 i))] [])) t → Steps p.tables e below (s₁.setTop (entryFrame m #[(.ref ba), (.int (Nat.toInt32 i))] 2)) t := fun t k => castTop (ef_13 m ba (Nat.toInt32 i)) k
  have SWx := SWh
  obtain ⟨S_CS, hcs, S_AD, S_HI, S_LO, S_SI, hcat_vf⟩ := SWx
  have cn1 := fun (t : State) (kt : Steps p.tables e below (s₁.setTop (mkF m 2 #[.val (.ref ba), .val (.int (Nat.toInt32 i))] [(.ref ba), (.int (Nat.toInt32 i))])) t) => pre0 t (by
    refine XS.iloadN X0.here hx rfl (hb hby d13_0) rfl ?_
    show Steps p.tables e below (s₁.setTop (mkF m 1 #[.val (.ref ba), .val (.int (Nat.toInt32 i))] [(.int (Nat.toInt32 i))])) _
    refine XS.aloadN X0.here hx rfl (hb hby d13_1) rfl rfl ?_
    show Steps p.tables e below (s₁.setTop (mkF m 2 #[.val (.ref ba), .val (.int (Nat.toInt32 i))] [(.ref ba), (.int (Nat.toInt32 i))])) _
    exact kt)
  have AFx2 := A_ba
  obtain ⟨cl2, Ar2, q2, S2, H2⟩ := AFx2
  have cn3 := fun (t : State) (kt : Steps p.tables e below (s₁.setTop (mkF m 3 #[.val (.ref ba), .val (.int (Nat.toInt32 i))] [(.int (Nat.toInt32 n)), (.int (Nat.toInt32 i))])) t) => cn1 t (by
    refine X0.arraylength hx (by rw [e0]; exact Ar2.1) (State.isArrayOf_alike hZ.alike Ar2.2.1) (g := (mkF m 2 #[.val (.ref ba), .val (.int (Nat.toInt32 i))] [(.ref ba), (.int (Nat.toInt32 i))])) rfl rfl (hb hby d13_2) _ ?_
    rw [S2]
    show Steps p.tables e below (s₁.setTop (mkF m 3 #[.val (.ref ba), .val (.int (Nat.toInt32 i))] [(.int (Nat.toInt32 n)), (.int (Nat.toInt32 i))])) _
    exact kt)
  obtain ⟨_, _, ⟨T4, L4, k4, n4⟩, -, X4, ⟨Lc4, hQ4, l4, y4, z4⟩, st4⟩ := Jvm.LawKit.callS X0 hx (y := (⟨"java/lang/String", "checkIndex", "(II)V"⟩ : MethodName)) hown (mvT hZ (hw _ (List.mem_of_getElem? (i := 64) rfl))) (mvT hZ (hw _ (List.mem_of_getElem? (i := 65) rfl))) (mvT hZ (hw _ (List.mem_of_getElem? (i := 9) rfl))) (mvT hZ (hw _ (List.mem_of_getElem? (i := 66) rfl))) (by decide) (backOf (W := 0) (rm14 l Z a0 hw [] i n co vf h0 n0 O0 hi hm SWh) hZ (hw _ (List.mem_of_getElem? (i := 66) rfl)) (hw _ (List.mem_of_getElem? (i := 9) rfl)) (by decide) (by decide)) (g := (mkF m 3 #[.val (.ref ba), .val (.int (Nat.toInt32 i))] [(.int (Nat.toInt32 n)), (.int (Nat.toInt32 i))])) rfl (by rw [hml]; rfl) (argsL := [(.int (Nat.toInt32 i)), (.int (Nat.toInt32 n))]) (rest := []) (lenOf pd_9 rfl) rfl (by show 2 * 0 + _ ≤ _; exact Nat.le_of_eq rfl) (hb hby d13_3) (fun _ _ => ⟨rfl, e0, (by decide : 0 + 0 ≤ _), (by decide : 0 + 0 ≤ _)⟩)
  dsimp only [Pt.U, Pt.locs, Pt.cells, Pt.slots] at X4 l4 y4 z4 st4 hQ4
  subst l4 y4 z4
  obtain ⟨rfl, Nq4, eh4⟩ := hQ4
  have N4 := Fr.app N0 Nq4
  have cn5 := fun (t : State) (kt : Steps p.tables e below (T4.setTop (mkF m 8 #[.val (.ref ba), .val (.int (Nat.toInt32 i))] [(.int (Nat.toInt32 i)), (.ref ba)])) t) => cn3 t (by
    refine st4 _ ?_
    show Steps p.tables e below (T4.setTop (mkF m 6 #[.val (.ref ba), .val (.int (Nat.toInt32 i))] [])) _
    refine XS.aloadN X4.here hx rfl (hb hby d13_6) rfl rfl ?_
    show Steps p.tables e below (T4.setTop (mkF m 7 #[.val (.ref ba), .val (.int (Nat.toInt32 i))] [(.ref ba)])) _
    refine XS.iloadN X4.here hx rfl (hb hby d13_7) rfl ?_
    show Steps p.tables e below (T4.setTop (mkF m 8 #[.val (.ref ba), .val (.int (Nat.toInt32 i))] [(.int (Nat.toInt32 i)), (.ref ba)])) _
    exact kt)
  have AFx6 := A_ba
  obtain ⟨cl6, Ar6, q6, S6, H6⟩ := AFx6
  have hin6 : ¬ ((Nat.toInt32 i) < 0 ∨ cl6.slots.size ≤ ((Nat.toInt32 i)).toNatClampNeg) := AF.inb S6 (own_ix (by omega)) hi
  have hat6 : cl6.slots[((Nat.toInt32 i)).toNatClampNeg]? = some (.int x) := AF.at H6 (own_ix (by omega)) hi hxv
  have cn7 := fun (t : State) (kt : Steps p.tables e below (T4.setTop (mkF m 14 #[.val (.ref ba), .val (.int (Nat.toInt32 i))] [(.int ((x &&& (255 : Int32)).toUInt32.toUInt16.toUInt32.toInt32))])) t) => cn5 t (by
    refine X4.baloadBytes hx (j := (Nat.toInt32 i)) (v := (.int x)) (by rw [eh4]; exact Ar6.1) (State.isArrayOf_alike hZ.alike Ar6.2.1) Ar6.2.2 hin6 hat6 (g := (mkF m 8 #[.val (.ref ba), .val (.int (Nat.toInt32 i))] [(.int (Nat.toInt32 i)), (.ref ba)])) rfl rfl (hb hby d13_8) _ ?_
    show Steps p.tables e below (T4.setTop (mkF m 9 #[.val (.ref ba), .val (.int (Nat.toInt32 i))] [(.int x)])) _
    refine XS.sipush X4.here hx rfl (hb hby d13_9) ?_
    show Steps p.tables e below (T4.setTop (mkF m 12 #[.val (.ref ba), .val (.int (Nat.toInt32 i))] [(.int (255 : Int32)), (.int x)])) _
    refine XS.iand X4.here hx rfl (hb hby d13_12) rfl ?_
    show Steps p.tables e below (T4.setTop (mkF m 13 #[.val (.ref ba), .val (.int (Nat.toInt32 i))] [(.int (x &&& (255 : Int32)))])) _
    refine XS.i2c X4.here hx rfl (hb hby d13_13) rfl ?_
    show Steps p.tables e below (T4.setTop (mkF m 14 #[.val (.ref ba), .val (.int (Nat.toInt32 i))] [(.int ((x &&& (255 : Int32)).toUInt32.toUInt16.toUInt32.toInt32))])) _
    exact kt)
  obtain ⟨frs, hr, hrun, hended, hW, hsame⟩ := X4.leave (v := some (.int (nar .char ((x &&& (255 : Int32)).toUInt32.toUInt16.toUInt32.toInt32)))) (fun h => by rw [Bd.returns] at h; cases h)
  refine ⟨_, _, cn7 _ ?_, hrun, hended, _, _, rfl, ?_, ⟨_, rfl⟩, hW, hsame.mono (by decide) (by decide)⟩
  · exact retN X4 hx (t := .char) Bd.returns (by simp) (hb hby d13_14) hr
  · show QI (own_lc x) h0 n0 _ T4.heap _
    rw [eh4]
    exact ⟨rfl, N4, rfl⟩

theorem d24_0 : decode jdk_52_method_6_code 0 = .ok (.aload_n 0, 1) := by decide +kernel
theorem d24_1 : decode jdk_52_method_6_code 1 = .ok (.arraylength, 1) := by decide +kernel
theorem d24_2 : decode jdk_52_method_6_code 2 = .ok (.iconst 1, 1) := by decide +kernel
theorem d24_3 : decode jdk_52_method_6_code 3 = .ok (.ishr, 1) := by decide +kernel
theorem d24_4 : decode jdk_52_method_6_code 4 = .ok (.ireturn, 1) := by decide +kernel
theorem ef_24 (m : MethodId) (x0 : Addr) : entryFrame m #[(.ref x0)] 1 = mkF m 0 #[.val (.ref x0)] [] := by first | (simp [entryFrame, mkF, argsToLocals, Value.category]; done) | rfl
set_option maxRecDepth 65536 in
set_option maxHeartbeats 40000000 in
theorem rm24 (l : Launch) (Z : State) (a0 : Array Value) (hw : ∀ d ∈ tables_1, d.before a0 Z = true) (ws : List Jvm.Cond) (ba : Addr) (k : ClassId) (n : Nat) (f : Nat → Value) (h0 : Heap) (n0 : Nat) (O0 : Old Z n0 h0) (hm : n ≤ 4) (A_ba : AF Z h0 ba k .byte (2 * n) f) :
    MetFree l (⟨"java/lang/StringUTF16", "length", "([B)I"⟩ : MethodName) (head1 (Jvm.Cond.code (⟨"java/lang/StringUTF16", "length", "([B)I"⟩ : MethodName) jdk_52_method_6_code 1 (some .int) :: ws) ({ frames := 0, cells := 0, slots := 0, locals := 0 } : Room)) (fun aQ U => aQ = #[(.ref ba)] ∧ Z.Warmed39 U.vm ∧ U.heap = h0) (fun _ _ _ _ _ => True) (fun _ U o U' => ∃ v L, o = .returned v ∧ QI (Nat.toInt32 n) h0 n0 v U'.heap L ∧ FrameEnd U o U' L ({ frames := 0, cells := 0, slots := 0, locals := 0 } : Room).cells ({ frames := 0, cells := 0, slots := 0, locals := 0 } : Room).slots) := by
  refine MetFree.of_bodySF (plainFor_of_name pn_java_lang_StringUTF16) hisR ?_
  intro p e s m args below meth kode s₁ Bd hml0 hP hK
  obtain ⟨rfl, hZ, hh⟩ := hP
  have hx := Bd.exec
  have hby := Bd.bytes
  have hml : kode.maxLocals = 1 := hml0
  have hown : s.vm.findClass "java/lang/StringUTF16" = some m.cls := findClass_of_methodNamed Bd.named
  have hnm := (name_of_methodNamed Bd.named Bd.method).1
  have X0 : Stand p l e ({ frames := 0, cells := 0, slots := 0, locals := 0 } : Room) s m #[(.ref ba)] below meth kode s₁ [] 0 0 := Stand.of_body Bd
  have e0 : s₁.heap = h0 := by rw [← hh, Bd.state]; rfl
  have N0 := Fr.nil n0
  have pre0 : ∀ t, Steps p.tables e below (s₁.setTop (mkF m 0 #[.val (.ref ba)] [])) t → Steps p.tables e below (s₁.setTop (entryFrame m #[(.ref ba)] 1)) t := fun t k => castTop (ef_24 m ba) k
  have cn1 := fun (t : State) (kt : Steps p.tables e below (s₁.setTop (mkF m 1 #[.val (.ref ba)] [(.ref ba)])) t) => pre0 t (by
    refine XS.aloadN X0.here hx rfl (hb hby d24_0) rfl rfl ?_
    show Steps p.tables e below (s₁.setTop (mkF m 1 #[.val (.ref ba)] [(.ref ba)])) _
    exact kt)
  have AFx2 := A_ba
  obtain ⟨cl2, Ar2, q2, S2, H2⟩ := AFx2
  have cn3 := fun (t : State) (kt : Steps p.tables e below (s₁.setTop (mkF m 4 #[.val (.ref ba)] [(.int ((Nat.toInt32 (2 * n)) >>> ((1 : Int32) &&& 31)))])) t) => cn1 t (by
    refine X0.arraylength hx (by rw [e0]; exact Ar2.1) (State.isArrayOf_alike hZ.alike Ar2.2.1) (g := (mkF m 1 #[.val (.ref ba)] [(.ref ba)])) rfl rfl (hb hby d24_1) _ ?_
    rw [S2]
    show Steps p.tables e below (s₁.setTop (mkF m 2 #[.val (.ref ba)] [(.int (Nat.toInt32 (2 * n)))])) _
    refine XS.iconst X0.here hx rfl (hb hby d24_2) ?_
    show Steps p.tables e below (s₁.setTop (mkF m 3 #[.val (.ref ba)] [(.int (1 : Int32)), (.int (Nat.toInt32 (2 * n)))])) _
    refine XS.ishr X0.here hx rfl (hb hby d24_3) rfl ?_
    show Steps p.tables e below (s₁.setTop (mkF m 4 #[.val (.ref ba)] [(.int ((Nat.toInt32 (2 * n)) >>> ((1 : Int32) &&& 31)))])) _
    exact kt)
  obtain ⟨frs, hr, hrun, hended, hW, hsame⟩ := X0.leave (v := some (.int ((Nat.toInt32 (2 * n)) >>> ((1 : Int32) &&& 31)))) (fun h => by rw [Bd.returns] at h; cases h)
  refine ⟨_, _, cn3 _ ?_, hrun, hended, _, _, rfl, ?_, ⟨_, rfl⟩, hW, hsame.mono (by decide) (by decide)⟩
  · exact retI X0 hx Bd.returns (hb hby d24_4) hr
  · show QI (Nat.toInt32 n) h0 n0 _ s₁.heap _
    rw [e0]
    exact ⟨by rw [own_hlf (by omega)], N0, rfl⟩

theorem d23_0 : decode jdk_52_method_91_code 0 = .ok (.iload_n 0, 1) := by decide +kernel
theorem d23_1 : decode jdk_52_method_91_code 1 = .ok (.aload_n 1, 1) := by decide +kernel
theorem d23_2 : decode jdk_52_method_91_code 2 = .ok (.invokestatic 48, 3) := by decide +kernel
theorem d23_5 : decode jdk_52_method_91_code 5 = .ok (.invokestatic 414, 3) := by decide +kernel
theorem d23_8 : decode jdk_52_method_91_code 8 = .ok (.return_, 1) := by decide +kernel
theorem pd_10 : parseMethodDescriptor "([B)I" = some ⟨[(.array .byte)], some .int⟩ := by decide +kernel
theorem ef_23 (m : MethodId) (x0 : Int32) (x1 : Addr) : entryFrame m #[(.int x0), (.ref x1)] 2 = mkF m 0 #[.val (.int x0), .val (.ref x1)] [] := by first | (simp [entryFrame, mkF, argsToLocals, Value.category]; done) | rfl
set_option maxRecDepth 65536 in
set_option maxHeartbeats 40000000 in
theorem rm23 (l : Launch) (Z : State) (a0 : Array Value) (hw : ∀ d ∈ tables_1, d.before a0 Z = true) (ws : List Jvm.Cond) (ba : Addr) (k : ClassId) (n i : Nat) (f : Nat → Value) (co : Int32) (vf : Value) (h0 : Heap) (n0 : Nat) (O0 : Old Z n0 h0) (hi : i < n) (hmc : n ≤ 4) (A_ba : AF Z h0 ba k .byte (2 * n) f) (SWh : SW Z co vf) :
    MetFree l (⟨"java/lang/StringUTF16", "checkIndex", "(I[B)V"⟩ : MethodName) (head1 (Jvm.Cond.code (⟨"java/lang/StringUTF16", "checkIndex", "(I[B)V"⟩ : MethodName) jdk_52_method_91_code 2 none :: ws) ({ frames := 2, cells := 0, slots := 0, locals := 27 } : Room)) (fun aQ U => aQ = #[(.int (Nat.toInt32 i)), (.ref ba)] ∧ Z.Warmed39 U.vm ∧ U.heap = h0) (fun _ _ _ _ _ => True) (fun _ U o U' => ∃ v L, o = .returned v ∧ QN h0 n0 v U'.heap L ∧ FrameEnd U o U' L ({ frames := 2, cells := 0, slots := 0, locals := 27 } : Room).cells ({ frames := 2, cells := 0, slots := 0, locals := 27 } : Room).slots) := by
  refine MetFree.of_bodySF (plainFor_of_name pn_java_lang_StringUTF16) hisR ?_
  intro p e s m args below meth kode s₁ Bd hml0 hP hK
  obtain ⟨rfl, hZ, hh⟩ := hP
  have hx := Bd.exec
  have hby := Bd.bytes
  have hml : kode.maxLocals = 2 := hml0
  have hown : s.vm.findClass "java/lang/StringUTF16" = some m.cls := findClass_of_methodNamed Bd.named
  have hnm := (name_of_methodNamed Bd.named Bd.method).1
  have X0 : Stand p l e ({ frames := 2, cells := 0, slots := 0, locals := 27 } : Room) s m #[(.int (Nat.toInt32 i)), (.ref ba)] below meth kode s₁ [] 0 0 := Stand.of_body Bd
  have e0 : s₁.heap = h0 := by rw [← hh, Bd.state]; rfl
  have N0 := Fr.nil n0
  have pre0 : ∀ t, Steps p.tables e below (s₁.setTop (mkF m 0 #[.val (.int (Nat.toInt32 i)), .val (.ref ba)] [])) t → Steps p.tables e below (s₁.setTop (entryFrame m #[(.int (Nat.toInt32 i)), (.ref ba)] 2)) t := fun t k => castTop (ef_23 m (Nat.toInt32 i) ba) k
  have SWx := SWh
  obtain ⟨S_CS, hcs, S_AD, S_HI, S_LO, S_SI, hcat_vf⟩ := SWx
  have cn1 := fun (t : State) (kt : Steps p.tables e below (s₁.setTop (mkF m 2 #[.val (.int (Nat.toInt32 i)), .val (.ref ba)] [(.ref ba), (.int (Nat.toInt32 i))])) t) => pre0 t (by
    refine XS.iloadN X0.here hx rfl (hb hby d23_0) rfl ?_
    show Steps p.tables e below (s₁.setTop (mkF m 1 #[.val (.int (Nat.toInt32 i)), .val (.ref ba)] [(.int (Nat.toInt32 i))])) _
    refine XS.aloadN X0.here hx rfl (hb hby d23_1) rfl rfl ?_
    show Steps p.tables e below (s₁.setTop (mkF m 2 #[.val (.int (Nat.toInt32 i)), .val (.ref ba)] [(.ref ba), (.int (Nat.toInt32 i))])) _
    exact kt)
  obtain ⟨_, _, ⟨T2, L2, k2, n2⟩, -, X2, ⟨Lc2, hQ2, l2, y2, z2⟩, st2⟩ := Jvm.LawKit.callS X0 hx (y := (⟨"java/lang/StringUTF16", "length", "([B)I"⟩ : MethodName)) hown (mvT hZ (hw _ (List.mem_of_getElem? (i := 100) rfl))) (mvT hZ (hw _ (List.mem_of_getElem? (i := 101) rfl))) (mvT hZ (hw _ (List.mem_of_getElem? (i := 23) rfl))) (mvT hZ (hw _ (List.mem_of_getElem? (i := 102) rfl))) (by decide) (backOf (W := 1) (rm24 l Z a0 hw [] ba k n f h0 n0 O0 hmc A_ba) hZ (hw _ (List.mem_of_getElem? (i := 102) rfl)) (hw _ (List.mem_of_getElem? (i := 23) rfl)) (by decide) (by decide)) (g := (mkF m 2 #[.val (.int (Nat.toInt32 i)), .val (.ref ba)] [(.ref ba), (.int (Nat.toInt32 i))])) rfl (by rw [hml]; rfl) (argsL := [(.ref ba)]) (rest := [(.int (Nat.toInt32 i))]) (lenOf pd_10 rfl) rfl (by show 2 * 0 + _ ≤ _; exact Nat.le_of_eq rfl) (hb hby d23_2) (fun _ _ => ⟨rfl, e0, (by decide : 0 + 0 ≤ _), (by decide : 0 + 0 ≤ _)⟩)
  dsimp only [Pt.U, Pt.locs, Pt.cells, Pt.slots] at X2 l2 y2 z2 st2 hQ2
  subst l2 y2 z2
  obtain ⟨rfl, Nq2, eh2⟩ := hQ2
  have N2 := Fr.app N0 Nq2
  have cn3 := fun (t : State) (kt : Steps p.tables e below (T2.setTop (mkF m 5 #[.val (.int (Nat.toInt32 i)), .val (.ref ba)] [(.int (Nat.toInt32 n)), (.int (Nat.toInt32 i))])) t) => cn1 t (by
    refine st2 _ ?_
    show Steps p.tables e below (T2.setTop (mkF m 5 #[.val (.int (Nat.toInt32 i)), .val (.ref ba)] [(.int (Nat.toInt32 n)), (.int (Nat.toInt32 i))])) _
    exact kt)
  obtain ⟨_, _, ⟨T4, L4, k4, n4⟩, -, X4, ⟨Lc4, hQ4, l4, y4, z4⟩, st4⟩ := Jvm.LawKit.callS X2 hx (y := (⟨"java/lang/String", "checkIndex", "(II)V"⟩ : MethodName)) hown (mvT hZ (hw _ (List.mem_of_getElem? (i := 103) rfl))) (mvT hZ (hw _ (List.mem_of_getElem? (i := 65) rfl))) (mvT hZ (hw _ (List.mem_of_getElem? (i := 9) rfl))) (mvT hZ (hw _ (List.mem_of_getElem? (i := 66) rfl))) (by decide) (backOf (W := 0) (rm14 l Z a0 hw [] i n co vf h0 n0 O0 hi (by omega) SWh) hZ (hw _ (List.mem_of_getElem? (i := 66) rfl)) (hw _ (List.mem_of_getElem? (i := 9) rfl)) (by decide) (by decide)) (g := (mkF m 5 #[.val (.int (Nat.toInt32 i)), .val (.ref ba)] [(.int (Nat.toInt32 n)), (.int (Nat.toInt32 i))])) rfl (by rw [hml]; rfl) (argsL := [(.int (Nat.toInt32 i)), (.int (Nat.toInt32 n))]) (rest := []) (lenOf pd_9 rfl) rfl (by show 2 * 0 + _ ≤ _; exact Nat.le_of_eq rfl) (hb hby d23_5) (fun _ _ => ⟨rfl, eh2, (by decide : 0 + 0 ≤ _), (by decide : 0 + 0 ≤ _)⟩)
  dsimp only [Pt.U, Pt.locs, Pt.cells, Pt.slots] at X4 l4 y4 z4 st4 hQ4
  subst l4 y4 z4
  obtain ⟨rfl, Nq4, eh4⟩ := hQ4
  have N4 := Fr.app N2 Nq4
  have cn5 := fun (t : State) (kt : Steps p.tables e below (T4.setTop (mkF m 8 #[.val (.int (Nat.toInt32 i)), .val (.ref ba)] [])) t) => cn3 t (by
    refine st4 _ ?_
    show Steps p.tables e below (T4.setTop (mkF m 8 #[.val (.int (Nat.toInt32 i)), .val (.ref ba)] [])) _
    exact kt)
  obtain ⟨frs, hr, hrun, hended, hW, hsame⟩ := X4.leave (v := none) (fun _ => rfl)
  refine ⟨_, _, cn5 _ ?_, hrun, hended, _, _, rfl, ?_, ⟨_, rfl⟩, hW, hsame.mono (by decide) (by decide)⟩
  · exact X4.returnOut hx Bd.returns (hb hby d23_8) hr
  · show QN h0 n0 _ T4.heap _
    rw [eh4]
    exact ⟨rfl, N4, rfl⟩

theorem d22_0 : decode jdk_52_method_83_code 0 = .ok (.iload_n 1, 1) := by decide +kernel
theorem d22_1 : decode jdk_52_method_83_code 1 = .ok (.aload_n 0, 1) := by decide +kernel
theorem d22_2 : decode jdk_52_method_83_code 2 = .ok (.invokestatic 67, 3) := by decide +kernel
theorem d22_5 : decode jdk_52_method_83_code 5 = .ok (.aload_n 0, 1) := by decide +kernel
theorem d22_6 : decode jdk_52_method_83_code 6 = .ok (.iload_n 1, 1) := by decide +kernel
theorem d22_7 : decode jdk_52_method_83_code 7 = .ok (.invokestatic 71, 3) := by decide +kernel
theorem d22_10 : decode jdk_52_method_83_code 10 = .ok (.ireturn, 1) := by decide +kernel
theorem pd_11 : parseMethodDescriptor "(I[B)V" = some ⟨[.int, (.array .byte)], none⟩ := by decide +kernel
theorem ef_22 (m : MethodId) (x0 : Addr) (x1 : Int32) : entryFrame m #[(.ref x0), (.int x1)] 2 = mkF m 0 #[.val (.ref x0), .val (.int x1)] [] := by first | (simp [entryFrame, mkF, argsToLocals, Value.category]; done) | rfl
set_option maxRecDepth 65536 in
set_option maxHeartbeats 40000000 in
theorem rm22 (l : Launch) (Z : State) (a0 : Array Value) (hw : ∀ d ∈ tables_1, d.before a0 Z = true) (ws : List Jvm.Cond) (ba : Addr) (k : ClassId) (n i : Nat) (f : Nat → Value) (x0 x1 : Int32) (co : Int32) (vf : Value) (h0 : Heap) (n0 : Nat) (O0 : Old Z n0 h0) (hi : i < n) (hmc : n ≤ 4) (hx0 : f (2 * i) = .int x0) (hx1 : f (2 * i + 1) = .int x1) (A_ba : AF Z h0 ba k .byte (2 * n) f) (SWh : SW Z co vf) :
    MetFree l (⟨"java/lang/StringUTF16", "charAt", "([BI)C"⟩ : MethodName) (head1 (Jvm.Cond.code (⟨"java/lang/StringUTF16", "charAt", "([BI)C"⟩ : MethodName) jdk_52_method_83_code 2 (some .char) :: ws) ({ frames := 3, cells := 0, slots := 0, locals := 40 } : Room)) (fun aQ U => aQ = #[(.ref ba), (.int (Nat.toInt32 i))] ∧ Z.Warmed39 U.vm ∧ U.heap = h0) (fun _ _ _ _ _ => True) (fun _ U o U' => ∃ v L, o = .returned v ∧ QI (nar .char (own_gc x0 x1)) h0 n0 v U'.heap L ∧ FrameEnd U o U' L ({ frames := 3, cells := 0, slots := 0, locals := 40 } : Room).cells ({ frames := 3, cells := 0, slots := 0, locals := 40 } : Room).slots) := by
  refine MetFree.of_bodySF (plainFor_of_name pn_java_lang_StringUTF16) hisR ?_
  intro p e s m args below meth kode s₁ Bd hml0 hP hK
  obtain ⟨rfl, hZ, hh⟩ := hP
  have hx := Bd.exec
  have hby := Bd.bytes
  have hml : kode.maxLocals = 2 := hml0
  have hown : s.vm.findClass "java/lang/StringUTF16" = some m.cls := findClass_of_methodNamed Bd.named
  have hnm := (name_of_methodNamed Bd.named Bd.method).1
  have X0 : Stand p l e ({ frames := 3, cells := 0, slots := 0, locals := 40 } : Room) s m #[(.ref ba), (.int (Nat.toInt32 i))] below meth kode s₁ [] 0 0 := Stand.of_body Bd
  have e0 : s₁.heap = h0 := by rw [← hh, Bd.state]; rfl
  have N0 := Fr.nil n0
  have pre0 : ∀ t, Steps p.tables e below (s₁.setTop (mkF m 0 #[.val (.ref ba), .val (.int (Nat.toInt32 i))] [])) t → Steps p.tables e below (s₁.setTop (entryFrame m #[(.ref ba), (.int (Nat.toInt32 i))] 2)) t := fun t k => castTop (ef_22 m ba (Nat.toInt32 i)) k
  have SWx := SWh
  obtain ⟨S_CS, hcs, S_AD, S_HI, S_LO, S_SI, hcat_vf⟩ := SWx
  have cn1 := fun (t : State) (kt : Steps p.tables e below (s₁.setTop (mkF m 2 #[.val (.ref ba), .val (.int (Nat.toInt32 i))] [(.ref ba), (.int (Nat.toInt32 i))])) t) => pre0 t (by
    refine XS.iloadN X0.here hx rfl (hb hby d22_0) rfl ?_
    show Steps p.tables e below (s₁.setTop (mkF m 1 #[.val (.ref ba), .val (.int (Nat.toInt32 i))] [(.int (Nat.toInt32 i))])) _
    refine XS.aloadN X0.here hx rfl (hb hby d22_1) rfl rfl ?_
    show Steps p.tables e below (s₁.setTop (mkF m 2 #[.val (.ref ba), .val (.int (Nat.toInt32 i))] [(.ref ba), (.int (Nat.toInt32 i))])) _
    exact kt)
  obtain ⟨_, _, ⟨T2, L2, k2, n2⟩, -, X2, ⟨Lc2, hQ2, l2, y2, z2⟩, st2⟩ := Jvm.LawKit.callS X0 hx (y := (⟨"java/lang/StringUTF16", "checkIndex", "(I[B)V"⟩ : MethodName)) hown (mvT hZ (hw _ (List.mem_of_getElem? (i := 97) rfl))) (mvT hZ (hw _ (List.mem_of_getElem? (i := 98) rfl))) (mvT hZ (hw _ (List.mem_of_getElem? (i := 23) rfl))) (mvT hZ (hw _ (List.mem_of_getElem? (i := 99) rfl))) (by decide) (backOf (W := 0) (rm23 l Z a0 hw [] ba k n i f co vf h0 n0 O0 hi hmc A_ba SWh) hZ (hw _ (List.mem_of_getElem? (i := 99) rfl)) (hw _ (List.mem_of_getElem? (i := 23) rfl)) (by decide) (by decide)) (g := (mkF m 2 #[.val (.ref ba), .val (.int (Nat.toInt32 i))] [(.ref ba), (.int (Nat.toInt32 i))])) rfl (by rw [hml]; rfl) (argsL := [(.int (Nat.toInt32 i)), (.ref ba)]) (rest := []) (lenOf pd_11 rfl) rfl (by show 2 * 0 + _ ≤ _; exact Nat.le_of_eq rfl) (hb hby d22_2) (fun _ _ => ⟨rfl, e0, (by decide : 0 + 0 ≤ _), (by decide : 0 + 0 ≤ _)⟩)
  dsimp only [Pt.U, Pt.locs, Pt.cells, Pt.slots] at X2 l2 y2 z2 st2 hQ2
  subst l2 y2 z2
  obtain ⟨rfl, Nq2, eh2⟩ := hQ2
  have N2 := Fr.app N0 Nq2
  have cn3 := fun (t : State) (kt : Steps p.tables e below (T2.setTop (mkF m 7 #[.val (.ref ba), .val (.int (Nat.toInt32 i))] [(.int (Nat.toInt32 i)), (.ref ba)])) t) => cn1 t (by
    refine st2 _ ?_
    show Steps p.tables e below (T2.setTop (mkF m 5 #[.val (.ref ba), .val (.int (Nat.toInt32 i))] [])) _
    refine XS.aloadN X2.here hx rfl (hb hby d22_5) rfl rfl ?_
    show Steps p.tables e below (T2.setTop (mkF m 6 #[.val (.ref ba), .val (.int (Nat.toInt32 i))] [(.ref ba)])) _
    refine XS.iloadN X2.here hx rfl (hb hby d22_6) rfl ?_
    show Steps p.tables e below (T2.setTop (mkF m 7 #[.val (.ref ba), .val (.int (Nat.toInt32 i))] [(.int (Nat.toInt32 i)), (.ref ba)])) _
    exact kt)
  obtain ⟨_, _, ⟨T4, L4, k4, n4⟩, -, X4, ⟨Lc4, hQ4, l4, y4, z4⟩, st4⟩ := Jvm.LawKit.callS X2 hx (y := (⟨"java/lang/StringUTF16", "getChar", "([BI)C"⟩ : MethodName)) hown (mvT hZ (hw _ (List.mem_of_getElem? (i := 91) rfl))) (mvT hZ (hw _ (List.mem_of_getElem? (i := 92) rfl))) (mvT hZ (hw _ (List.mem_of_getElem? (i := 23) rfl))) (mvT hZ (hw _ (List.mem_of_getElem? (i := 93) rfl))) (by decide) (backOf (W := 0) (rm21 l Z a0 hw [] ba k (2 * n) i f x0 x1 co vf h0 n0 O0 (by omega) (by omega) hx0 hx1 A_ba SWh) hZ (hw _ (List.mem_of_getElem? (i := 93) rfl)) (hw _ (List.mem_of_getElem? (i := 23) rfl)) (by decide) (by decide)) (g := (mkF m 7 #[.val (.ref ba), .val (.int (Nat.toInt32 i))] [(.int (Nat.toInt32 i)), (.ref ba)])) rfl (by rw [hml]; rfl) (argsL := [(.ref ba), (.int (Nat.toInt32 i))]) (rest := []) (lenOf pd_5 rfl) rfl (by show 2 * 0 + _ ≤ _; exact Nat.le_of_eq rfl) (hb hby d22_7) (fun _ _ => ⟨rfl, eh2, (by decide : 0 + 0 ≤ _), (by decide : 0 + 0 ≤ _)⟩)
  dsimp only [Pt.U, Pt.locs, Pt.cells, Pt.slots] at X4 l4 y4 z4 st4 hQ4
  subst l4 y4 z4
  obtain ⟨rfl, Nq4, eh4⟩ := hQ4
  have N4 := Fr.app N2 Nq4
  have cn5 := fun (t : State) (kt : Steps p.tables e below (T4.setTop (mkF m 10 #[.val (.ref ba), .val (.int (Nat.toInt32 i))] [(.int (own_gc x0 x1))])) t) => cn3 t (by
    refine st4 _ ?_
    show Steps p.tables e below (T4.setTop (mkF m 10 #[.val (.ref ba), .val (.int (Nat.toInt32 i))] [(.int (own_gc x0 x1))])) _
    exact kt)
  obtain ⟨frs, hr, hrun, hended, hW, hsame⟩ := X4.leave (v := some (.int (nar .char (own_gc x0 x1)))) (fun h => by rw [Bd.returns] at h; cases h)
  refine ⟨_, _, cn5 _ ?_, hrun, hended, _, _, rfl, ?_, ⟨_, rfl⟩, hW, hsame.mono (by decide) (by decide)⟩
  · exact retN X4 hx (t := .char) Bd.returns (by simp) (hb hby d22_10) hr
  · show QI (nar .char (own_gc x0 x1)) h0 n0 _ T4.heap _
    rw [eh4]
    exact ⟨rfl, N4, rfl⟩

theorem d12_0 : decode jdk_42_method_154_code 0 = .ok (.getstatic 38, 3) := by decide +kernel
theorem d12_3 : decode jdk_42_method_154_code 3 = .ok (.ifCond .eq 14, 3) := by decide +kernel
theorem d12_6 : decode jdk_42_method_154_code 6 = .ok (.aload_n 0, 1) := by decide +kernel
theorem d12_7 : decode jdk_42_method_154_code 7 = .ok (.getfield 15, 3) := by decide +kernel
theorem d12_10 : decode jdk_42_method_154_code 10 = .ok (.ifCond .ne 7, 3) := by decide +kernel
theorem d12_13 : decode jdk_42_method_154_code 13 = .ok (.iconst 1, 1) := by decide +kernel
theorem d12_14 : decode jdk_42_method_154_code 14 = .ok (.goto 4, 3) := by decide +kernel
theorem d12_18 : decode jdk_42_method_154_code 18 = .ok (.ireturn, 1) := by decide +kernel
theorem ef_12_0 (m : MethodId) (x0 : Addr) : entryFrame m #[(.ref x0)] 1 = mkF m 0 #[.val (.ref x0)] [] := by first | (simp [entryFrame, mkF, argsToLocals, Value.category]; done) | rfl
set_option maxRecDepth 65536 in
set_option maxHeartbeats 40000000 in
theorem rm12_0 (l : Launch) (Z : State) (a0 : Array Value) (hw : ∀ d ∈ tables_1, d.before a0 Z = true) (ws : List Jvm.Cond) (a1 : Addr) (co : Int32) (vf : Value) (h0 : Heap) (n0 : Nat) (O0 : Old Z n0 h0) (Fc : Fld Z h0 a1 "java/lang/String" "coder" "B" (.int (0 : Int32))) (SWh : SW Z co vf) :
    MetFree l (⟨"java/lang/String", "isLatin1", "()Z"⟩ : MethodName) (head1 (Jvm.Cond.code (⟨"java/lang/String", "isLatin1", "()Z"⟩ : MethodName) jdk_42_method_154_code 1 (some .boolean) :: ws) ({ frames := 0, cells := 0, slots := 0, locals := 0 } : Room)) (fun aQ U => aQ = #[(.ref a1)] ∧ Z.Warmed39 U.vm ∧ U.heap = h0) (fun _ _ _ _ _ => True) (fun _ U o U' => ∃ v L, o = .returned v ∧ QI 1 h0 n0 v U'.heap L ∧ FrameEnd U o U' L ({ frames := 0, cells := 0, slots := 0, locals := 0 } : Room).cells ({ frames := 0, cells := 0, slots := 0, locals := 0 } : Room).slots) := by
  refine MetFree.of_bodySF (plainFor_of_name pn_java_lang_String) hisR ?_
  intro p e s m args below meth kode s₁ Bd hml0 hP hK
  obtain ⟨rfl, hZ, hh⟩ := hP
  have hx := Bd.exec
  have hby := Bd.bytes
  have hml : kode.maxLocals = 1 := hml0
  have hown : s.vm.findClass "java/lang/String" = some m.cls := findClass_of_methodNamed Bd.named
  have hnm := (name_of_methodNamed Bd.named Bd.method).1
  have X0 : Stand p l e ({ frames := 0, cells := 0, slots := 0, locals := 0 } : Room) s m #[(.ref a1)] below meth kode s₁ [] 0 0 := Stand.of_body Bd
  have e0 : s₁.heap = h0 := by rw [← hh, Bd.state]; rfl
  have N0 := Fr.nil n0
  have pre0 : ∀ t, Steps p.tables e below (s₁.setTop (mkF m 0 #[.val (.ref a1)] [])) t → Steps p.tables e below (s₁.setTop (entryFrame m #[(.ref a1)] 1)) t := fun t k => castTop (ef_12_0 m a1) k
  have SWx := SWh
  obtain ⟨S_CS, hcs, S_AD, S_HI, S_LO, S_SI, hcat_vf⟩ := SWx
  obtain ⟨T1, X1, e1, st1⟩ := getS2 X0 hx hZ hown (host := "") (Or.inl (hw _ (List.mem_of_getElem? (i := 20) rfl))) Via.refl e0 (S_CS.ext O0.2) (g := (mkF m 0 #[.val (.ref a1)] [])) rfl (hb hby d12_0)
  have cn2 := fun (t : State) (kt : Steps p.tables e below (T1.setTop (mkF m 3 #[.val (.ref a1)] [(.int co)])) t) => pre0 t (by
    refine st1 _ ?_
    show Steps p.tables e below (T1.setTop (mkF m 3 #[.val (.ref a1)] [(.int co)])) _
    exact kt)
  have cn3 := fun (t : State) (kt : Steps p.tables e below (T1.setTop (mkF m 7 #[.val (.ref a1)] [(.ref a1)])) t) => cn2 t (by
    refine XS.ifNo X1.here hx rfl (hb hby d12_3) rfl ((if0 _ _).trans (feq hcs).1) ?_
    show Steps p.tables e below (T1.setTop (mkF m 6 #[.val (.ref a1)] [])) _
    refine XS.aloadN X1.here hx rfl (hb hby d12_6) rfl rfl ?_
    show Steps p.tables e below (T1.setTop (mkF m 7 #[.val (.ref a1)] [(.ref a1)])) _
    exact kt)
  obtain ⟨T4, X4, e4, st4⟩ := getF X1 hx hZ hown (host := "") (Or.inl (hw _ (List.mem_of_getElem? (i := 32) rfl))) Via.refl e1 Fc (g := (mkF m 7 #[.val (.ref a1)] [(.ref a1)])) rfl rfl (hb hby d12_7)
  have cn5 := fun (t : State) (kt : Steps p.tables e below (T4.setTop (mkF m 10 #[.val (.ref a1)] [(.int (0 : Int32))])) t) => cn3 t (by
    refine st4 _ ?_
    show Steps p.tables e below (T4.setTop (mkF m 10 #[.val (.ref a1)] [(.int (0 : Int32))])) _
    exact kt)
  have cn6 := fun (t : State) (kt : Steps p.tables e below (T4.setTop (mkF m 18 #[.val (.ref a1)] [(.int (1 : Int32))])) t) => cn5 t (by
    refine XS.ifNo X4.here hx rfl (hb hby d12_10) rfl ((if0 _ _).trans (teq (by decide : (0 : Int32) = (0 : Int32))).2) ?_
    show Steps p.tables e below (T4.setTop (mkF m 13 #[.val (.ref a1)] [])) _
    refine XS.iconst X4.here hx rfl (hb hby d12_13) ?_
    show Steps p.tables e below (T4.setTop (mkF m 14 #[.val (.ref a1)] [(.int (1 : Int32))])) _
    refine XS.goto X4.here hx rfl (pc0 := 14) (pc' := 18) rfl (hb hby d12_14) (by decide) (by decide) ?_
    show Steps p.tables e below (T4.setTop (mkF m 18 #[.val (.ref a1)] [(.int (1 : Int32))])) _
    exact kt)
  obtain ⟨frs, hr, hrun, hended, hW, hsame⟩ := X4.leave (v := some (.int (1 : Int32))) (fun h => by rw [Bd.returns] at h; cases h)
  refine ⟨_, _, cn6 _ ?_, hrun, hended, _, _, rfl, ?_, ⟨_, rfl⟩, hW, hsame.mono (by decide) (by decide)⟩
  · exact retN X4 hx (t := .boolean) Bd.returns (by simp) (hb hby d12_18) hr
  · show QI 1 h0 n0 _ T4.heap _
    rw [e4]
    exact ⟨rfl, N0, rfl⟩

theorem d12_17 : decode jdk_42_method_154_code 17 = .ok (.iconst 0, 1) := by decide +kernel
theorem ef_12_1 (m : MethodId) (x0 : Addr) : entryFrame m #[(.ref x0)] 1 = mkF m 0 #[.val (.ref x0)] [] := by first | (simp [entryFrame, mkF, argsToLocals, Value.category]; done) | rfl
set_option maxRecDepth 65536 in
set_option maxHeartbeats 40000000 in
theorem rm12_1 (l : Launch) (Z : State) (a0 : Array Value) (hw : ∀ d ∈ tables_1, d.before a0 Z = true) (ws : List Jvm.Cond) (a1 : Addr) (co : Int32) (vf : Value) (h0 : Heap) (n0 : Nat) (O0 : Old Z n0 h0) (Fc : Fld Z h0 a1 "java/lang/String" "coder" "B" (.int (1 : Int32))) (SWh : SW Z co vf) :
    MetFree l (⟨"java/lang/String", "isLatin1", "()Z"⟩ : MethodName) (head1 (Jvm.Cond.code (⟨"java/lang/String", "isLatin1", "()Z"⟩ : MethodName) jdk_42_method_154_code 1 (some .boolean) :: ws) ({ frames := 0, cells := 0, slots := 0, locals := 0 } : Room)) (fun aQ U => aQ = #[(.ref a1)] ∧ Z.Warmed39 U.vm ∧ U.heap = h0) (fun _ _ _ _ _ => True) (fun _ U o U' => ∃ v L, o = .returned v ∧ QI 0 h0 n0 v U'.heap L ∧ FrameEnd U o U' L ({ frames := 0, cells := 0, slots := 0, locals := 0 } : Room).cells ({ frames := 0, cells := 0, slots := 0, locals := 0 } : Room).slots) := by
  refine MetFree.of_bodySF (plainFor_of_name pn_java_lang_String) hisR ?_
  intro p e s m args below meth kode s₁ Bd hml0 hP hK
  obtain ⟨rfl, hZ, hh⟩ := hP
  have hx := Bd.exec
  have hby := Bd.bytes
  have hml : kode.maxLocals = 1 := hml0
  have hown : s.vm.findClass "java/lang/String" = some m.cls := findClass_of_methodNamed Bd.named
  have hnm := (name_of_methodNamed Bd.named Bd.method).1
  have X0 : Stand p l e ({ frames := 0, cells := 0, slots := 0, locals := 0 } : Room) s m #[(.ref a1)] below meth kode s₁ [] 0 0 := Stand.of_body Bd
  have e0 : s₁.heap = h0 := by rw [← hh, Bd.state]; rfl
  have N0 := Fr.nil n0
  have pre0 : ∀ t, Steps p.tables e below (s₁.setTop (mkF m 0 #[.val (.ref a1)] [])) t → Steps p.tables e below (s₁.setTop (entryFrame m #[(.ref a1)] 1)) t := fun t k => castTop (ef_12_1 m a1) k
  have SWx := SWh
  obtain ⟨S_CS, hcs, S_AD, S_HI, S_LO, S_SI, hcat_vf⟩ := SWx
  obtain ⟨T1, X1, e1, st1⟩ := getS2 X0 hx hZ hown (host := "") (Or.inl (hw _ (List.mem_of_getElem? (i := 20) rfl))) Via.refl e0 (S_CS.ext O0.2) (g := (mkF m 0 #[.val (.ref a1)] [])) rfl (hb hby d12_0)
  have cn2 := fun (t : State) (kt : Steps p.tables e below (T1.setTop (mkF m 3 #[.val (.ref a1)] [(.int co)])) t) => pre0 t (by
    refine st1 _ ?_
    show Steps p.tables e below (T1.setTop (mkF m 3 #[.val (.ref a1)] [(.int co)])) _
    exact kt)
  have cn3 := fun (t : State) (kt : Steps p.tables e below (T1.setTop (mkF m 7 #[.val (.ref a1)] [(.ref a1)])) t) => cn2 t (by
    refine XS.ifNo X1.here hx rfl (hb hby d12_3) rfl ((if0 _ _).trans (feq hcs).1) ?_
    show Steps p.tables e below (T1.setTop (mkF m 6 #[.val (.ref a1)] [])) _
    refine XS.aloadN X1.here hx rfl (hb hby d12_6) rfl rfl ?_
    show Steps p.tables e below (T1.setTop (mkF m 7 #[.val (.ref a1)] [(.ref a1)])) _
    exact kt)
  obtain ⟨T4, X4, e4, st4⟩ := getF X1 hx hZ hown (host := "") (Or.inl (hw _ (List.mem_of_getElem? (i := 32) rfl))) Via.refl e1 Fc (g := (mkF m 7 #[.val (.ref a1)] [(.ref a1)])) rfl rfl (hb hby d12_7)
  have cn5 := fun (t : State) (kt : Steps p.tables e below (T4.setTop (mkF m 10 #[.val (.ref a1)] [(.int (1 : Int32))])) t) => cn3 t (by
    refine st4 _ ?_
    show Steps p.tables e below (T4.setTop (mkF m 10 #[.val (.ref a1)] [(.int (1 : Int32))])) _
    exact kt)
  have cn6 := fun (t : State) (kt : Steps p.tables e below (T4.setTop (mkF m 18 #[.val (.ref a1)] [(.int (0 : Int32))])) t) => cn5 t (by
    refine XS.ifYes X4.here hx rfl (pc0 := 10) (pc' := 17) rfl (hb hby d12_10) rfl ((if0 _ _).trans (feq (by decide : ¬ ((1 : Int32) = (0 : Int32)))).2) (by decide) (by decide) ?_
    show Steps p.tables e below (T4.setTop (mkF m 17 #[.val (.ref a1)] [])) _
    refine XS.iconst X4.here hx rfl (hb hby d12_17) ?_
    show Steps p.tables e below (T4.setTop (mkF m 18 #[.val (.ref a1)] [(.int (0 : Int32))])) _
    exact kt)
  obtain ⟨frs, hr, hrun, hended, hW, hsame⟩ := X4.leave (v := some (.int (0 : Int32))) (fun h => by rw [Bd.returns] at h; cases h)
  refine ⟨_, _, cn6 _ ?_, hrun, hended, _, _, rfl, ?_, ⟨_, rfl⟩, hW, hsame.mono (by decide) (by decide)⟩
  · exact retN X4 hx (t := .boolean) Bd.returns (by simp) (hb hby d12_18) hr
  · show QI 0 h0 n0 _ T4.heap _
    rw [e4]
    exact ⟨rfl, N0, rfl⟩

theorem d10_0 : decode jdk_42_method_152_code 0 = .ok (.getstatic 38, 3) := by decide +kernel
theorem d10_3 : decode jdk_42_method_152_code 3 = .ok (.ifCond .eq 10, 3) := by decide +kernel
theorem d10_6 : decode jdk_42_method_152_code 6 = .ok (.aload_n 0, 1) := by decide +kernel
theorem d10_7 : decode jdk_42_method_152_code 7 = .ok (.getfield 15, 3) := by decide +kernel
theorem d10_10 : decode jdk_42_method_152_code 10 = .ok (.goto 4, 3) := by decide +kernel
theorem d10_14 : decode jdk_42_method_152_code 14 = .ok (.ireturn, 1) := by decide +kernel
theorem ef_10_0 (m : MethodId) (x0 : Addr) : entryFrame m #[(.ref x0)] 1 = mkF m 0 #[.val (.ref x0)] [] := by first | (simp [entryFrame, mkF, argsToLocals, Value.category]; done) | rfl
set_option maxRecDepth 65536 in
set_option maxHeartbeats 40000000 in
theorem rm10_0 (l : Launch) (Z : State) (a0 : Array Value) (hw : ∀ d ∈ tables_1, d.before a0 Z = true) (ws : List Jvm.Cond) (a1 : Addr) (co : Int32) (vf : Value) (h0 : Heap) (n0 : Nat) (O0 : Old Z n0 h0) (Fc : Fld Z h0 a1 "java/lang/String" "coder" "B" (.int (0 : Int32))) (SWh : SW Z co vf) :
    MetFree l (⟨"java/lang/String", "coder", "()B"⟩ : MethodName) (head1 (Jvm.Cond.code (⟨"java/lang/String", "coder", "()B"⟩ : MethodName) jdk_42_method_152_code 1 (some .byte) :: ws) ({ frames := 0, cells := 0, slots := 0, locals := 0 } : Room)) (fun aQ U => aQ = #[(.ref a1)] ∧ Z.Warmed39 U.vm ∧ U.heap = h0) (fun _ _ _ _ _ => True) (fun _ U o U' => ∃ v L, o = .returned v ∧ QI 0 h0 n0 v U'.heap L ∧ FrameEnd U o U' L ({ frames := 0, cells := 0, slots := 0, locals := 0 } : Room).cells ({ frames := 0, cells := 0, slots := 0, locals := 0 } : Room).slots) := by
  refine MetFree.of_bodySF (plainFor_of_name pn_java_lang_String) hisR ?_
  intro p e s m args below meth kode s₁ Bd hml0 hP hK
  obtain ⟨rfl, hZ, hh⟩ := hP
  have hx := Bd.exec
  have hby := Bd.bytes
  have hml : kode.maxLocals = 1 := hml0
  have hown : s.vm.findClass "java/lang/String" = some m.cls := findClass_of_methodNamed Bd.named
  have hnm := (name_of_methodNamed Bd.named Bd.method).1
  have X0 : Stand p l e ({ frames := 0, cells := 0, slots := 0, locals := 0 } : Room) s m #[(.ref a1)] below meth kode s₁ [] 0 0 := Stand.of_body Bd
  have e0 : s₁.heap = h0 := by rw [← hh, Bd.state]; rfl
  have N0 := Fr.nil n0
  have pre0 : ∀ t, Steps p.tables e below (s₁.setTop (mkF m 0 #[.val (.ref a1)] [])) t → Steps p.tables e below (s₁.setTop (entryFrame m #[(.ref a1)] 1)) t := fun t k => castTop (ef_10_0 m a1) k
  have SWx := SWh
  obtain ⟨S_CS, hcs, S_AD, S_HI, S_LO, S_SI, hcat_vf⟩ := SWx
  obtain ⟨T1, X1, e1, st1⟩ := getS2 X0 hx hZ hown (host := "") (Or.inl (hw _ (List.mem_of_getElem? (i := 20) rfl))) Via.refl e0 (S_CS.ext O0.2) (g := (mkF m 0 #[.val (.ref a1)] [])) rfl (hb hby d10_0)
  have cn2 := fun (t : State) (kt : Steps p.tables e below (T1.setTop (mkF m 3 #[.val (.ref a1)] [(.int co)])) t) => pre0 t (by
    refine st1 _ ?_
    show Steps p.tables e below (T1.setTop (mkF m 3 #[.val (.ref a1)] [(.int co)])) _
    exact kt)
  have cn3 := fun (t : State) (kt : Steps p.tables e below (T1.setTop (mkF m 7 #[.val (.ref a1)] [(.ref a1)])) t) => cn2 t (by
    refine XS.ifNo X1.here hx rfl (hb hby d10_3) rfl ((if0 _ _).trans (feq hcs).1) ?_
    show Steps p.tables e below (T1.setTop (mkF m 6 #[.val (.ref a1)] [])) _
    refine XS.aloadN X1.here hx rfl (hb hby d10_6) rfl rfl ?_
    show Steps p.tables e below (T1.setTop (mkF m 7 #[.val (.ref a1)] [(.ref a1)])) _
    exact kt)
  obtain ⟨T4, X4, e4, st4⟩ := getF X1 hx hZ hown (host := "") (Or.inl (hw _ (List.mem_of_getElem? (i := 32) rfl))) Via.refl e1 Fc (g := (mkF m 7 #[.val (.ref a1)] [(.ref a1)])) rfl rfl (hb hby d10_7)
  have cn5 := fun (t : State) (kt : Steps p.tables e below (T4.setTop (mkF m 14 #[.val (.ref a1)] [(.int (0 : Int32))])) t) => cn3 t (by
    refine st4 _ ?_
    show Steps p.tables e below (T4.setTop (mkF m 10 #[.val (.ref a1)] [(.int (0 : Int32))])) _
    refine XS.goto X4.here hx rfl (pc0 := 10) (pc' := 14) rfl (hb hby d10_10) (by decide) (by decide) ?_
    show Steps p.tables e below (T4.setTop (mkF m 14 #[.val (.ref a1)] [(.int (0 : Int32))])) _
    exact kt)
  obtain ⟨frs, hr, hrun, hended, hW, hsame⟩ := X4.leave (v := some (.int (0 : Int32))) (fun h => by rw [Bd.returns] at h; cases h)
  refine ⟨_, _, cn5 _ ?_, hrun, hended, _, _, rfl, ?_, ⟨_, rfl⟩, hW, hsame.mono (by decide) (by decide)⟩
  · exact retN X4 hx (t := .byte) Bd.returns (by simp) (hb hby d10_14) hr
  · show QI 0 h0 n0 _ T4.heap _
    rw [e4]
    exact ⟨rfl, N0, rfl⟩

theorem ef_10_1 (m : MethodId) (x0 : Addr) : entryFrame m #[(.ref x0)] 1 = mkF m 0 #[.val (.ref x0)] [] := by first | (simp [entryFrame, mkF, argsToLocals, Value.category]; done) | rfl
set_option maxRecDepth 65536 in
set_option maxHeartbeats 40000000 in
theorem rm10_1 (l : Launch) (Z : State) (a0 : Array Value) (hw : ∀ d ∈ tables_1, d.before a0 Z = true) (ws : List Jvm.Cond) (a1 : Addr) (co : Int32) (vf : Value) (h0 : Heap) (n0 : Nat) (O0 : Old Z n0 h0) (Fc : Fld Z h0 a1 "java/lang/String" "coder" "B" (.int (1 : Int32))) (SWh : SW Z co vf) :
    MetFree l (⟨"java/lang/String", "coder", "()B"⟩ : MethodName) (head1 (Jvm.Cond.code (⟨"java/lang/String", "coder", "()B"⟩ : MethodName) jdk_42_method_152_code 1 (some .byte) :: ws) ({ frames := 0, cells := 0, slots := 0, locals := 0 } : Room)) (fun aQ U => aQ = #[(.ref a1)] ∧ Z.Warmed39 U.vm ∧ U.heap = h0) (fun _ _ _ _ _ => True) (fun _ U o U' => ∃ v L, o = .returned v ∧ QI 1 h0 n0 v U'.heap L ∧ FrameEnd U o U' L ({ frames := 0, cells := 0, slots := 0, locals := 0 } : Room).cells ({ frames := 0, cells := 0, slots := 0, locals := 0 } : Room).slots) := by
  refine MetFree.of_bodySF (plainFor_of_name pn_java_lang_String) hisR ?_
  intro p e s m args below meth kode s₁ Bd hml0 hP hK
  obtain ⟨rfl, hZ, hh⟩ := hP
  have hx := Bd.exec
  have hby := Bd.bytes
  have hml : kode.maxLocals = 1 := hml0
  have hown : s.vm.findClass "java/lang/String" = some m.cls := findClass_of_methodNamed Bd.named
  have hnm := (name_of_methodNamed Bd.named Bd.method).1
  have X0 : Stand p l e ({ frames := 0, cells := 0, slots := 0, locals := 0 } : Room) s m #[(.ref a1)] below meth kode s₁ [] 0 0 := Stand.of_body Bd
  have e0 : s₁.heap = h0 := by rw [← hh, Bd.state]; rfl
  have N0 := Fr.nil n0
  have pre0 : ∀ t, Steps p.tables e below (s₁.setTop (mkF m 0 #[.val (.ref a1)] [])) t → Steps p.tables e below (s₁.setTop (entryFrame m #[(.ref a1)] 1)) t := fun t k => castTop (ef_10_1 m a1) k
  have SWx := SWh
  obtain ⟨S_CS, hcs, S_AD, S_HI, S_LO, S_SI, hcat_vf⟩ := SWx
  obtain ⟨T1, X1, e1, st1⟩ := getS2 X0 hx hZ hown (host := "") (Or.inl (hw _ (List.mem_of_getElem? (i := 20) rfl))) Via.refl e0 (S_CS.ext O0.2) (g := (mkF m 0 #[.val (.ref a1)] [])) rfl (hb hby d10_0)
  have cn2 := fun (t : State) (kt : Steps p.tables e below (T1.setTop (mkF m 3 #[.val (.ref a1)] [(.int co)])) t) => pre0 t (by
    refine st1 _ ?_
    show Steps p.tables e below (T1.setTop (mkF m 3 #[.val (.ref a1)] [(.int co)])) _
    exact kt)
  have cn3 := fun (t : State) (kt : Steps p.tables e below (T1.setTop (mkF m 7 #[.val (.ref a1)] [(.ref a1)])) t) => cn2 t (by
    refine XS.ifNo X1.here hx rfl (hb hby d10_3) rfl ((if0 _ _).trans (feq hcs).1) ?_
    show Steps p.tables e below (T1.setTop (mkF m 6 #[.val (.ref a1)] [])) _
    refine XS.aloadN X1.here hx rfl (hb hby d10_6) rfl rfl ?_
    show Steps p.tables e below (T1.setTop (mkF m 7 #[.val (.ref a1)] [(.ref a1)])) _
    exact kt)
  obtain ⟨T4, X4, e4, st4⟩ := getF X1 hx hZ hown (host := "") (Or.inl (hw _ (List.mem_of_getElem? (i := 32) rfl))) Via.refl e1 Fc (g := (mkF m 7 #[.val (.ref a1)] [(.ref a1)])) rfl rfl (hb hby d10_7)
  have cn5 := fun (t : State) (kt : Steps p.tables e below (T4.setTop (mkF m 14 #[.val (.ref a1)] [(.int (1 : Int32))])) t) => cn3 t (by
    refine st4 _ ?_
    show Steps p.tables e below (T4.setTop (mkF m 10 #[.val (.ref a1)] [(.int (1 : Int32))])) _
    refine XS.goto X4.here hx rfl (pc0 := 10) (pc' := 14) rfl (hb hby d10_10) (by decide) (by decide) ?_
    show Steps p.tables e below (T4.setTop (mkF m 14 #[.val (.ref a1)] [(.int (1 : Int32))])) _
    exact kt)
  obtain ⟨frs, hr, hrun, hended, hW, hsame⟩ := X4.leave (v := some (.int (1 : Int32))) (fun h => by rw [Bd.returns] at h; cases h)
  refine ⟨_, _, cn5 _ ?_, hrun, hended, _, _, rfl, ?_, ⟨_, rfl⟩, hW, hsame.mono (by decide) (by decide)⟩
  · exact retN X4 hx (t := .byte) Bd.returns (by simp) (hb hby d10_14) hr
  · show QI 1 h0 n0 _ T4.heap _
    rw [e4]
    exact ⟨rfl, N0, rfl⟩

theorem d9_0 : decode jdk_42_method_54_code 0 = .ok (.aload_n 0, 1) := by decide +kernel
theorem d9_1 : decode jdk_42_method_54_code 1 = .ok (.getfield 9, 3) := by decide +kernel
theorem d9_4 : decode jdk_42_method_54_code 4 = .ok (.arraylength, 1) := by decide +kernel
theorem d9_5 : decode jdk_42_method_54_code 5 = .ok (.aload_n 0, 1) := by decide +kernel
theorem d9_6 : decode jdk_42_method_54_code 6 = .ok (.invokevirtual 335, 3) := by decide +kernel
theorem d9_9 : decode jdk_42_method_54_code 9 = .ok (.ishr, 1) := by decide +kernel
theorem d9_10 : decode jdk_42_method_54_code 10 = .ok (.ireturn, 1) := by decide +kernel
theorem pd_12 : parseMethodDescriptor "()B" = some ⟨[], some .byte⟩ := by decide +kernel
theorem ef_9 (m : MethodId) (x0 : Addr) : entryFrame m #[(.ref x0)] 1 = mkF m 0 #[.val (.ref x0)] [] := by first | (simp [entryFrame, mkF, argsToLocals, Value.category]; done) | rfl
set_option maxRecDepth 65536 in
set_option maxHeartbeats 40000000 in
theorem rm9 (l : Launch) (Z : State) (a0 : Array Value) (hw : ∀ d ∈ tables_1, d.before a0 Z = true) (ws : List Jvm.Cond) (a1 b : Addr) (cs : List Int32) (k : ClassId) (f : Nat → Value) (cd : Int32) (co : Int32) (vf : Value) (h0 : Heap) (n0 : Nat) (O0 : Old Z n0 h0) (hn : cs.length ≤ 4) (Sh : SS Z h0 a1 cs b k f cd) (SWh : SW Z co vf) :
    MetFree l (⟨"java/lang/String", "length", "()I"⟩ : MethodName) (head1 (Jvm.Cond.code (⟨"java/lang/String", "length", "()I"⟩ : MethodName) jdk_42_method_54_code 1 (some .int) :: ws) ({ frames := 1, cells := 0, slots := 0, locals := 13 } : Room)) (fun aQ U => aQ = #[(.ref a1)] ∧ Z.Warmed39 U.vm ∧ U.heap = h0) (fun _ _ _ _ _ => True) (fun _ U o U' => ∃ v L, o = .returned v ∧ QI (Nat.toInt32 cs.length) h0 n0 v U'.heap L ∧ FrameEnd U o U' L ({ frames := 1, cells := 0, slots := 0, locals := 13 } : Room).cells ({ frames := 1, cells := 0, slots := 0, locals := 13 } : Room).slots) := by
  refine MetFree.of_bodySF (plainFor_of_name pn_java_lang_String) hisR ?_
  intro p e s m args below meth kode s₁ Bd hml0 hP hK
  obtain ⟨rfl, hZ, hh⟩ := hP
  have hx := Bd.exec
  have hby := Bd.bytes
  have hml : kode.maxLocals = 1 := hml0
  have hown : s.vm.findClass "java/lang/String" = some m.cls := findClass_of_methodNamed Bd.named
  have hnm := (name_of_methodNamed Bd.named Bd.method).1
  have X0 : Stand p l e ({ frames := 1, cells := 0, slots := 0, locals := 13 } : Room) s m #[(.ref a1)] below meth kode s₁ [] 0 0 := Stand.of_body Bd
  have e0 : s₁.heap = h0 := by rw [← hh, Bd.state]; rfl
  have N0 := Fr.nil n0
  have pre0 : ∀ t, Steps p.tables e below (s₁.setTop (mkF m 0 #[.val (.ref a1)] [])) t → Steps p.tables e below (s₁.setTop (entryFrame m #[(.ref a1)] 1)) t := fun t k => castTop (ef_9 m a1) k
  have SWx := SWh
  obtain ⟨S_CS, hcs, S_AD, S_HI, S_LO, S_SI, hcat_vf⟩ := SWx
  obtain ⟨E_a1, Fv, Fc, ⟨rfl, A_b, hP⟩ | ⟨rfl, A_b, hP⟩⟩ := Sh
  · have cn1 := fun (t : State) (kt : Steps p.tables e below (s₁.setTop (mkF m 1 #[.val (.ref a1)] [(.ref a1)])) t) => pre0 t (by
      refine XS.aloadN X0.here hx rfl (hb hby d9_0) rfl rfl ?_
      show Steps p.tables e below (s₁.setTop (mkF m 1 #[.val (.ref a1)] [(.ref a1)])) _
      exact kt)
    obtain ⟨T2, X2, e2, st2⟩ := getF X0 hx hZ hown (host := "") (Or.inl (hw _ (List.mem_of_getElem? (i := 34) rfl))) Via.refl e0 Fv (g := (mkF m 1 #[.val (.ref a1)] [(.ref a1)])) rfl rfl (hb hby d9_1)
    have cn3 := fun (t : State) (kt : Steps p.tables e below (T2.setTop (mkF m 4 #[.val (.ref a1)] [(.ref b)])) t) => cn1 t (by
      refine st2 _ ?_
      show Steps p.tables e below (T2.setTop (mkF m 4 #[.val (.ref a1)] [(.ref b)])) _
      exact kt)
    have AFx4 := A_b
    obtain ⟨cl4, Ar4, q4, S4, H4⟩ := AFx4
    have cn5 := fun (t : State) (kt : Steps p.tables e below (T2.setTop (mkF m 6 #[.val (.ref a1)] [(.ref a1), (.int (Nat.toInt32 cs.length))])) t) => cn3 t (by
      refine X2.arraylength hx (by rw [e2]; exact Ar4.1) (State.isArrayOf_alike hZ.alike Ar4.2.1) (g := (mkF m 4 #[.val (.ref a1)] [(.ref b)])) rfl rfl (hb hby d9_4) _ ?_
      rw [S4]
      show Steps p.tables e below (T2.setTop (mkF m 5 #[.val (.ref a1)] [(.int (Nat.toInt32 cs.length))])) _
      refine XS.aloadN X2.here hx rfl (hb hby d9_5) rfl rfl ?_
      show Steps p.tables e below (T2.setTop (mkF m 6 #[.val (.ref a1)] [(.ref a1), (.int (Nat.toInt32 cs.length))])) _
      exact kt)
    obtain ⟨cq6, kq6, q6a, q6b, q6c⟩ := isOf hZ e2 E_a1
    obtain ⟨_, _, ⟨T6, L6, k6, n6⟩, -, X6, ⟨Lc6, hQ6, l6, y6, z6⟩, st6⟩ := X2.virtualBack hx (y := (⟨"java/lang/String", "coder", "()B"⟩ : MethodName)) (z := (⟨"java/lang/String", "coder", "()B"⟩ : MethodName)) hown (mvT hZ (hw _ (List.mem_of_getElem? (i := 45) rfl))) (mvT hZ (hw _ (List.mem_of_getElem? (i := 46) rfl))) (notFace_of_selects (args := #[]) (mvT hZ (hw _ (List.mem_of_getElem? (i := 48) rfl)))) (mvT hZ (hw _ (List.mem_of_getElem? (i := 48) rfl))) (mvT hZ (hw _ (List.mem_of_getElem? (i := 47) rfl))) (by decide) (backOf (W := 1) (rm10_0 l Z a0 hw [] a1 co vf h0 n0 O0 Fc SWh) hZ (hw _ (List.mem_of_getElem? (i := 49) rfl)) (hw _ (List.mem_of_getElem? (i := 9) rfl)) (by decide) (by decide)) q6a q6c (g := (mkF m 6 #[.val (.ref a1)] [(.ref a1), (.int (Nat.toInt32 cs.length))])) rfl (by rw [hml]; rfl) (Steps.refl _) (argsL := []) (rest := [(.int (Nat.toInt32 cs.length))]) (lenOf pd_12 rfl) rfl (by show 2 * 0 + _ ≤ _; exact Nat.le_of_eq rfl) (hb hby d9_6) (fun _ _ => ⟨rfl, e2, (by decide : 0 + 0 ≤ _), (by decide : 0 + 0 ≤ _)⟩)
    dsimp only [Pt.U, Pt.locs, Pt.cells, Pt.slots] at X6 l6 y6 z6 st6 hQ6
    subst l6 y6 z6
    obtain ⟨rfl, Nq6, eh6⟩ := hQ6
    have N6 := Fr.app N0 Nq6
    have cn7 := fun (t : State) (kt : Steps p.tables e below (T6.setTop (mkF m 10 #[.val (.ref a1)] [(.int ((Nat.toInt32 cs.length) >>> ((0 : Int32) &&& 31)))])) t) => cn5 t (by
      refine st6.trans ?_
      show Steps p.tables e below (T6.setTop (mkF m 9 #[.val (.ref a1)] [(.int (0 : Int32)), (.int (Nat.toInt32 cs.length))])) _
      refine XS.ishr X6.here hx rfl (hb hby d9_9) rfl ?_
      show Steps p.tables e below (T6.setTop (mkF m 10 #[.val (.ref a1)] [(.int ((Nat.toInt32 cs.length) >>> ((0 : Int32) &&& 31)))])) _
      exact kt)
    obtain ⟨frs, hr, hrun, hended, hW, hsame⟩ := X6.leave (v := some (.int ((Nat.toInt32 cs.length) >>> ((0 : Int32) &&& 31)))) (fun h => by rw [Bd.returns] at h; cases h)
    refine ⟨_, _, cn7 _ ?_, hrun, hended, _, _, rfl, ?_, ⟨_, rfl⟩, hW, hsame.mono (by decide) (by decide)⟩
    · exact retI X6 hx Bd.returns (hb hby d9_10) hr
    · show QI (Nat.toInt32 cs.length) h0 n0 _ T6.heap _
      rw [eh6]
      exact ⟨by rw [own_sh0], N6, rfl⟩
  · have cn8 := fun (t : State) (kt : Steps p.tables e below (s₁.setTop (mkF m 1 #[.val (.ref a1)] [(.ref a1)])) t) => pre0 t (by
      refine XS.aloadN X0.here hx rfl (hb hby d9_0) rfl rfl ?_
      show Steps p.tables e below (s₁.setTop (mkF m 1 #[.val (.ref a1)] [(.ref a1)])) _
      exact kt)
    obtain ⟨T9, X9, e9, st9⟩ := getF X0 hx hZ hown (host := "") (Or.inl (hw _ (List.mem_of_getElem? (i := 34) rfl))) Via.refl e0 Fv (g := (mkF m 1 #[.val (.ref a1)] [(.ref a1)])) rfl rfl (hb hby d9_1)
    have cn10 := fun (t : State) (kt : Steps p.tables e below (T9.setTop (mkF m 4 #[.val (.ref a1)] [(.ref b)])) t) => cn8 t (by
      refine st9 _ ?_
      show Steps p.tables e below (T9.setTop (mkF m 4 #[.val (.ref a1)] [(.ref b)])) _
      exact kt)
    have AFx11 := A_b
    obtain ⟨cl11, Ar11, q11, S11, H11⟩ := AFx11
    have cn12 := fun (t : State) (kt : Steps p.tables e below (T9.setTop (mkF m 6 #[.val (.ref a1)] [(.ref a1), (.int (Nat.toInt32 (2 * cs.length)))])) t) => cn10 t (by
      refine X9.arraylength hx (by rw [e9]; exact Ar11.1) (State.isArrayOf_alike hZ.alike Ar11.2.1) (g := (mkF m 4 #[.val (.ref a1)] [(.ref b)])) rfl rfl (hb hby d9_4) _ ?_
      rw [S11]
      show Steps p.tables e below (T9.setTop (mkF m 5 #[.val (.ref a1)] [(.int (Nat.toInt32 (2 * cs.length)))])) _
      refine XS.aloadN X9.here hx rfl (hb hby d9_5) rfl rfl ?_
      show Steps p.tables e below (T9.setTop (mkF m 6 #[.val (.ref a1)] [(.ref a1), (.int (Nat.toInt32 (2 * cs.length)))])) _
      exact kt)
    obtain ⟨cq13, kq13, q13a, q13b, q13c⟩ := isOf hZ e9 E_a1
    obtain ⟨_, _, ⟨T13, L13, k13, n13⟩, -, X13, ⟨Lc13, hQ13, l13, y13, z13⟩, st13⟩ := X9.virtualBack hx (y := (⟨"java/lang/String", "coder", "()B"⟩ : MethodName)) (z := (⟨"java/lang/String", "coder", "()B"⟩ : MethodName)) hown (mvT hZ (hw _ (List.mem_of_getElem? (i := 45) rfl))) (mvT hZ (hw _ (List.mem_of_getElem? (i := 46) rfl))) (notFace_of_selects (args := #[]) (mvT hZ (hw _ (List.mem_of_getElem? (i := 48) rfl)))) (mvT hZ (hw _ (List.mem_of_getElem? (i := 48) rfl))) (mvT hZ (hw _ (List.mem_of_getElem? (i := 47) rfl))) (by decide) (backOf (W := 1) (rm10_1 l Z a0 hw [] a1 co vf h0 n0 O0 Fc SWh) hZ (hw _ (List.mem_of_getElem? (i := 49) rfl)) (hw _ (List.mem_of_getElem? (i := 9) rfl)) (by decide) (by decide)) q13a q13c (g := (mkF m 6 #[.val (.ref a1)] [(.ref a1), (.int (Nat.toInt32 (2 * cs.length)))])) rfl (by rw [hml]; rfl) (Steps.refl _) (argsL := []) (rest := [(.int (Nat.toInt32 (2 * cs.length)))]) (lenOf pd_12 rfl) rfl (by show 2 * 0 + _ ≤ _; exact Nat.le_of_eq rfl) (hb hby d9_6) (fun _ _ => ⟨rfl, e9, (by decide : 0 + 0 ≤ _), (by decide : 0 + 0 ≤ _)⟩)
    dsimp only [Pt.U, Pt.locs, Pt.cells, Pt.slots] at X13 l13 y13 z13 st13 hQ13
    subst l13 y13 z13
    obtain ⟨rfl, Nq13, eh13⟩ := hQ13
    have N13 := Fr.app N0 Nq13
    have cn14 := fun (t : State) (kt : Steps p.tables e below (T13.setTop (mkF m 10 #[.val (.ref a1)] [(.int ((Nat.toInt32 (2 * cs.length)) >>> ((1 : Int32) &&& 31)))])) t) => cn12 t (by
      refine st13.trans ?_
      show Steps p.tables e below (T13.setTop (mkF m 9 #[.val (.ref a1)] [(.int (1 : Int32)), (.int (Nat.toInt32 (2 * cs.length)))])) _
      refine XS.ishr X13.here hx rfl (hb hby d9_9) rfl ?_
      show Steps p.tables e below (T13.setTop (mkF m 10 #[.val (.ref a1)] [(.int ((Nat.toInt32 (2 * cs.length)) >>> ((1 : Int32) &&& 31)))])) _
      exact kt)
    obtain ⟨frs, hr, hrun, hended, hW, hsame⟩ := X13.leave (v := some (.int ((Nat.toInt32 (2 * cs.length)) >>> ((1 : Int32) &&& 31)))) (fun h => by rw [Bd.returns] at h; cases h)
    refine ⟨_, _, cn14 _ ?_, hrun, hended, _, _, rfl, ?_, ⟨_, rfl⟩, hW, hsame.mono (by decide) (by decide)⟩
    · exact retI X13 hx Bd.returns (hb hby d9_10) hr
    · show QI (Nat.toInt32 cs.length) h0 n0 _ T13.heap _
      rw [eh13]
      exact ⟨by rw [own_hlf (by omega)], N13, rfl⟩

theorem d11_0 : decode jdk_42_method_56_code 0 = .ok (.aload_n 0, 1) := by decide +kernel
theorem d11_1 : decode jdk_42_method_56_code 1 = .ok (.invokevirtual 492, 3) := by decide +kernel
theorem d11_4 : decode jdk_42_method_56_code 4 = .ok (.ifCond .eq 12, 3) := by decide +kernel
theorem d11_7 : decode jdk_42_method_56_code 7 = .ok (.aload_n 0, 1) := by decide +kernel
theorem d11_8 : decode jdk_42_method_56_code 8 = .ok (.getfield 9, 3) := by decide +kernel
theorem d11_11 : decode jdk_42_method_56_code 11 = .ok (.iload_n 1, 1) := by decide +kernel
theorem d11_12 : decode jdk_42_method_56_code 12 = .ok (.invokestatic 495, 3) := by decide +kernel
theorem d11_15 : decode jdk_42_method_56_code 15 = .ok (.ireturn, 1) := by decide +kernel
theorem d11_16 : decode jdk_42_method_56_code 16 = .ok (.aload_n 0, 1) := by decide +kernel
theorem d11_17 : decode jdk_42_method_56_code 17 = .ok (.getfield 9, 3) := by decide +kernel
theorem d11_20 : decode jdk_42_method_56_code 20 = .ok (.iload_n 1, 1) := by decide +kernel
theorem d11_21 : decode jdk_42_method_56_code 21 = .ok (.invokestatic 498, 3) := by decide +kernel
theorem d11_24 : decode jdk_42_method_56_code 24 = .ok (.ireturn, 1) := by decide +kernel
theorem pd_13 : parseMethodDescriptor "()Z" = some ⟨[], some .boolean⟩ := by decide +kernel
theorem ef_11 (m : MethodId) (x0 : Addr) (x1 : Int32) : entryFrame m #[(.ref x0), (.int x1)] 2 = mkF m 0 #[.val (.ref x0), .val (.int x1)] [] := by first | (simp [entryFrame, mkF, argsToLocals, Value.category]; done) | rfl
set_option maxRecDepth 65536 in
set_option maxHeartbeats 40000000 in
theorem rm11 (l : Launch) (Z : State) (a0 : Array Value) (hw : ∀ d ∈ tables_1, d.before a0 Z = true) (ws : List Jvm.Cond) (a1 b : Addr) (cs : List Int32) (k : ClassId) (f : Nat → Value) (cd : Int32) (i : Nat) (co : Int32) (vf : Value) (h0 : Heap) (n0 : Nat) (O0 : Old Z n0 h0) (hi : i < cs.length) (hu : own_u cs) (hn : cs.length ≤ 4) (Sh : SS Z h0 a1 cs b k f cd) (SWh : SW Z co vf) :
    MetFree l (⟨"java/lang/String", "charAt", "(I)C"⟩ : MethodName) (head1 (Jvm.Cond.code (⟨"java/lang/String", "charAt", "(I)C"⟩ : MethodName) jdk_42_method_56_code 2 (some .char) :: ws) ({ frames := 4, cells := 0, slots := 0, locals := 53 } : Room)) (fun aQ U => aQ = #[(.ref a1), (.int (Nat.toInt32 i))] ∧ Z.Warmed39 U.vm ∧ U.heap = h0) (fun _ _ _ _ _ => True) (fun _ U o U' => ∃ v L, o = .returned v ∧ QI (cs.getD i 0) h0 n0 v U'.heap L ∧ FrameEnd U o U' L ({ frames := 4, cells := 0, slots := 0, locals := 53 } : Room).cells ({ frames := 4, cells := 0, slots := 0, locals := 53 } : Room).slots) := by
  refine MetFree.of_bodySF (plainFor_of_name pn_java_lang_String) hisR ?_
  intro p e s m args below meth kode s₁ Bd hml0 hP hK
  obtain ⟨rfl, hZ, hh⟩ := hP
  have hx := Bd.exec
  have hby := Bd.bytes
  have hml : kode.maxLocals = 2 := hml0
  have hown : s.vm.findClass "java/lang/String" = some m.cls := findClass_of_methodNamed Bd.named
  have hnm := (name_of_methodNamed Bd.named Bd.method).1
  have X0 : Stand p l e ({ frames := 4, cells := 0, slots := 0, locals := 53 } : Room) s m #[(.ref a1), (.int (Nat.toInt32 i))] below meth kode s₁ [] 0 0 := Stand.of_body Bd
  have e0 : s₁.heap = h0 := by rw [← hh, Bd.state]; rfl
  have N0 := Fr.nil n0
  have pre0 : ∀ t, Steps p.tables e below (s₁.setTop (mkF m 0 #[.val (.ref a1), .val (.int (Nat.toInt32 i))] [])) t → Steps p.tables e below (s₁.setTop (entryFrame m #[(.ref a1), (.int (Nat.toInt32 i))] 2)) t := fun t k => castTop (ef_11 m a1 (Nat.toInt32 i)) k
  have SWx := SWh
  obtain ⟨S_CS, hcs, S_AD, S_HI, S_LO, S_SI, hcat_vf⟩ := SWx
  obtain ⟨E_a1, Fv, Fc, ⟨rfl, A_b, hP⟩ | ⟨rfl, A_b, hP⟩⟩ := Sh
  · have hmc := hn
    have cn1 := fun (t : State) (kt : Steps p.tables e below (s₁.setTop (mkF m 1 #[.val (.ref a1), .val (.int (Nat.toInt32 i))] [(.ref a1)])) t) => pre0 t (by
      refine XS.aloadN X0.here hx rfl (hb hby d11_0) rfl rfl ?_
      show Steps p.tables e below (s₁.setTop (mkF m 1 #[.val (.ref a1), .val (.int (Nat.toInt32 i))] [(.ref a1)])) _
      exact kt)
    obtain ⟨cq2, kq2, q2a, q2b, q2c⟩ := isOf hZ e0 E_a1
    obtain ⟨_, _, ⟨T2, L2, k2, n2⟩, -, X2, ⟨Lc2, hQ2, l2, y2, z2⟩, st2⟩ := X0.virtualBack hx (y := (⟨"java/lang/String", "isLatin1", "()Z"⟩ : MethodName)) (z := (⟨"java/lang/String", "isLatin1", "()Z"⟩ : MethodName)) hown (mvT hZ (hw _ (List.mem_of_getElem? (i := 55) rfl))) (mvT hZ (hw _ (List.mem_of_getElem? (i := 56) rfl))) (notFace_of_selects (args := #[]) (mvT hZ (hw _ (List.mem_of_getElem? (i := 58) rfl)))) (mvT hZ (hw _ (List.mem_of_getElem? (i := 58) rfl))) (mvT hZ (hw _ (List.mem_of_getElem? (i := 57) rfl))) (by decide) (backOf (W := 0) (rm12_0 l Z a0 hw [] a1 co vf h0 n0 O0 Fc SWh) hZ (hw _ (List.mem_of_getElem? (i := 59) rfl)) (hw _ (List.mem_of_getElem? (i := 9) rfl)) (by decide) (by decide)) q2a q2c (g := (mkF m 1 #[.val (.ref a1), .val (.int (Nat.toInt32 i))] [(.ref a1)])) rfl (by rw [hml]; rfl) (Steps.refl _) (argsL := []) (rest := []) (lenOf pd_13 rfl) rfl (by show 2 * 0 + _ ≤ _; exact Nat.le_of_eq rfl) (hb hby d11_1) (fun _ _ => ⟨rfl, e0, (by decide : 0 + 0 ≤ _), (by decide : 0 + 0 ≤ _)⟩)
    dsimp only [Pt.U, Pt.locs, Pt.cells, Pt.slots] at X2 l2 y2 z2 st2 hQ2
    subst l2 y2 z2
    obtain ⟨rfl, Nq2, eh2⟩ := hQ2
    have N2 := Fr.app N0 Nq2
    have cn3 := fun (t : State) (kt : Steps p.tables e below (T2.setTop (mkF m 4 #[.val (.ref a1), .val (.int (Nat.toInt32 i))] [(.int (1 : Int32))])) t) => cn1 t (by
      refine st2.trans ?_
      show Steps p.tables e below (T2.setTop (mkF m 4 #[.val (.ref a1), .val (.int (Nat.toInt32 i))] [(.int (1 : Int32))])) _
      exact kt)
    have cn4 := fun (t : State) (kt : Steps p.tables e below (T2.setTop (mkF m 8 #[.val (.ref a1), .val (.int (Nat.toInt32 i))] [(.ref a1)])) t) => cn3 t (by
      refine XS.ifNo X2.here hx rfl (hb hby d11_4) rfl ((if0 _ _).trans (feq (by decide : ¬ ((1 : Int32) = (0 : Int32)))).1) ?_
      show Steps p.tables e below (T2.setTop (mkF m 7 #[.val (.ref a1), .val (.int (Nat.toInt32 i))] [])) _
      refine XS.aloadN X2.here hx rfl (hb hby d11_7) rfl rfl ?_
      show Steps p.tables e below (T2.setTop (mkF m 8 #[.val (.ref a1), .val (.int (Nat.toInt32 i))] [(.ref a1)])) _
      exact kt)
    obtain ⟨T5, X5, e5, st5⟩ := getF X2 hx hZ hown (host := "") (Or.inl (hw _ (List.mem_of_getElem? (i := 34) rfl))) Via.refl eh2 Fv (g := (mkF m 8 #[.val (.ref a1), .val (.int (Nat.toInt32 i))] [(.ref a1)])) rfl rfl (hb hby d11_8)
    have cn6 := fun (t : State) (kt : Steps p.tables e below (T5.setTop (mkF m 12 #[.val (.ref a1), .val (.int (Nat.toInt32 i))] [(.int (Nat.toInt32 i)), (.ref b)])) t) => cn4 t (by
      refine st5 _ ?_
      show Steps p.tables e below (T5.setTop (mkF m 11 #[.val (.ref a1), .val (.int (Nat.toInt32 i))] [(.ref b)])) _
      refine XS.iloadN X5.here hx rfl (hb hby d11_11) rfl ?_
      show Steps p.tables e below (T5.setTop (mkF m 12 #[.val (.ref a1), .val (.int (Nat.toInt32 i))] [(.int (Nat.toInt32 i)), (.ref b)])) _
      exact kt)
    obtain ⟨_, _, ⟨T7, L7, k7, n7⟩, -, X7, ⟨Lc7, hQ7, l7, y7, z7⟩, st7⟩ := Jvm.LawKit.callS X5 hx (y := (⟨"java/lang/StringLatin1", "charAt", "([BI)C"⟩ : MethodName)) hown (mvT hZ (hw _ (List.mem_of_getElem? (i := 60) rfl))) (mvT hZ (hw _ (List.mem_of_getElem? (i := 61) rfl))) (mvT hZ (hw _ (List.mem_of_getElem? (i := 62) rfl))) (mvT hZ (hw _ (List.mem_of_getElem? (i := 63) rfl))) (by decide) (backOf (W := 0) (rm13 l Z a0 hw [] b k cs.length i f (cs.getD i 0).toInt8.toInt32 co vf h0 n0 O0 hi (by omega) (hP i hi).1 A_b SWh) hZ (hw _ (List.mem_of_getElem? (i := 63) rfl)) (hw _ (List.mem_of_getElem? (i := 62) rfl)) (by decide) (by decide)) (g := (mkF m 12 #[.val (.ref a1), .val (.int (Nat.toInt32 i))] [(.int (Nat.toInt32 i)), (.ref b)])) rfl (by rw [hml]; rfl) (argsL := [(.ref b), (.int (Nat.toInt32 i))]) (rest := []) (lenOf pd_5 rfl) rfl (by show 2 * 0 + _ ≤ _; exact Nat.le_of_eq rfl) (hb hby d11_12) (fun _ _ => ⟨rfl, e5, (by decide : 0 + 0 ≤ _), (by decide : 0 + 0 ≤ _)⟩)
    dsimp only [Pt.U, Pt.locs, Pt.cells, Pt.slots] at X7 l7 y7 z7 st7 hQ7
    subst l7 y7 z7
    obtain ⟨rfl, Nq7, eh7⟩ := hQ7
    have N7 := Fr.app N2 Nq7
    have cn8 := fun (t : State) (kt : Steps p.tables e below (T7.setTop (mkF m 15 #[.val (.ref a1), .val (.int (Nat.toInt32 i))] [(.int (own_lc (cs.getD i 0).toInt8.toInt32))])) t) => cn6 t (by
      refine st7 _ ?_
      show Steps p.tables e below (T7.setTop (mkF m 15 #[.val (.ref a1), .val (.int (Nat.toInt32 i))] [(.int (own_lc (cs.getD i 0).toInt8.toInt32))])) _
      exact kt)
    obtain ⟨frs, hr, hrun, hended, hW, hsame⟩ := X7.leave (v := some (.int (nar .char (own_lc (cs.getD i 0).toInt8.toInt32)))) (fun h => by rw [Bd.returns] at h; cases h)
    refine ⟨_, _, cn8 _ ?_, hrun, hended, _, _, rfl, ?_, ⟨_, rfl⟩, hW, hsame.mono (by decide) (by decide)⟩
    · exact retN X7 hx (t := .char) Bd.returns (by simp) (hb hby d11_15) hr
    · show QI (cs.getD i 0) h0 n0 _ T7.heap _
      rw [eh7]
      exact ⟨by rw [own_lc_b (hu i).1 (hP i hi).2, own_nch (hu i).1 (hu i).2], N7, rfl⟩
  · have hmc := hn
    have cn9 := fun (t : State) (kt : Steps p.tables e below (s₁.setTop (mkF m 1 #[.val (.ref a1), .val (.int (Nat.toInt32 i))] [(.ref a1)])) t) => pre0 t (by
      refine XS.aloadN X0.here hx rfl (hb hby d11_0) rfl rfl ?_
      show Steps p.tables e below (s₁.setTop (mkF m 1 #[.val (.ref a1), .val (.int (Nat.toInt32 i))] [(.ref a1)])) _
      exact kt)
    obtain ⟨cq10, kq10, q10a, q10b, q10c⟩ := isOf hZ e0 E_a1
    obtain ⟨_, _, ⟨T10, L10, k10, n10⟩, -, X10, ⟨Lc10, hQ10, l10, y10, z10⟩, st10⟩ := X0.virtualBack hx (y := (⟨"java/lang/String", "isLatin1", "()Z"⟩ : MethodName)) (z := (⟨"java/lang/String", "isLatin1", "()Z"⟩ : MethodName)) hown (mvT hZ (hw _ (List.mem_of_getElem? (i := 55) rfl))) (mvT hZ (hw _ (List.mem_of_getElem? (i := 56) rfl))) (notFace_of_selects (args := #[]) (mvT hZ (hw _ (List.mem_of_getElem? (i := 58) rfl)))) (mvT hZ (hw _ (List.mem_of_getElem? (i := 58) rfl))) (mvT hZ (hw _ (List.mem_of_getElem? (i := 57) rfl))) (by decide) (backOf (W := 0) (rm12_1 l Z a0 hw [] a1 co vf h0 n0 O0 Fc SWh) hZ (hw _ (List.mem_of_getElem? (i := 59) rfl)) (hw _ (List.mem_of_getElem? (i := 9) rfl)) (by decide) (by decide)) q10a q10c (g := (mkF m 1 #[.val (.ref a1), .val (.int (Nat.toInt32 i))] [(.ref a1)])) rfl (by rw [hml]; rfl) (Steps.refl _) (argsL := []) (rest := []) (lenOf pd_13 rfl) rfl (by show 2 * 0 + _ ≤ _; exact Nat.le_of_eq rfl) (hb hby d11_1) (fun _ _ => ⟨rfl, e0, (by decide : 0 + 0 ≤ _), (by decide : 0 + 0 ≤ _)⟩)
    dsimp only [Pt.U, Pt.locs, Pt.cells, Pt.slots] at X10 l10 y10 z10 st10 hQ10
    subst l10 y10 z10
    obtain ⟨rfl, Nq10, eh10⟩ := hQ10
    have N10 := Fr.app N0 Nq10
    have cn11 := fun (t : State) (kt : Steps p.tables e below (T10.setTop (mkF m 4 #[.val (.ref a1), .val (.int (Nat.toInt32 i))] [(.int (0 : Int32))])) t) => cn9 t (by
      refine st10.trans ?_
      show Steps p.tables e below (T10.setTop (mkF m 4 #[.val (.ref a1), .val (.int (Nat.toInt32 i))] [(.int (0 : Int32))])) _
      exact kt)
    have cn12 := fun (t : State) (kt : Steps p.tables e below (T10.setTop (mkF m 17 #[.val (.ref a1), .val (.int (Nat.toInt32 i))] [(.ref a1)])) t) => cn11 t (by
      refine XS.ifYes X10.here hx rfl (pc0 := 4) (pc' := 16) rfl (hb hby d11_4) rfl ((if0 _ _).trans (teq (by decide : (0 : Int32) = (0 : Int32))).1) (by decide) (by decide) ?_
      show Steps p.tables e below (T10.setTop (mkF m 16 #[.val (.ref a1), .val (.int (Nat.toInt32 i))] [])) _
      refine XS.aloadN X10.here hx rfl (hb hby d11_16) rfl rfl ?_
      show Steps p.tables e below (T10.setTop (mkF m 17 #[.val (.ref a1), .val (.int (Nat.toInt32 i))] [(.ref a1)])) _
      exact kt)
    obtain ⟨T13, X13, e13, st13⟩ := getF X10 hx hZ hown (host := "") (Or.inl (hw _ (List.mem_of_getElem? (i := 34) rfl))) Via.refl eh10 Fv (g := (mkF m 17 #[.val (.ref a1), .val (.int (Nat.toInt32 i))] [(.ref a1)])) rfl rfl (hb hby d11_17)
    have cn14 := fun (t : State) (kt : Steps p.tables e below (T13.setTop (mkF m 21 #[.val (.ref a1), .val (.int (Nat.toInt32 i))] [(.int (Nat.toInt32 i)), (.ref b)])) t) => cn12 t (by
      refine st13 _ ?_
      show Steps p.tables e below (T13.setTop (mkF m 20 #[.val (.ref a1), .val (.int (Nat.toInt32 i))] [(.ref b)])) _
      refine XS.iloadN X13.here hx rfl (hb hby d11_20) rfl ?_
      show Steps p.tables e below (T13.setTop (mkF m 21 #[.val (.ref a1), .val (.int (Nat.toInt32 i))] [(.int (Nat.toInt32 i)), (.ref b)])) _
      exact kt)
    obtain ⟨_, _, ⟨T15, L15, k15, n15⟩, -, X15, ⟨Lc15, hQ15, l15, y15, z15⟩, st15⟩ := Jvm.LawKit.callS X13 hx (y := (⟨"java/lang/StringUTF16", "charAt", "([BI)C"⟩ : MethodName)) hown (mvT hZ (hw _ (List.mem_of_getElem? (i := 94) rfl))) (mvT hZ (hw _ (List.mem_of_getElem? (i := 95) rfl))) (mvT hZ (hw _ (List.mem_of_getElem? (i := 23) rfl))) (mvT hZ (hw _ (List.mem_of_getElem? (i := 96) rfl))) (by decide) (backOf (W := 0) (rm22 l Z a0 hw [] b k cs.length i f (own_b0 (cs.getD i 0)) (own_b1 (cs.getD i 0)) co vf h0 n0 O0 hi hmc (hP.1 i hi).1 (hP.1 i hi).2 A_b SWh) hZ (hw _ (List.mem_of_getElem? (i := 96) rfl)) (hw _ (List.mem_of_getElem? (i := 23) rfl)) (by decide) (by decide)) (g := (mkF m 21 #[.val (.ref a1), .val (.int (Nat.toInt32 i))] [(.int (Nat.toInt32 i)), (.ref b)])) rfl (by rw [hml]; rfl) (argsL := [(.ref b), (.int (Nat.toInt32 i))]) (rest := []) (lenOf pd_5 rfl) rfl (by show 2 * 0 + _ ≤ _; exact Nat.le_of_eq rfl) (hb hby d11_21) (fun _ _ => ⟨rfl, e13, (by decide : 0 + 0 ≤ _), (by decide : 0 + 0 ≤ _)⟩)
    dsimp only [Pt.U, Pt.locs, Pt.cells, Pt.slots] at X15 l15 y15 z15 st15 hQ15
    subst l15 y15 z15
    obtain ⟨rfl, Nq15, eh15⟩ := hQ15
    have N15 := Fr.app N10 Nq15
    have cn16 := fun (t : State) (kt : Steps p.tables e below (T15.setTop (mkF m 24 #[.val (.ref a1), .val (.int (Nat.toInt32 i))] [(.int (nar .char (own_gc (own_b0 (cs.getD i 0)) (own_b1 (cs.getD i 0)))))])) t) => cn14 t (by
      refine st15 _ ?_
      show Steps p.tables e below (T15.setTop (mkF m 24 #[.val (.ref a1), .val (.int (Nat.toInt32 i))] [(.int (nar .char (own_gc (own_b0 (cs.getD i 0)) (own_b1 (cs.getD i 0)))))])) _
      exact kt)
    obtain ⟨frs, hr, hrun, hended, hW, hsame⟩ := X15.leave (v := some (.int (nar .char (nar .char (own_gc (own_b0 (cs.getD i 0)) (own_b1 (cs.getD i 0))))))) (fun h => by rw [Bd.returns] at h; cases h)
    refine ⟨_, _, cn16 _ ?_, hrun, hended, _, _, rfl, ?_, ⟨_, rfl⟩, hW, hsame.mono (by decide) (by decide)⟩
    · exact retN X15 hx (t := .char) Bd.returns (by simp) (hb hby d11_24) hr
    · show QI (cs.getD i 0) h0 n0 _ T15.heap _
      rw [eh15]
      exact ⟨by rw [own_gc_b (hu i).1 (hu i).2, own_nch (hu i).1 (hu i).2, own_nch (hu i).1 (hu i).2], N15, rfl⟩

theorem d3_8 : decode jdk_42_method_149_code 8 = .ok (.aload_n 0, 1) := by decide +kernel
theorem d3_9 : decode jdk_42_method_149_code 9 = .ok (.ldc 7, 2) := by decide +kernel
theorem d3_11 : decode jdk_42_method_149_code 11 = .ok (.getfield 9, 3) := by decide +kernel
theorem d3_14 : decode jdk_42_method_149_code 14 = .ok (.putfield 9, 3) := by decide +kernel
theorem d3_17 : decode jdk_42_method_149_code 17 = .ok (.aload_n 0, 1) := by decide +kernel
theorem d3_18 : decode jdk_42_method_149_code 18 = .ok (.ldc 7, 2) := by decide +kernel
theorem d3_20 : decode jdk_42_method_149_code 20 = .ok (.getfield 15, 3) := by decide +kernel
theorem d3_23 : decode jdk_42_method_149_code 23 = .ok (.putfield 15, 3) := by decide +kernel
theorem d3_26 : decode jdk_42_method_149_code 26 = .ok (.return_, 1) := by decide +kernel
theorem ef_149e (m : MethodId) (x0 : Addr) (x1 : Addr) (x2 : Int32) (x3 : Int32) : entryFrame m #[(.ref x0), (.ref x1), (.int x2), (.int x3), .null] 6 = mkF m 0 #[.val (.ref x0), .val (.ref x1), .val (.int x2), .val (.int x3), .val .null, .unset] [] := by first | (simp [entryFrame, mkF, argsToLocals, Value.category]; done) | rfl
set_option maxRecDepth 65536 in
set_option maxHeartbeats 40000000 in
theorem rm149e (l : Launch) (Z : State) (a0 : Array Value) (hw : ∀ d ∈ tables_1, d.before a0 Z = true) (ws : List Jvm.Cond) (a1 ca : Addr) (kc : ClassId) (fc : Nat → Value) (h0 : Heap) (n0 : Nat) (O0 : Old Z n0 h0) (g_a1 : n0 ≤ a1) (E_a1 : Exa Z h0 a1 "java/lang/String") (Fvalue : Fld Z h0 a1 "java/lang/String" "value" "[B" .null) (Fcoder : Fld Z h0 a1 "java/lang/String" "coder" "B" (.int (0 : Int32))) (neac : a1 ≠ ca) (A_ca : AF Z h0 ca kc .char 0 fc) :
    MetFree l (⟨"java/lang/String", "<init>", "([CIILjava/lang/Void;)V"⟩ : MethodName) (head1 (Jvm.Cond.code (⟨"java/lang/String", "<init>", "([CIILjava/lang/Void;)V"⟩ : MethodName) jdk_42_method_149_code 6 none :: ws) ({ frames := 1, cells := 2, slots := 4, locals := 12 } : Room)) (fun aQ U => aQ = #[(.ref a1), (.ref ca), (.int (0 : Int32)), (.int (0 : Int32)), .null] ∧ Z.Warmed39 U.vm ∧ U.heap = h0 ∧ CHv Z consts_1 U.vm h0) (fun _ _ _ _ _ => True) (fun _ U o U' => ∃ v L, o = .returned v ∧ QST Z a1 [] h0 n0 v U'.heap L ∧ ReturnedEndW U o U' L ({ frames := 1, cells := 2, slots := 4, locals := 12 } : Room).cells ({ frames := 1, cells := 2, slots := 4, locals := 12 } : Room).slots) := by
  refine MetFree.of_bodySF (plainFor_of_name pn_java_lang_String) hisR ?_
  intro p e s m args below meth kode s₁ Bd hml0 hP hK
  obtain ⟨rfl, hZ, hh, CH⟩ := hP
  have hx := Bd.exec
  have hby := Bd.bytes
  have hml : kode.maxLocals = 6 := hml0
  have hown : s.vm.findClass "java/lang/String" = some m.cls := findClass_of_methodNamed Bd.named
  have hnm := (name_of_methodNamed Bd.named Bd.method).1
  have X0 : Stand p l e ({ frames := 1, cells := 2, slots := 4, locals := 12 } : Room) (s.setVm s.vm) m #[(.ref a1), (.ref ca), (.int (0 : Int32)), (.int (0 : Int32)), .null] below meth kode s₁ [] 0 0 := Stand.of_body Bd
  have e0 : s₁.heap = h0 := by rw [← hh, Bd.state]; rfl
  have N0 := Fr.nil n0
  have pre0 : ∀ t, Steps p.tables e below (s₁.setTop (mkF m 0 #[.val (.ref a1), .val (.ref ca), .val (.int (0 : Int32)), .val (.int (0 : Int32)), .val .null, .unset] [])) t → Steps p.tables e below (s₁.setTop (entryFrame m #[(.ref a1), (.ref ca), (.int (0 : Int32)), (.int (0 : Int32)), .null] 6)) t := fun t k => castTop (ef_149e m a1 ca (0 : Int32) (0 : Int32)) k
  have hS : s.Since s.vm 0 := (State.WarmedH.refl s).since 0
  have hk : 0 ≤ h0.size := Nat.zero_le _
  have wS : ∀ a ∈ Bundle.stringAtoms, a.before a0 Z = true := own_wS hw
  have hEL := own_EW hw
  have cn1 := fun (t : State) (kt : Steps p.tables e below (s₁.setTop (mkF m 1 #[.val (.ref a1), .val (.ref ca), .val (.int (0 : Int32)), .val (.int (0 : Int32)), .val .null, .unset] [(.ref a1)])) t) => pre0 t (by
    refine XS.aloadN X0.here hx rfl (hb hby d3_0) rfl rfl ?_
    show Steps p.tables e below (s₁.setTop (mkF m 1 #[.val (.ref a1), .val (.ref ca), .val (.int (0 : Int32)), .val (.int (0 : Int32)), .val .null, .unset] [(.ref a1)])) _
    exact kt)
  obtain ⟨T2, X2, e2, st2⟩ := initO X0 hx hZ hown (hw _ (List.mem_of_getElem? (i := 17) rfl)) (hw _ (List.mem_of_getElem? (i := 18) rfl)) (hw _ (List.mem_of_getElem? (i := 19) rfl)) e0 (g := (mkF m 1 #[.val (.ref a1), .val (.ref ca), .val (.int (0 : Int32)), .val (.int (0 : Int32)), .val .null, .unset] [(.ref a1)])) rfl (by rw [hml]; rfl) rfl (hb hby d3_1) (by decide) (W := 0) (by show 2 * 0 + _ ≤ _; exact Nat.le_of_eq rfl) (by decide)
  have cn3 := fun (t : State) (kt : Steps p.tables e below (T2.setTop (mkF m 5 #[.val (.ref a1), .val (.ref ca), .val (.int (0 : Int32)), .val (.int (0 : Int32)), .val .null, .unset] [(.int (0 : Int32))])) t) => cn1 t (by
    refine st2 _ ?_
    show Steps p.tables e below (T2.setTop (mkF m 4 #[.val (.ref a1), .val (.ref ca), .val (.int (0 : Int32)), .val (.int (0 : Int32)), .val .null, .unset] [])) _
    refine XS.iloadN X2.here hx rfl (hb hby d3_4) rfl ?_
    show Steps p.tables e below (T2.setTop (mkF m 5 #[.val (.ref a1), .val (.ref ca), .val (.int (0 : Int32)), .val (.int (0 : Int32)), .val .null, .unset] [(.int (0 : Int32))])) _
    exact kt)
  have cn4 := fun (t : State) (kt : Steps p.tables e below (T2.setTop (mkF m 9 #[.val (.ref a1), .val (.ref ca), .val (.int (0 : Int32)), .val (.int (0 : Int32)), .val .null, .unset] [(.ref a1)])) t) => cn3 t (by
    refine XS.ifNo X2.here hx rfl (hb hby d3_5) rfl ((if0 _ _).trans (teq (by decide : (0 : Int32) = (0 : Int32))).2) ?_
    show Steps p.tables e below (T2.setTop (mkF m 8 #[.val (.ref a1), .val (.ref ca), .val (.int (0 : Int32)), .val (.int (0 : Int32)), .val .null, .unset] [])) _
    refine XS.aloadN X2.here hx rfl (hb hby d3_8) rfl rfl ?_
    show Steps p.tables e below (T2.setTop (mkF m 9 #[.val (.ref a1), .val (.ref ca), .val (.int (0 : Int32)), .val (.int (0 : Int32)), .val .null, .unset] [(.ref a1)])) _
    exact kt)
  obtain ⟨b5, T5, h5, k15, c5x, kc5, X5, e5, E5, hS, hk, hZ, hown, A5, Fcoder_5, Fvalue_5, V5, lta5, ltb5, CR5, Li5, hne5, st5⟩ := ldcCH (s := s) X2 hx hZ hown (hw _ (List.mem_of_getElem? (i := 104) rfl)) wS e2 hS hk hEL (List.mem_of_getElem? (i := 0) rfl) CH (vs := []) (z := (0 : Int32)) ⟨by decide, rfl⟩ (by decide) rfl (g := (mkF m 9 #[.val (.ref a1), .val (.ref ca), .val (.int (0 : Int32)), .val (.int (0 : Int32)), .val .null, .unset] [(.ref a1)])) rfl (hb hby d3_9) (n := 0) (by decide) (by decide) (by decide) (by decide)
  have CH := CR5.1
  have E_a1_e5 := E_a1.ext E5
  have Fvalue_e5 := Fvalue.ext E5
  have Fcoder_e5 := Fcoder.ext E5
  have A_ca_e5 := A_ca.ext E5
  have O5 := O0.ext E5
  have K5 : Keep h0 h5 [a1] := (Keep.refl h0 [a1]).ext E5
  have nel5 : a1 ≠ b5 := Fld.ne Fvalue_e5 Fvalue_5 (fun q => nomatch q)
  have nec5 : a1 ≠ c5x := Exa.neArv E_a1_e5 V5 (hw _ (List.mem_of_getElem? (i := 8) rfl))
  have cn6 := fun (t : State) (kt : Steps p.tables e below (T5.setTop (mkF m 11 #[.val (.ref a1), .val (.ref ca), .val (.int (0 : Int32)), .val (.int (0 : Int32)), .val .null, .unset] [(.ref b5), (.ref a1)])) t) => cn4 t (by
    refine st5 _ ?_
    show Steps p.tables e below (T5.setTop (mkF m 11 #[.val (.ref a1), .val (.ref ca), .val (.int (0 : Int32)), .val (.int (0 : Int32)), .val .null, .unset] [(.ref b5), (.ref a1)])) _
    exact kt)
  obtain ⟨T7, X7, e7, st7⟩ := getF X5 hx hZ hown (host := "") (Or.inl (hw _ (List.mem_of_getElem? (i := 34) rfl))) Via.refl e5 Fvalue_5 (g := (mkF m 11 #[.val (.ref a1), .val (.ref ca), .val (.int (0 : Int32)), .val (.int (0 : Int32)), .val .null, .unset] [(.ref b5), (.ref a1)])) rfl rfl (hb hby d3_11)
  have cn8 := fun (t : State) (kt : Steps p.tables e below (T7.setTop (mkF m 14 #[.val (.ref a1), .val (.ref ca), .val (.int (0 : Int32)), .val (.int (0 : Int32)), .val .null, .unset] [(.ref c5x), (.ref a1)])) t) => cn6 t (by
    refine st7 _ ?_
    show Steps p.tables e below (T7.setTop (mkF m 14 #[.val (.ref a1), .val (.ref ca), .val (.int (0 : Int32)), .val (.int (0 : Int32)), .val .null, .unset] [(.ref c5x), (.ref a1)])) _
    exact kt)
  obtain ⟨T9, h9, X9, e9, W9, st9⟩ := putF X7 hx hZ hown (host := "") (Or.inl (hw _ (List.mem_of_getElem? (i := 34) rfl))) Via.refl e7 Fvalue_e5 E_a1_e5 (Or.inr ⟨(hw _ (List.mem_of_getElem? (i := 35) rfl)), rfl, hnm⟩) (hw _ (List.mem_of_getElem? (i := 8) rfl)) (ty := (.array .byte)) (by decide) rfl rfl (g := (mkF m 14 #[.val (.ref a1), .val (.ref ca), .val (.int (0 : Int32)), .val (.int (0 : Int32)), .val .null, .unset] [(.ref c5x), (.ref a1)])) rfl rfl (hb hby d3_14)
  have E_a1_e9 := E_a1_e5.wr W9
  have Fcoder_e9 := Fcoder_e5.other W9 (Or.inr (slot_ne (Or.inr (hw _ (List.mem_of_getElem? (i := 33) rfl))) (Or.inr (hw _ (List.mem_of_getElem? (i := 35) rfl))) (by decide) (t := .byte) (t' := (.array .byte)) (by decide) (by decide)))
  have A_ca_e9 := A_ca_e5.other W9 (Ne.symm neac)
  have A5_e9 := A5.wr W9
  have Fcoder_5_e9 := Fcoder_5.other W9 (Or.inl (Ne.symm nel5))
  have Fvalue_5_e9 := Fvalue_5.other W9 (Or.inl (Ne.symm nel5))
  have V5_e9 := V5.other W9 (Ne.symm nec5)
  have N9 := Fr.snoc X9 N0 g_a1
  have O9 := O5.wr W9 g_a1
  have hk := Nat.le_trans hk (Nat.le_of_eq W9.size.symm)
  have K9 : Keep h0 h9 [a1] := K5.wr W9 (Or.inl (List.mem_of_getElem? (i := 0) rfl))
  have Fvalue_9 := Fvalue_e5.same W9
  have cn10 := fun (t : State) (kt : Steps p.tables e below (T9.setTop (mkF m 20 #[.val (.ref a1), .val (.ref ca), .val (.int (0 : Int32)), .val (.int (0 : Int32)), .val .null, .unset] [(.ref b5), (.ref a1)])) t) => cn8 t (by
    refine st9 _ ?_
    show Steps p.tables e below (T9.setTop (mkF m 17 #[.val (.ref a1), .val (.ref ca), .val (.int (0 : Int32)), .val (.int (0 : Int32)), .val .null, .unset] [])) _
    refine XS.aloadN X9.here hx rfl (hb hby d3_17) rfl rfl ?_
    show Steps p.tables e below (T9.setTop (mkF m 18 #[.val (.ref a1), .val (.ref ca), .val (.int (0 : Int32)), .val (.int (0 : Int32)), .val .null, .unset] [(.ref a1)])) _
    refine ldcAgain X9 hx hZ hown (hw _ (List.mem_of_getElem? (i := 104) rfl)) Li5 (g := (mkF m 18 #[.val (.ref a1), .val (.ref ca), .val (.int (0 : Int32)), .val (.int (0 : Int32)), .val .null, .unset] [(.ref a1)])) rfl (hb hby d3_18) _ ?_
    show Steps p.tables e below (T9.setTop (mkF m 20 #[.val (.ref a1), .val (.ref ca), .val (.int (0 : Int32)), .val (.int (0 : Int32)), .val .null, .unset] [(.ref b5), (.ref a1)])) _
    exact kt)
  obtain ⟨T11, X11, e11, st11⟩ := getF X9 hx hZ hown (host := "") (Or.inl (hw _ (List.mem_of_getElem? (i := 32) rfl))) Via.refl e9 Fcoder_5_e9 (g := (mkF m 20 #[.val (.ref a1), .val (.ref ca), .val (.int (0 : Int32)), .val (.int (0 : Int32)), .val .null, .unset] [(.ref b5), (.ref a1)])) rfl rfl (hb hby d3_20)
  have cn12 := fun (t : State) (kt : Steps p.tables e below (T11.setTop (mkF m 23 #[.val (.ref a1), .val (.ref ca), .val (.int (0 : Int32)), .val (.int (0 : Int32)), .val .null, .unset] [(.int (0 : Int32)), (.ref a1)])) t) => cn10 t (by
    refine st11 _ ?_
    show Steps p.tables e below (T11.setTop (mkF m 23 #[.val (.ref a1), .val (.ref ca), .val (.int (0 : Int32)), .val (.int (0 : Int32)), .val .null, .unset] [(.int (0 : Int32)), (.ref a1)])) _
    exact kt)
  obtain ⟨T13, h13, X13, e13, W13, st13⟩ := putFN X11 hx hZ hown (hw _ (List.mem_of_getElem? (i := 32) rfl)) Via.refl e11 Fcoder_e9 E_a1_e9 (Or.inr ⟨(hw _ (List.mem_of_getElem? (i := 33) rfl)), rfl, hnm⟩) (hw _ (List.mem_of_getElem? (i := 8) rfl)) (ty := .byte) (v' := (.int (0 : Int32))) (by decide) rfl rfl (g := (mkF m 23 #[.val (.ref a1), .val (.ref ca), .val (.int (0 : Int32)), .val (.int (0 : Int32)), .val .null, .unset] [(.int (0 : Int32)), (.ref a1)])) rfl rfl (hb hby d3_23)
  have E_a1_e13 := E_a1_e9.wr W13
  have Fvalue_9_e13 := Fvalue_9.other W13 (Or.inr (slot_ne (Or.inr (hw _ (List.mem_of_getElem? (i := 35) rfl))) (Or.inr (hw _ (List.mem_of_getElem? (i := 33) rfl))) (by decide) (t := (.array .byte)) (t' := .byte) (by decide) (by decide)))
  have A_ca_e13 := A_ca_e9.other W13 (Ne.symm neac)
  have A5_e13 := A5_e9.wr W13
  have Fcoder_5_e13 := Fcoder_5_e9.other W13 (Or.inl (Ne.symm nel5))
  have Fvalue_5_e13 := Fvalue_5_e9.other W13 (Or.inl (Ne.symm nel5))
  have V5_e13 := V5_e9.other W13 (Ne.symm nec5)
  have N13 := Fr.snoc X13 N9 g_a1
  have O13 := O9.wr W13 g_a1
  have hk := Nat.le_trans hk (Nat.le_of_eq W13.size.symm)
  have K13 : Keep h0 h13 [a1] := K9.wr W13 (Or.inl (List.mem_of_getElem? (i := 0) rfl))
  have Fcoder_13 := Fcoder_e9.same W13
  have cn14 := fun (t : State) (kt : Steps p.tables e below (T13.setTop (mkF m 26 #[.val (.ref a1), .val (.ref ca), .val (.int (0 : Int32)), .val (.int (0 : Int32)), .val .null, .unset] [])) t) => cn12 t (by
    refine st13 _ ?_
    show Steps p.tables e below (T13.setTop (mkF m 26 #[.val (.ref a1), .val (.ref ca), .val (.int (0 : Int32)), .val (.int (0 : Int32)), .val .null, .unset] [])) _
    exact kt)
  obtain ⟨frs, hr, hrun, hended, hRW⟩ := X13.leaveW hS (by rw [e13]; exact hk) (v := none) (fun _ => rfl)
  refine ⟨_, _, cn14 _ ?_, hrun, hended, _, _, rfl, ?_, hRW.1, hRW.2.1, hRW.2.2.1, hRW.2.2.2.mono (by decide) (by decide)⟩
  · exact X13.returnOut hx Bd.returns (hb hby d3_26) hr
  · show QST Z a1 [] h0 n0 _ T13.heap _
    rw [e13]
    exact ⟨rfl, N13, K13, c5x, _, _, 0, E_a1_e13, Fvalue_9_e13, Fcoder_13, Or.inl ⟨rfl, AF.of_arv V5_e13 rfl, fun j hj => absurd hj (Nat.not_lt_zero j)⟩⟩

theorem ef_3e (m : MethodId) (x0 : Addr) (x1 : Addr) : entryFrame m #[(.ref x0), (.ref x1)] 2 = mkF m 0 #[.val (.ref x0), .val (.ref x1)] [] := by first | (simp [entryFrame, mkF, argsToLocals, Value.category]; done) | rfl
set_option maxRecDepth 65536 in
set_option maxHeartbeats 40000000 in
theorem rm3e (l : Launch) (Z : State) (a0 : Array Value) (hw : ∀ d ∈ tables_1, d.before a0 Z = true) (ws : List Jvm.Cond) (a1 ca : Addr) (kc : ClassId) (fc : Nat → Value) (h0 : Heap) (n0 : Nat) (O0 : Old Z n0 h0) (g_a1 : n0 ≤ a1) (E_a1 : Exa Z h0 a1 "java/lang/String") (Fvalue : Fld Z h0 a1 "java/lang/String" "value" "[B" .null) (Fcoder : Fld Z h0 a1 "java/lang/String" "coder" "B" (.int (0 : Int32))) (neac : a1 ≠ ca) (A_ca : AF Z h0 ca kc .char 0 fc) :
    MetFree l (⟨"java/lang/String", "<init>", "([C)V"⟩ : MethodName) (head1 (Jvm.Cond.code (⟨"java/lang/String", "<init>", "([C)V"⟩ : MethodName) jdk_42_method_3_code 2 none :: ws) ({ frames := 2, cells := 2, slots := 4, locals := 29 } : Room)) (fun aQ U => aQ = #[(.ref a1), (.ref ca)] ∧ Z.Warmed39 U.vm ∧ U.heap = h0 ∧ CHv Z consts_1 U.vm h0) (fun _ _ _ _ _ => True) (fun _ U o U' => ∃ v L, o = .returned v ∧ QST Z a1 [] h0 n0 v U'.heap L ∧ ReturnedEndW U o U' L ({ frames := 2, cells := 2, slots := 4, locals := 29 } : Room).cells ({ frames := 2, cells := 2, slots := 4, locals := 29 } : Room).slots) := by
  refine MetFree.of_bodySF (plainFor_of_name pn_java_lang_String) hisR ?_
  intro p e s m args below meth kode s₁ Bd hml0 hP hK
  obtain ⟨rfl, hZ, hh, CH⟩ := hP
  have hx := Bd.exec
  have hby := Bd.bytes
  have hml : kode.maxLocals = 2 := hml0
  have hown : s.vm.findClass "java/lang/String" = some m.cls := findClass_of_methodNamed Bd.named
  have hnm := (name_of_methodNamed Bd.named Bd.method).1
  have X0 : Stand p l e ({ frames := 2, cells := 2, slots := 4, locals := 29 } : Room) (s.setVm s.vm) m #[(.ref a1), (.ref ca)] below meth kode s₁ [] 0 0 := Stand.of_body Bd
  have e0 : s₁.heap = h0 := by rw [← hh, Bd.state]; rfl
  have N0 := Fr.nil n0
  have pre0 : ∀ t, Steps p.tables e below (s₁.setTop (mkF m 0 #[.val (.ref a1), .val (.ref ca)] [])) t → Steps p.tables e below (s₁.setTop (entryFrame m #[(.ref a1), (.ref ca)] 2)) t := fun t k => castTop (ef_3e m a1 ca) k
  have hS : s.Since s.vm 0 := (State.WarmedH.refl s).since 0
  have hk : 0 ≤ h0.size := Nat.zero_le _
  have wS : ∀ a ∈ Bundle.stringAtoms, a.before a0 Z = true := own_wS hw
  have hEL := own_EW hw
  have cn1 := fun (t : State) (kt : Steps p.tables e below (s₁.setTop (mkF m 4 #[.val (.ref a1), .val (.ref ca)] [(.ref ca), (.int (0 : Int32)), (.ref ca), (.ref a1)])) t) => pre0 t (by
    refine XS.aloadN X0.here hx rfl (hb hby d2_0) rfl rfl ?_
    show Steps p.tables e below (s₁.setTop (mkF m 1 #[.val (.ref a1), .val (.ref ca)] [(.ref a1)])) _
    refine XS.aloadN X0.here hx rfl (hb hby d2_1) rfl rfl ?_
    show Steps p.tables e below (s₁.setTop (mkF m 2 #[.val (.ref a1), .val (.ref ca)] [(.ref ca), (.ref a1)])) _
    refine XS.iconst X0.here hx rfl (hb hby d2_2) ?_
    show Steps p.tables e below (s₁.setTop (mkF m 3 #[.val (.ref a1), .val (.ref ca)] [(.int (0 : Int32)), (.ref ca), (.ref a1)])) _
    refine XS.aloadN X0.here hx rfl (hb hby d2_3) rfl rfl ?_
    show Steps p.tables e below (s₁.setTop (mkF m 4 #[.val (.ref a1), .val (.ref ca)] [(.ref ca), (.int (0 : Int32)), (.ref ca), (.ref a1)])) _
    exact kt)
  have AFx2 := A_ca
  obtain ⟨cl2, Ar2, q2, S2, H2⟩ := AFx2
  have cn3 := fun (t : State) (kt : Steps p.tables e below (s₁.setTop (mkF m 6 #[.val (.ref a1), .val (.ref ca)] [.null, (.int (Nat.toInt32 0)), (.int (0 : Int32)), (.ref ca), (.ref a1)])) t) => cn1 t (by
    refine X0.arraylength hx (by rw [e0]; exact Ar2.1) (State.isArrayOf_alike hZ.alike Ar2.2.1) (g := (mkF m 4 #[.val (.ref a1), .val (.ref ca)] [(.ref ca), (.int (0 : Int32)), (.ref ca), (.ref a1)])) rfl rfl (hb hby d2_4) _ ?_
    rw [S2]
    show Steps p.tables e below (s₁.setTop (mkF m 5 #[.val (.ref a1), .val (.ref ca)] [(.int (Nat.toInt32 0)), (.int (0 : Int32)), (.ref ca), (.ref a1)])) _
    refine XS.aconstNull X0.here hx rfl (hb hby d2_5) ?_
    show Steps p.tables e below (s₁.setTop (mkF m 6 #[.val (.ref a1), .val (.ref ca)] [.null, (.int (Nat.toInt32 0)), (.int (0 : Int32)), (.ref ca), (.ref a1)])) _
    exact kt)
  obtain ⟨_, _, ⟨T4, L4, k4, n4⟩, -, X4, hSq4, hgr4, ⟨Lc4, hQ4, l4, y4, z4⟩, st4⟩ := X0.specialBackS hx (y := (⟨"java/lang/String", "<init>", "([CIILjava/lang/Void;)V"⟩ : MethodName)) rfl hown (mvT hZ (hw _ (List.mem_of_getElem? (i := 13) rfl))) (mvT hZ (hw _ (List.mem_of_getElem? (i := 14) rfl))) (mvT hZ (hw _ (List.mem_of_getElem? (i := 16) rfl))) (by decide) (own_backC (s := s) (W := 0) (rm149e l Z a0 hw [] a1 ca kc fc h0 n0 O0 g_a1 E_a1 Fvalue Fcoder neac A_ca) hZ (hw _ (List.mem_of_getElem? (i := 16) rfl)) (hw _ (List.mem_of_getElem? (i := 9) rfl)) (by decide) (by decide) hEL CH) (g := (mkF m 6 #[.val (.ref a1), .val (.ref ca)] [.null, (.int (Nat.toInt32 0)), (.int (0 : Int32)), (.ref ca), (.ref a1)])) rfl (by rw [hml]; rfl) (Steps.refl _) (a := a1) (argsL := [(.ref ca), (.int (0 : Int32)), (.int (Nat.toInt32 0)), .null]) (rest := []) (lenOf pd_7 rfl) rfl (by show 2 * 0 + _ ≤ _; exact Nat.le_of_eq rfl) (hb hby d2_6) (fun _ _ => ⟨rfl, e0, (by decide : 0 + 2 ≤ _), (by decide : 0 + 4 ≤ _)⟩)
  dsimp only [Pt.U, Pt.locs, Pt.cells, Pt.slots] at X4 hSq4 hgr4 l4 y4 z4 st4 hQ4
  subst l4 y4 z4
  obtain ⟨X4, hS, hZ, hown⟩ := rebS hS (by rw [e0]; exact hk) X4 hSq4 hgr4 hZ hown
  have hk := Nat.le_refl T4.heap.size
  obtain ⟨rfl, Nq4, Kq4, b4x, kb4, fb4, cd4, SS4⟩ := hQ4
  have N4 := Fr.app N0 Nq4
  have K4 := Kq4
  have E_a1_e4 := E_a1.keep K4
  have A_ca_e4 := A_ca.keep K4 (ninS (Ne.symm neac) nin0)
  have O4 := O0.keep K4 (allS g_a1 all0)
  have KK4 : Keep h0 T4.heap [a1] := (Keep.refl h0 [a1]).trans K4 (allS (Or.inl (List.mem_of_getElem? (i := 0) rfl)) all0)
  have cn5 := fun (t : State) (kt : Steps p.tables e below (T4.setTop (mkF m 9 #[.val (.ref a1), .val (.ref ca)] [])) t) => cn3 t (by
    refine st4.trans ?_
    show Steps p.tables e below (T4.setTop (mkF m 9 #[.val (.ref a1), .val (.ref ca)] [])) _
    exact kt)
  obtain ⟨frs, hr, hrun, hended, hRW⟩ := X4.leaveW hS hk (v := none) (fun _ => rfl)
  refine ⟨_, _, cn5 _ ?_, hrun, hended, _, _, rfl, ?_, hRW.1, hRW.2.1, hRW.2.2.1, hRW.2.2.2.mono (by decide) (by decide)⟩
  · exact X4.returnOut hx Bd.returns (hb hby d2_9) hr
  · show QST Z a1 [] h0 n0 _ T4.heap _
    exact ⟨rfl, N4, KK4, _, _, _, _, SS4⟩

theorem d1_0 : decode method_2_code 0 = .ok (.iload_n 0, 1) := by decide +kernel
theorem d1_1 : decode method_2_code 1 = .ok (.istore_n 1, 1) := by decide +kernel
theorem d1_2 : decode method_2_code 2 = .ok (.iload_n 1, 1) := by decide +kernel
theorem d1_3 : decode method_2_code 3 = .ok (.ifCond .ne 5, 3) := by decide +kernel
theorem d1_6 : decode method_2_code 6 = .ok (.iconst 2, 1) := by decide +kernel
theorem d1_7 : decode method_2_code 7 = .ok (.ireturn, 1) := by decide +kernel
theorem d1_8 : decode method_2_code 8 = .ok (.iload_n 1, 1) := by decide +kernel
theorem d1_9 : decode method_2_code 9 = .ok (.bipush 127, 2) := by decide +kernel
theorem d1_11 : decode method_2_code 11 = .ok (.if_icmp .gt 5, 3) := by decide +kernel
theorem d1_14 : decode method_2_code 14 = .ok (.iconst 1, 1) := by decide +kernel
theorem d1_15 : decode method_2_code 15 = .ok (.ireturn, 1) := by decide +kernel
theorem d1_16 : decode method_2_code 16 = .ok (.iload_n 1, 1) := by decide +kernel
theorem d1_17 : decode method_2_code 17 = .ok (.sipush 2047, 3) := by decide +kernel
theorem d1_20 : decode method_2_code 20 = .ok (.if_icmp .gt 5, 3) := by decide +kernel
theorem d1_23 : decode method_2_code 23 = .ok (.iconst 2, 1) := by decide +kernel
theorem d1_24 : decode method_2_code 24 = .ok (.ireturn, 1) := by decide +kernel
theorem d1_25 : decode method_2_code 25 = .ok (.iconst 3, 1) := by decide +kernel
theorem d1_26 : decode method_2_code 26 = .ok (.ireturn, 1) := by decide +kernel
theorem pn_com_example_idlsmith_idlsmith_javasource_ClassFileModifiedUtf8PinLaw : plainName "com/example/idlsmith/idlsmith/javasource/ClassFileModifiedUtf8PinLaw" = true := by first | (simp [plainName, overriddenIn]; done) | decide +kernel
theorem ef_1 (m : MethodId) (x0 : Int32) : entryFrame m #[(.int x0)] 2 = mkF m 0 #[.val (.int x0), .unset] [] := by first | (simp [entryFrame, mkF, argsToLocals, Value.category]; done) | rfl
set_option maxRecDepth 65536 in
set_option maxHeartbeats 40000000 in
theorem rm1 (l : Launch) (Z : State) (a0 : Array Value) (hw : ∀ d ∈ tables_1, d.before a0 Z = true) (ws : List Jvm.Cond) (c : Int32) (h0 : Heap) (n0 : Nat) (O0 : Old Z n0 h0)  :
    MetFree l (⟨"com/example/idlsmith/idlsmith/javasource/ClassFileModifiedUtf8PinLaw", "bytesOf", "(C)I"⟩ : MethodName) (head1 (Jvm.Cond.code (⟨"com/example/idlsmith/idlsmith/javasource/ClassFileModifiedUtf8PinLaw", "bytesOf", "(C)I"⟩ : MethodName) method_2_code 2 (some .int) :: ws) ({ frames := 0, cells := 0, slots := 0, locals := 0 } : Room)) (fun aQ U => aQ = #[(.int c)] ∧ Z.Warmed39 U.vm ∧ U.heap = h0) (fun _ _ _ _ _ => True) (fun _ U o U' => ∃ v L, o = .returned v ∧ QI (own_bo c) h0 n0 v U'.heap L ∧ FrameEnd U o U' L ({ frames := 0, cells := 0, slots := 0, locals := 0 } : Room).cells ({ frames := 0, cells := 0, slots := 0, locals := 0 } : Room).slots) := by
  refine MetFree.of_bodySF (plainFor_of_name pn_com_example_idlsmith_idlsmith_javasource_ClassFileModifiedUtf8PinLaw) hisR ?_
  intro p e s m args below meth kode s₁ Bd hml0 hP hK
  obtain ⟨rfl, hZ, hh⟩ := hP
  have hx := Bd.exec
  have hby := Bd.bytes
  have hml : kode.maxLocals = 2 := hml0
  have hown : s.vm.findClass "com/example/idlsmith/idlsmith/javasource/ClassFileModifiedUtf8PinLaw" = some m.cls := findClass_of_methodNamed Bd.named
  have hnm := (name_of_methodNamed Bd.named Bd.method).1
  have X0 : Stand p l e ({ frames := 0, cells := 0, slots := 0, locals := 0 } : Room) s m #[(.int c)] below meth kode s₁ [] 0 0 := Stand.of_body Bd
  have e0 : s₁.heap = h0 := by rw [← hh, Bd.state]; rfl
  have N0 := Fr.nil n0
  have pre0 : ∀ t, Steps p.tables e below (s₁.setTop (mkF m 0 #[.val (.int c), .unset] [])) t → Steps p.tables e below (s₁.setTop (entryFrame m #[(.int c)] 2)) t := fun t k => castTop (ef_1 m c) k
  have cn1 := fun (t : State) (kt : Steps p.tables e below (s₁.setTop (mkF m 3 #[.val (.int c), .val (.int c)] [(.int c)])) t) => pre0 t (by
    refine XS.iloadN X0.here hx rfl (hb hby d1_0) rfl ?_
    show Steps p.tables e below (s₁.setTop (mkF m 1 #[.val (.int c), .unset] [(.int c)])) _
    refine XS.istoreN X0.here hx rfl (hb hby d1_1) rfl (l' := #[.val (.int c), .val (.int c)]) rfl ?_
    show Steps p.tables e below (s₁.setTop (mkF m 2 #[.val (.int c), .val (.int c)] [])) _
    refine XS.iloadN X0.here hx rfl (hb hby d1_2) rfl ?_
    show Steps p.tables e below (s₁.setTop (mkF m 3 #[.val (.int c), .val (.int c)] [(.int c)])) _
    exact kt)
  by_cases hc3_2 : c = (0 : Int32)
  · have cn3 := fun (t : State) (kt : Steps p.tables e below (s₁.setTop (mkF m 7 #[.val (.int c), .val (.int c)] [(.int (2 : Int32))])) t) => cn1 t (by
      refine XS.ifNo X0.here hx rfl (hb hby d1_3) rfl ((if0 _ _).trans (teq hc3_2).2) ?_
      show Steps p.tables e below (s₁.setTop (mkF m 6 #[.val (.int c), .val (.int c)] [])) _
      refine XS.iconst X0.here hx rfl (hb hby d1_6) ?_
      show Steps p.tables e below (s₁.setTop (mkF m 7 #[.val (.int c), .val (.int c)] [(.int (2 : Int32))])) _
      exact kt)
    obtain ⟨frs, hr, hrun, hended, hW, hsame⟩ := X0.leave (v := some (.int (2 : Int32))) (fun h => by rw [Bd.returns] at h; cases h)
    refine ⟨_, _, cn3 _ ?_, hrun, hended, _, _, rfl, ?_, ⟨_, rfl⟩, hW, hsame.mono (by decide) (by decide)⟩
    · exact retI X0 hx Bd.returns (hb hby d1_7) hr
    · show QI (own_bo c) h0 n0 _ s₁.heap _
      rw [e0]
      exact ⟨by unfold own_bo; rw [if_pos hc3_2], N0, rfl⟩
  · have cn4 := fun (t : State) (kt : Steps p.tables e below (s₁.setTop (mkF m 11 #[.val (.int c), .val (.int c)] [(.int (127 : Int32)), (.int c)])) t) => cn1 t (by
      refine XS.ifYes X0.here hx rfl (pc0 := 3) (pc' := 8) rfl (hb hby d1_3) rfl ((if0 _ _).trans (feq hc3_2).2) (by decide) (by decide) ?_
      show Steps p.tables e below (s₁.setTop (mkF m 8 #[.val (.int c), .val (.int c)] [])) _
      refine XS.iloadN X0.here hx rfl (hb hby d1_8) rfl ?_
      show Steps p.tables e below (s₁.setTop (mkF m 9 #[.val (.int c), .val (.int c)] [(.int c)])) _
      refine XS.bipush X0.here hx rfl (hb hby d1_9) ?_
      show Steps p.tables e below (s₁.setTop (mkF m 11 #[.val (.int c), .val (.int c)] [(.int (127 : Int32)), (.int c)])) _
      exact kt)
    by_cases hc11_5 : (127 : Int32) < c
    · have cn6 := fun (t : State) (kt : Steps p.tables e below (s₁.setTop (mkF m 20 #[.val (.int c), .val (.int c)] [(.int (2047 : Int32)), (.int c)])) t) => cn4 t (by
        refine XS.icmpYes X0.here hx rfl (pc0 := 11) (pc' := 16) rfl (hb hby d1_11) rfl (tlt hc11_5).2.2.1 (by decide) (by decide) ?_
        show Steps p.tables e below (s₁.setTop (mkF m 16 #[.val (.int c), .val (.int c)] [])) _
        refine XS.iloadN X0.here hx rfl (hb hby d1_16) rfl ?_
        show Steps p.tables e below (s₁.setTop (mkF m 17 #[.val (.int c), .val (.int c)] [(.int c)])) _
        refine XS.sipush X0.here hx rfl (hb hby d1_17) ?_
        show Steps p.tables e below (s₁.setTop (mkF m 20 #[.val (.int c), .val (.int c)] [(.int (2047 : Int32)), (.int c)])) _
        exact kt)
      by_cases hc20_7 : (2047 : Int32) < c
      · have cn8 := fun (t : State) (kt : Steps p.tables e below (s₁.setTop (mkF m 26 #[.val (.int c), .val (.int c)] [(.int (3 : Int32))])) t) => cn6 t (by
          refine XS.icmpYes X0.here hx rfl (pc0 := 20) (pc' := 25) rfl (hb hby d1_20) rfl (tlt hc20_7).2.2.1 (by decide) (by decide) ?_
          show Steps p.tables e below (s₁.setTop (mkF m 25 #[.val (.int c), .val (.int c)] [])) _
          refine XS.iconst X0.here hx rfl (hb hby d1_25) ?_
          show Steps p.tables e below (s₁.setTop (mkF m 26 #[.val (.int c), .val (.int c)] [(.int (3 : Int32))])) _
          exact kt)
        obtain ⟨frs, hr, hrun, hended, hW, hsame⟩ := X0.leave (v := some (.int (3 : Int32))) (fun h => by rw [Bd.returns] at h; cases h)
        refine ⟨_, _, cn8 _ ?_, hrun, hended, _, _, rfl, ?_, ⟨_, rfl⟩, hW, hsame.mono (by decide) (by decide)⟩
        · exact retI X0 hx Bd.returns (hb hby d1_26) hr
        · show QI (own_bo c) h0 n0 _ s₁.heap _
          rw [e0]
          exact ⟨by unfold own_bo; rw [if_neg hc3_2, if_pos hc11_5, if_pos hc20_7], N0, rfl⟩
      · have cn9 := fun (t : State) (kt : Steps p.tables e below (s₁.setTop (mkF m 24 #[.val (.int c), .val (.int c)] [(.int (2 : Int32))])) t) => cn6 t (by
          refine XS.icmpNo X0.here hx rfl (hb hby d1_20) rfl (flt hc20_7).2.2.1 ?_
          show Steps p.tables e below (s₁.setTop (mkF m 23 #[.val (.int c), .val (.int c)] [])) _
          refine XS.iconst X0.here hx rfl (hb hby d1_23) ?_
          show Steps p.tables e below (s₁.setTop (mkF m 24 #[.val (.int c), .val (.int c)] [(.int (2 : Int32))])) _
          exact kt)
        obtain ⟨frs, hr, hrun, hended, hW, hsame⟩ := X0.leave (v := some (.int (2 : Int32))) (fun h => by rw [Bd.returns] at h; cases h)
        refine ⟨_, _, cn9 _ ?_, hrun, hended, _, _, rfl, ?_, ⟨_, rfl⟩, hW, hsame.mono (by decide) (by decide)⟩
        · exact retI X0 hx Bd.returns (hb hby d1_24) hr
        · show QI (own_bo c) h0 n0 _ s₁.heap _
          rw [e0]
          exact ⟨by unfold own_bo; rw [if_neg hc3_2, if_pos hc11_5, if_neg hc20_7], N0, rfl⟩
    · have cn10 := fun (t : State) (kt : Steps p.tables e below (s₁.setTop (mkF m 15 #[.val (.int c), .val (.int c)] [(.int (1 : Int32))])) t) => cn4 t (by
        refine XS.icmpNo X0.here hx rfl (hb hby d1_11) rfl (flt hc11_5).2.2.1 ?_
        show Steps p.tables e below (s₁.setTop (mkF m 14 #[.val (.int c), .val (.int c)] [])) _
        refine XS.iconst X0.here hx rfl (hb hby d1_14) ?_
        show Steps p.tables e below (s₁.setTop (mkF m 15 #[.val (.int c), .val (.int c)] [(.int (1 : Int32))])) _
        exact kt)
      obtain ⟨frs, hr, hrun, hended, hW, hsame⟩ := X0.leave (v := some (.int (1 : Int32))) (fun h => by rw [Bd.returns] at h; cases h)
      refine ⟨_, _, cn10 _ ?_, hrun, hended, _, _, rfl, ?_, ⟨_, rfl⟩, hW, hsame.mono (by decide) (by decide)⟩
      · exact retI X0 hx Bd.returns (hb hby d1_15) hr
      · show QI (own_bo c) h0 n0 _ s₁.heap _
        rw [e0]
        exact ⟨by unfold own_bo; rw [if_neg hc3_2, if_neg hc11_5], N0, rfl⟩

theorem d16_0 : decode prog_226_method_61_code 0 = .ok (.iload_n 0, 1) := by decide +kernel
theorem d16_1 : decode prog_226_method_61_code 1 = .ok (.ifCond .eq 14, 3) := by decide +kernel
theorem d16_4 : decode prog_226_method_61_code 4 = .ok (.iload_n 0, 1) := by decide +kernel
theorem d16_5 : decode prog_226_method_61_code 5 = .ok (.sipush 128, 3) := by decide +kernel
theorem d16_8 : decode prog_226_method_61_code 8 = .ok (.if_icmp .ge 7, 3) := by decide +kernel
theorem d16_11 : decode prog_226_method_61_code 11 = .ok (.iconst 1, 1) := by decide +kernel
theorem d16_12 : decode prog_226_method_61_code 12 = .ok (.goto 15, 3) := by decide +kernel
theorem d16_15 : decode prog_226_method_61_code 15 = .ok (.iload_n 0, 1) := by decide +kernel
theorem d16_16 : decode prog_226_method_61_code 16 = .ok (.sipush 2048, 3) := by decide +kernel
theorem d16_19 : decode prog_226_method_61_code 19 = .ok (.if_icmp .ge 7, 3) := by decide +kernel
theorem d16_22 : decode prog_226_method_61_code 22 = .ok (.iconst 2, 1) := by decide +kernel
theorem d16_23 : decode prog_226_method_61_code 23 = .ok (.goto 4, 3) := by decide +kernel
theorem d16_26 : decode prog_226_method_61_code 26 = .ok (.iconst 3, 1) := by decide +kernel
theorem d16_27 : decode prog_226_method_61_code 27 = .ok (.ireturn, 1) := by decide +kernel
theorem pn_com_example_idlsmith_idlsmith_javasource_ClassFile : plainName "com/example/idlsmith/idlsmith/javasource/ClassFile" = true := by first | (simp [plainName, overriddenIn]; done) | decide +kernel
theorem ef_16 (m : MethodId) (x0 : Int32) : entryFrame m #[(.int x0)] 1 = mkF m 0 #[.val (.int x0)] [] := by first | (simp [entryFrame, mkF, argsToLocals, Value.category]; done) | rfl
set_option maxRecDepth 65536 in
set_option maxHeartbeats 40000000 in
theorem rm16 (l : Launch) (Z : State) (a0 : Array Value) (hw : ∀ d ∈ tables_1, d.before a0 Z = true) (ws : List Jvm.Cond) (c : Int32) (h0 : Heap) (n0 : Nat) (O0 : Old Z n0 h0)  :
    MetFree l (⟨"com/example/idlsmith/idlsmith/javasource/ClassFile", "modifiedUtf8", "(C)I"⟩ : MethodName) (head1 (Jvm.Cond.code (⟨"com/example/idlsmith/idlsmith/javasource/ClassFile", "modifiedUtf8", "(C)I"⟩ : MethodName) prog_226_method_61_code 1 (some .int) :: ws) ({ frames := 0, cells := 0, slots := 0, locals := 0 } : Room)) (fun aQ U => aQ = #[(.int c)] ∧ Z.Warmed39 U.vm ∧ U.heap = h0) (fun _ _ _ _ _ => True) (fun _ U o U' => ∃ v L, o = .returned v ∧ QI (own_mu c) h0 n0 v U'.heap L ∧ FrameEnd U o U' L ({ frames := 0, cells := 0, slots := 0, locals := 0 } : Room).cells ({ frames := 0, cells := 0, slots := 0, locals := 0 } : Room).slots) := by
  refine MetFree.of_bodySF (plainFor_of_name pn_com_example_idlsmith_idlsmith_javasource_ClassFile) hisR ?_
  intro p e s m args below meth kode s₁ Bd hml0 hP hK
  obtain ⟨rfl, hZ, hh⟩ := hP
  have hx := Bd.exec
  have hby := Bd.bytes
  have hml : kode.maxLocals = 1 := hml0
  have hown : s.vm.findClass "com/example/idlsmith/idlsmith/javasource/ClassFile" = some m.cls := findClass_of_methodNamed Bd.named
  have hnm := (name_of_methodNamed Bd.named Bd.method).1
  have X0 : Stand p l e ({ frames := 0, cells := 0, slots := 0, locals := 0 } : Room) s m #[(.int c)] below meth kode s₁ [] 0 0 := Stand.of_body Bd
  have e0 : s₁.heap = h0 := by rw [← hh, Bd.state]; rfl
  have N0 := Fr.nil n0
  have pre0 : ∀ t, Steps p.tables e below (s₁.setTop (mkF m 0 #[.val (.int c)] [])) t → Steps p.tables e below (s₁.setTop (entryFrame m #[(.int c)] 1)) t := fun t k => castTop (ef_16 m c) k
  have cn1 := fun (t : State) (kt : Steps p.tables e below (s₁.setTop (mkF m 1 #[.val (.int c)] [(.int c)])) t) => pre0 t (by
    refine XS.iloadN X0.here hx rfl (hb hby d16_0) rfl ?_
    show Steps p.tables e below (s₁.setTop (mkF m 1 #[.val (.int c)] [(.int c)])) _
    exact kt)
  by_cases hc1_2 : c = (0 : Int32)
  · have cn3 := fun (t : State) (kt : Steps p.tables e below (s₁.setTop (mkF m 19 #[.val (.int c)] [(.int (2048 : Int32)), (.int c)])) t) => cn1 t (by
      refine XS.ifYes X0.here hx rfl (pc0 := 1) (pc' := 15) rfl (hb hby d16_1) rfl ((if0 _ _).trans (teq hc1_2).1) (by decide) (by decide) ?_
      show Steps p.tables e below (s₁.setTop (mkF m 15 #[.val (.int c)] [])) _
      refine XS.iloadN X0.here hx rfl (hb hby d16_15) rfl ?_
      show Steps p.tables e below (s₁.setTop (mkF m 16 #[.val (.int c)] [(.int c)])) _
      refine XS.sipush X0.here hx rfl (hb hby d16_16) ?_
      show Steps p.tables e below (s₁.setTop (mkF m 19 #[.val (.int c)] [(.int (2048 : Int32)), (.int c)])) _
      exact kt)
    by_cases hc19_4 : c < (2048 : Int32)
    · have cn5 := fun (t : State) (kt : Steps p.tables e below (s₁.setTop (mkF m 27 #[.val (.int c)] [(.int (2 : Int32))])) t) => cn3 t (by
        refine XS.icmpNo X0.here hx rfl (hb hby d16_19) rfl (tlt hc19_4).2.1 ?_
        show Steps p.tables e below (s₁.setTop (mkF m 22 #[.val (.int c)] [])) _
        refine XS.iconst X0.here hx rfl (hb hby d16_22) ?_
        show Steps p.tables e below (s₁.setTop (mkF m 23 #[.val (.int c)] [(.int (2 : Int32))])) _
        refine XS.goto X0.here hx rfl (pc0 := 23) (pc' := 27) rfl (hb hby d16_23) (by decide) (by decide) ?_
        show Steps p.tables e below (s₁.setTop (mkF m 27 #[.val (.int c)] [(.int (2 : Int32))])) _
        exact kt)
      obtain ⟨frs, hr, hrun, hended, hW, hsame⟩ := X0.leave (v := some (.int (2 : Int32))) (fun h => by rw [Bd.returns] at h; cases h)
      refine ⟨_, _, cn5 _ ?_, hrun, hended, _, _, rfl, ?_, ⟨_, rfl⟩, hW, hsame.mono (by decide) (by decide)⟩
      · exact retI X0 hx Bd.returns (hb hby d16_27) hr
      · show QI (own_mu c) h0 n0 _ s₁.heap _
        rw [e0]
        exact ⟨by unfold own_mu; rw [if_pos hc1_2, if_pos hc19_4], N0, rfl⟩
    · have cn6 := fun (t : State) (kt : Steps p.tables e below (s₁.setTop (mkF m 27 #[.val (.int c)] [(.int (3 : Int32))])) t) => cn3 t (by
        refine XS.icmpYes X0.here hx rfl (pc0 := 19) (pc' := 26) rfl (hb hby d16_19) rfl (flt hc19_4).2.1 (by decide) (by decide) ?_
        show Steps p.tables e below (s₁.setTop (mkF m 26 #[.val (.int c)] [])) _
        refine XS.iconst X0.here hx rfl (hb hby d16_26) ?_
        show Steps p.tables e below (s₁.setTop (mkF m 27 #[.val (.int c)] [(.int (3 : Int32))])) _
        exact kt)
      obtain ⟨frs, hr, hrun, hended, hW, hsame⟩ := X0.leave (v := some (.int (3 : Int32))) (fun h => by rw [Bd.returns] at h; cases h)
      refine ⟨_, _, cn6 _ ?_, hrun, hended, _, _, rfl, ?_, ⟨_, rfl⟩, hW, hsame.mono (by decide) (by decide)⟩
      · exact retI X0 hx Bd.returns (hb hby d16_27) hr
      · show QI (own_mu c) h0 n0 _ s₁.heap _
        rw [e0]
        exact ⟨by unfold own_mu; rw [if_pos hc1_2, if_neg hc19_4], N0, rfl⟩
  · have cn7 := fun (t : State) (kt : Steps p.tables e below (s₁.setTop (mkF m 8 #[.val (.int c)] [(.int (128 : Int32)), (.int c)])) t) => cn1 t (by
      refine XS.ifNo X0.here hx rfl (hb hby d16_1) rfl ((if0 _ _).trans (feq hc1_2).1) ?_
      show Steps p.tables e below (s₁.setTop (mkF m 4 #[.val (.int c)] [])) _
      refine XS.iloadN X0.here hx rfl (hb hby d16_4) rfl ?_
      show Steps p.tables e below (s₁.setTop (mkF m 5 #[.val (.int c)] [(.int c)])) _
      refine XS.sipush X0.here hx rfl (hb hby d16_5) ?_
      show Steps p.tables e below (s₁.setTop (mkF m 8 #[.val (.int c)] [(.int (128 : Int32)), (.int c)])) _
      exact kt)
    by_cases hc8_8 : c < (128 : Int32)
    · have cn9 := fun (t : State) (kt : Steps p.tables e below (s₁.setTop (mkF m 27 #[.val (.int c)] [(.int (1 : Int32))])) t) => cn7 t (by
        refine XS.icmpNo X0.here hx rfl (hb hby d16_8) rfl (tlt hc8_8).2.1 ?_
        show Steps p.tables e below (s₁.setTop (mkF m 11 #[.val (.int c)] [])) _
        refine XS.iconst X0.here hx rfl (hb hby d16_11) ?_
        show Steps p.tables e below (s₁.setTop (mkF m 12 #[.val (.int c)] [(.int (1 : Int32))])) _
        refine XS.goto X0.here hx rfl (pc0 := 12) (pc' := 27) rfl (hb hby d16_12) (by decide) (by decide) ?_
        show Steps p.tables e below (s₁.setTop (mkF m 27 #[.val (.int c)] [(.int (1 : Int32))])) _
        exact kt)
      obtain ⟨frs, hr, hrun, hended, hW, hsame⟩ := X0.leave (v := some (.int (1 : Int32))) (fun h => by rw [Bd.returns] at h; cases h)
      refine ⟨_, _, cn9 _ ?_, hrun, hended, _, _, rfl, ?_, ⟨_, rfl⟩, hW, hsame.mono (by decide) (by decide)⟩
      · exact retI X0 hx Bd.returns (hb hby d16_27) hr
      · show QI (own_mu c) h0 n0 _ s₁.heap _
        rw [e0]
        exact ⟨by unfold own_mu; rw [if_neg hc1_2, if_pos hc8_8], N0, rfl⟩
    · have cn10 := fun (t : State) (kt : Steps p.tables e below (s₁.setTop (mkF m 19 #[.val (.int c)] [(.int (2048 : Int32)), (.int c)])) t) => cn7 t (by
        refine XS.icmpYes X0.here hx rfl (pc0 := 8) (pc' := 15) rfl (hb hby d16_8) rfl (flt hc8_8).2.1 (by decide) (by decide) ?_
        show Steps p.tables e below (s₁.setTop (mkF m 15 #[.val (.int c)] [])) _
        refine XS.iloadN X0.here hx rfl (hb hby d16_15) rfl ?_
        show Steps p.tables e below (s₁.setTop (mkF m 16 #[.val (.int c)] [(.int c)])) _
        refine XS.sipush X0.here hx rfl (hb hby d16_16) ?_
        show Steps p.tables e below (s₁.setTop (mkF m 19 #[.val (.int c)] [(.int (2048 : Int32)), (.int c)])) _
        exact kt)
      by_cases hc19_11 : c < (2048 : Int32)
      · have cn12 := fun (t : State) (kt : Steps p.tables e below (s₁.setTop (mkF m 27 #[.val (.int c)] [(.int (2 : Int32))])) t) => cn10 t (by
          refine XS.icmpNo X0.here hx rfl (hb hby d16_19) rfl (tlt hc19_11).2.1 ?_
          show Steps p.tables e below (s₁.setTop (mkF m 22 #[.val (.int c)] [])) _
          refine XS.iconst X0.here hx rfl (hb hby d16_22) ?_
          show Steps p.tables e below (s₁.setTop (mkF m 23 #[.val (.int c)] [(.int (2 : Int32))])) _
          refine XS.goto X0.here hx rfl (pc0 := 23) (pc' := 27) rfl (hb hby d16_23) (by decide) (by decide) ?_
          show Steps p.tables e below (s₁.setTop (mkF m 27 #[.val (.int c)] [(.int (2 : Int32))])) _
          exact kt)
        obtain ⟨frs, hr, hrun, hended, hW, hsame⟩ := X0.leave (v := some (.int (2 : Int32))) (fun h => by rw [Bd.returns] at h; cases h)
        refine ⟨_, _, cn12 _ ?_, hrun, hended, _, _, rfl, ?_, ⟨_, rfl⟩, hW, hsame.mono (by decide) (by decide)⟩
        · exact retI X0 hx Bd.returns (hb hby d16_27) hr
        · show QI (own_mu c) h0 n0 _ s₁.heap _
          rw [e0]
          exact ⟨by unfold own_mu; rw [if_neg hc1_2, if_neg hc8_8, if_pos hc19_11], N0, rfl⟩
      · have cn13 := fun (t : State) (kt : Steps p.tables e below (s₁.setTop (mkF m 27 #[.val (.int c)] [(.int (3 : Int32))])) t) => cn10 t (by
          refine XS.icmpYes X0.here hx rfl (pc0 := 19) (pc' := 26) rfl (hb hby d16_19) rfl (flt hc19_11).2.1 (by decide) (by decide) ?_
          show Steps p.tables e below (s₁.setTop (mkF m 26 #[.val (.int c)] [])) _
          refine XS.iconst X0.here hx rfl (hb hby d16_26) ?_
          show Steps p.tables e below (s₁.setTop (mkF m 27 #[.val (.int c)] [(.int (3 : Int32))])) _
          exact kt)
        obtain ⟨frs, hr, hrun, hended, hW, hsame⟩ := X0.leave (v := some (.int (3 : Int32))) (fun h => by rw [Bd.returns] at h; cases h)
        refine ⟨_, _, cn13 _ ?_, hrun, hended, _, _, rfl, ?_, ⟨_, rfl⟩, hW, hsame.mono (by decide) (by decide)⟩
        · exact retI X0 hx Bd.returns (hb hby d16_27) hr
        · show QI (own_mu c) h0 n0 _ s₁.heap _
          rw [e0]
          exact ⟨by unfold own_mu; rw [if_neg hc1_2, if_neg hc8_8, if_neg hc19_11], N0, rfl⟩

theorem d8_0 : decode prog_226_method_58_code 0 = .ok (.iconst 0, 1) := by decide +kernel
theorem d8_1 : decode prog_226_method_58_code 1 = .ok (.istore_n 1, 1) := by decide +kernel
theorem d8_2 : decode prog_226_method_58_code 2 = .ok (.iconst 0, 1) := by decide +kernel
theorem d8_3 : decode prog_226_method_58_code 3 = .ok (.istore_n 2, 1) := by decide +kernel
theorem d8_4 : decode prog_226_method_58_code 4 = .ok (.iload_n 2, 1) := by decide +kernel
theorem d8_5 : decode prog_226_method_58_code 5 = .ok (.aload_n 0, 1) := by decide +kernel
theorem d8_6 : decode prog_226_method_58_code 6 = .ok (.invokevirtual 194, 3) := by decide +kernel
theorem d8_9 : decode prog_226_method_58_code 9 = .ok (.if_icmp .ge 20, 3) := by decide +kernel
theorem d8_12 : decode prog_226_method_58_code 12 = .ok (.iload_n 1, 1) := by decide +kernel
theorem d8_13 : decode prog_226_method_58_code 13 = .ok (.aload_n 0, 1) := by decide +kernel
theorem d8_14 : decode prog_226_method_58_code 14 = .ok (.iload_n 2, 1) := by decide +kernel
theorem d8_15 : decode prog_226_method_58_code 15 = .ok (.invokevirtual 632, 3) := by decide +kernel
theorem d8_18 : decode prog_226_method_58_code 18 = .ok (.invokestatic 636, 3) := by decide +kernel
theorem d8_21 : decode prog_226_method_58_code 21 = .ok (.iadd, 1) := by decide +kernel
theorem d8_22 : decode prog_226_method_58_code 22 = .ok (.istore_n 1, 1) := by decide +kernel
theorem d8_23 : decode prog_226_method_58_code 23 = .ok (.iinc 2 1, 3) := by decide +kernel
theorem d8_26 : decode prog_226_method_58_code 26 = .ok (.goto (-22), 3) := by decide +kernel
theorem d8_29 : decode prog_226_method_58_code 29 = .ok (.iload_n 1, 1) := by decide +kernel
theorem d8_30 : decode prog_226_method_58_code 30 = .ok (.ireturn, 1) := by decide +kernel
theorem pd_14 : parseMethodDescriptor "()I" = some ⟨[], some .int⟩ := by decide +kernel
theorem pd_16 : parseMethodDescriptor "(C)I" = some ⟨[.char], some .int⟩ := by decide +kernel
theorem pd_15 : parseMethodDescriptor "(I)C" = some ⟨[.int], some .char⟩ := by decide +kernel
theorem ef_8 (m : MethodId) (x0 : Addr) : entryFrame m #[(.ref x0)] 3 = mkF m 0 #[.val (.ref x0), .unset, .unset] [] := by first | (simp [entryFrame, mkF, argsToLocals, Value.category]; done) | rfl
set_option maxRecDepth 65536 in
set_option maxHeartbeats 40000000 in
theorem rm8 (l : Launch) (Z : State) (a0 : Array Value) (hw : ∀ d ∈ tables_1, d.before a0 Z = true) (ws : List Jvm.Cond) (a1 b : Addr) (cs : List Int32) (k : ClassId) (f : Nat → Value) (cd : Int32) (co : Int32) (vf : Value) (h0 : Heap) (n0 : Nat) (O0 : Old Z n0 h0) (hn : cs.length ≤ 4) (hu : own_u cs) (Sh : SS Z h0 a1 cs b k f cd) (SWh : SW Z co vf) :
    MetFree l (⟨"com/example/idlsmith/idlsmith/javasource/ClassFile", "modifiedUtf8", "(Ljava/lang/String;)I"⟩ : MethodName) (head1 (Jvm.Cond.code (⟨"com/example/idlsmith/idlsmith/javasource/ClassFile", "modifiedUtf8", "(Ljava/lang/String;)I"⟩ : MethodName) prog_226_method_58_code 3 (some .int) :: ws) ({ frames := 5, cells := 0, slots := 0, locals := 67 } : Room)) (fun aQ U => aQ = #[(.ref a1)] ∧ Z.Warmed39 U.vm ∧ U.heap = h0) (fun _ _ _ _ _ => True) (fun _ U o U' => ∃ v L, o = .returned v ∧ QI (own_sum cs cs.length) h0 n0 v U'.heap L ∧ FrameEnd U o U' L ({ frames := 5, cells := 0, slots := 0, locals := 67 } : Room).cells ({ frames := 5, cells := 0, slots := 0, locals := 67 } : Room).slots) := by
  refine MetFree.of_bodySF (plainFor_of_name pn_com_example_idlsmith_idlsmith_javasource_ClassFile) hisR ?_
  intro p e s m args below meth kode s₁ Bd hml0 hP hK
  obtain ⟨rfl, hZ, hh⟩ := hP
  have hx := Bd.exec
  have hby := Bd.bytes
  have hml : kode.maxLocals = 3 := hml0
  have hown : s.vm.findClass "com/example/idlsmith/idlsmith/javasource/ClassFile" = some m.cls := findClass_of_methodNamed Bd.named
  have hnm := (name_of_methodNamed Bd.named Bd.method).1
  have X0 : Stand p l e ({ frames := 5, cells := 0, slots := 0, locals := 67 } : Room) s m #[(.ref a1)] below meth kode s₁ [] 0 0 := Stand.of_body Bd
  have e0 : s₁.heap = h0 := by rw [← hh, Bd.state]; rfl
  have N0 := Fr.nil n0
  have pre0 : ∀ t, Steps p.tables e below (s₁.setTop (mkF m 0 #[.val (.ref a1), .unset, .unset] [])) t → Steps p.tables e below (s₁.setTop (entryFrame m #[(.ref a1)] 3)) t := fun t k => castTop (ef_8 m a1) k
  have SWx := SWh
  obtain ⟨S_CS, hcs, S_AD, S_HI, S_LO, S_SI, hcat_vf⟩ := SWx
  have cn1 := fun (t : State) (kt : Steps p.tables e below (s₁.setTop (mkF m 4 #[.val (.ref a1), .val (.int (0 : Int32)), .val (.int (0 : Int32))] [])) t) => pre0 t (by
    refine XS.iconst X0.here hx rfl (hb hby d8_0) ?_
    show Steps p.tables e below (s₁.setTop (mkF m 1 #[.val (.ref a1), .unset, .unset] [(.int (0 : Int32))])) _
    refine XS.istoreN X0.here hx rfl (hb hby d8_1) rfl (l' := #[.val (.ref a1), .val (.int (0 : Int32)), .unset]) rfl ?_
    show Steps p.tables e below (s₁.setTop (mkF m 2 #[.val (.ref a1), .val (.int (0 : Int32)), .unset] [])) _
    refine XS.iconst X0.here hx rfl (hb hby d8_2) ?_
    show Steps p.tables e below (s₁.setTop (mkF m 3 #[.val (.ref a1), .val (.int (0 : Int32)), .unset] [(.int (0 : Int32))])) _
    refine XS.istoreN X0.here hx rfl (hb hby d8_3) rfl (l' := #[.val (.ref a1), .val (.int (0 : Int32)), .val (.int (0 : Int32))]) rfl ?_
    show Steps p.tables e below (s₁.setTop (mkF m 4 #[.val (.ref a1), .val (.int (0 : Int32)), .val (.int (0 : Int32))] [])) _
    exact kt)
  refine own_loop (A := fun kk => ∃ (TJ : State) (hJ : Heap) (lJ : List Loc) (i : Nat), Stand p l e ({ frames := 5, cells := 0, slots := 0, locals := 67 } : Room) s m #[(.ref a1)] below meth kode TJ lJ 0 0 ∧ TJ.heap = hJ ∧ Fr n0 lJ ∧ Old Z n0 hJ ∧ Keep h0 hJ [] ∧ (i + kk = cs.length) ∧ (SS Z hJ a1 cs b k f cd) ∧ (hJ = h0) ∧ ∀ t, Steps p.tables e below (TJ.setTop (mkF m 4 #[.val (.ref a1), .val (.int (own_sum cs i)), .val (.int (Nat.toInt32 i))] [])) t → Steps p.tables e below (s₁.setTop (entryFrame m #[(.ref a1)] 3)) t) ?_ ?_ (cs.length) ?_
  · intro kk2 IH2
    rintro ⟨TJ3, hJ3, lJ3, i, XJ3, eJ3, NJ3, OJ3, KJ3, hik, Sj, hh0, kJ_3⟩
    have hil : i < cs.length := by omega
    have cn4 := fun (t : State) (kt : Steps p.tables e below (TJ3.setTop (mkF m 6 #[.val (.ref a1), .val (.int (own_sum cs i)), .val (.int (Nat.toInt32 i))] [(.ref a1), (.int (Nat.toInt32 i))])) t) => kJ_3 t (by
      refine XS.iloadN XJ3.here hx rfl (hb hby d8_4) rfl ?_
      show Steps p.tables e below (TJ3.setTop (mkF m 5 #[.val (.ref a1), .val (.int (own_sum cs i)), .val (.int (Nat.toInt32 i))] [(.int (Nat.toInt32 i))])) _
      refine XS.aloadN XJ3.here hx rfl (hb hby d8_5) rfl rfl ?_
      show Steps p.tables e below (TJ3.setTop (mkF m 6 #[.val (.ref a1), .val (.int (own_sum cs i)), .val (.int (Nat.toInt32 i))] [(.ref a1), (.int (Nat.toInt32 i))])) _
      exact kt)
    obtain ⟨cq5, kq5, q5a, q5b, q5c⟩ := isOf hZ eJ3 Sj.1
    obtain ⟨_, _, ⟨T5, L5, k5, n5⟩, -, X5, ⟨Lc5, hQ5, l5, y5, z5⟩, st5⟩ := XJ3.virtualBack hx (y := (⟨"java/lang/String", "length", "()I"⟩ : MethodName)) (z := (⟨"java/lang/String", "length", "()I"⟩ : MethodName)) hown (mvT hZ (hw _ (List.mem_of_getElem? (i := 40) rfl))) (mvT hZ (hw _ (List.mem_of_getElem? (i := 41) rfl))) (notFace_of_selects (args := #[]) (mvT hZ (hw _ (List.mem_of_getElem? (i := 43) rfl)))) (mvT hZ (hw _ (List.mem_of_getElem? (i := 43) rfl))) (mvT hZ (hw _ (List.mem_of_getElem? (i := 42) rfl))) (by decide) (backOf (W := 1) (rm9 l Z a0 hw [] a1 b cs k f cd co vf hJ3 n0 OJ3 hn Sj SWh) hZ (hw _ (List.mem_of_getElem? (i := 44) rfl)) (hw _ (List.mem_of_getElem? (i := 9) rfl)) (by decide) (by decide)) q5a q5c (g := (mkF m 6 #[.val (.ref a1), .val (.int (own_sum cs i)), .val (.int (Nat.toInt32 i))] [(.ref a1), (.int (Nat.toInt32 i))])) rfl (by rw [hml]; rfl) (Steps.refl _) (argsL := []) (rest := [(.int (Nat.toInt32 i))]) (lenOf pd_14 rfl) rfl (by show 2 * 0 + _ ≤ _; exact Nat.le_of_eq rfl) (hb hby d8_6) (fun _ _ => ⟨rfl, eJ3, (by decide : 0 + 0 ≤ _), (by decide : 0 + 0 ≤ _)⟩)
    dsimp only [Pt.U, Pt.locs, Pt.cells, Pt.slots] at X5 l5 y5 z5 st5 hQ5
    subst l5 y5 z5
    obtain ⟨rfl, Nq5, eh5⟩ := hQ5
    have N5 := Fr.app NJ3 Nq5
    have cn6 := fun (t : State) (kt : Steps p.tables e below (T5.setTop (mkF m 9 #[.val (.ref a1), .val (.int (own_sum cs i)), .val (.int (Nat.toInt32 i))] [(.int (Nat.toInt32 cs.length)), (.int (Nat.toInt32 i))])) t) => cn4 t (by
      refine st5.trans ?_
      show Steps p.tables e below (T5.setTop (mkF m 9 #[.val (.ref a1), .val (.int (own_sum cs i)), .val (.int (Nat.toInt32 i))] [(.int (Nat.toInt32 cs.length)), (.int (Nat.toInt32 i))])) _
      exact kt)
    have cn7 := fun (t : State) (kt : Steps p.tables e below (T5.setTop (mkF m 15 #[.val (.ref a1), .val (.int (own_sum cs i)), .val (.int (Nat.toInt32 i))] [(.int (Nat.toInt32 i)), (.ref a1), (.int (own_sum cs i))])) t) => cn6 t (by
      refine XS.icmpNo X5.here hx rfl (hb hby d8_9) rfl (tlt ((own_lt (by omega) (by omega)).mpr hil)).2.1 ?_
      show Steps p.tables e below (T5.setTop (mkF m 12 #[.val (.ref a1), .val (.int (own_sum cs i)), .val (.int (Nat.toInt32 i))] [])) _
      refine XS.iloadN X5.here hx rfl (hb hby d8_12) rfl ?_
      show Steps p.tables e below (T5.setTop (mkF m 13 #[.val (.ref a1), .val (.int (own_sum cs i)), .val (.int (Nat.toInt32 i))] [(.int (own_sum cs i))])) _
      refine XS.aloadN X5.here hx rfl (hb hby d8_13) rfl rfl ?_
      show Steps p.tables e below (T5.setTop (mkF m 14 #[.val (.ref a1), .val (.int (own_sum cs i)), .val (.int (Nat.toInt32 i))] [(.ref a1), (.int (own_sum cs i))])) _
      refine XS.iloadN X5.here hx rfl (hb hby d8_14) rfl ?_
      show Steps p.tables e below (T5.setTop (mkF m 15 #[.val (.ref a1), .val (.int (own_sum cs i)), .val (.int (Nat.toInt32 i))] [(.int (Nat.toInt32 i)), (.ref a1), (.int (own_sum cs i))])) _
      exact kt)
    obtain ⟨cq8, kq8, q8a, q8b, q8c⟩ := isOf hZ eh5 Sj.1
    obtain ⟨_, _, ⟨T8, L8, k8, n8⟩, -, X8, ⟨Lc8, hQ8, l8, y8, z8⟩, st8⟩ := X5.virtualBack hx (y := (⟨"java/lang/String", "charAt", "(I)C"⟩ : MethodName)) (z := (⟨"java/lang/String", "charAt", "(I)C"⟩ : MethodName)) hown (mvT hZ (hw _ (List.mem_of_getElem? (i := 50) rfl))) (mvT hZ (hw _ (List.mem_of_getElem? (i := 51) rfl))) (notFace_of_selects (args := #[]) (mvT hZ (hw _ (List.mem_of_getElem? (i := 53) rfl)))) (mvT hZ (hw _ (List.mem_of_getElem? (i := 53) rfl))) (mvT hZ (hw _ (List.mem_of_getElem? (i := 52) rfl))) (by decide) (backOf (W := 1) (rm11 l Z a0 hw [] a1 b cs k f cd i co vf hJ3 n0 OJ3 hil hu hn Sj SWh) hZ (hw _ (List.mem_of_getElem? (i := 54) rfl)) (hw _ (List.mem_of_getElem? (i := 9) rfl)) (by decide) (by decide)) q8a q8c (g := (mkF m 15 #[.val (.ref a1), .val (.int (own_sum cs i)), .val (.int (Nat.toInt32 i))] [(.int (Nat.toInt32 i)), (.ref a1), (.int (own_sum cs i))])) rfl (by rw [hml]; rfl) (Steps.refl _) (argsL := [(.int (Nat.toInt32 i))]) (rest := [(.int (own_sum cs i))]) (lenOf pd_15 rfl) rfl (by show 2 * 0 + _ ≤ _; exact Nat.le_of_eq rfl) (hb hby d8_15) (fun _ _ => ⟨rfl, eh5, (by decide : 0 + 0 ≤ _), (by decide : 0 + 0 ≤ _)⟩)
    dsimp only [Pt.U, Pt.locs, Pt.cells, Pt.slots] at X8 l8 y8 z8 st8 hQ8
    subst l8 y8 z8
    obtain ⟨rfl, Nq8, eh8⟩ := hQ8
    have N8 := Fr.app N5 Nq8
    have cn9 := fun (t : State) (kt : Steps p.tables e below (T8.setTop (mkF m 18 #[.val (.ref a1), .val (.int (own_sum cs i)), .val (.int (Nat.toInt32 i))] [(.int (cs.getD i 0)), (.int (own_sum cs i))])) t) => cn7 t (by
      refine st8.trans ?_
      show Steps p.tables e below (T8.setTop (mkF m 18 #[.val (.ref a1), .val (.int (own_sum cs i)), .val (.int (Nat.toInt32 i))] [(.int (cs.getD i 0)), (.int (own_sum cs i))])) _
      exact kt)
    obtain ⟨_, _, ⟨T10, L10, k10, n10⟩, -, X10, ⟨Lc10, hQ10, l10, y10, z10⟩, st10⟩ := Jvm.LawKit.callS X8 hx (y := (⟨"com/example/idlsmith/idlsmith/javasource/ClassFile", "modifiedUtf8", "(C)I"⟩ : MethodName)) hown (mvT hZ (hw _ (List.mem_of_getElem? (i := 72) rfl))) (mvT hZ (hw _ (List.mem_of_getElem? (i := 73) rfl))) (mvT hZ (hw _ (List.mem_of_getElem? (i := 38) rfl))) (mvT hZ (hw _ (List.mem_of_getElem? (i := 74) rfl))) (by decide) (backOf (W := 1) (rm16 l Z a0 hw [] (cs.getD i 0) hJ3 n0 OJ3) hZ (hw _ (List.mem_of_getElem? (i := 74) rfl)) (hw _ (List.mem_of_getElem? (i := 38) rfl)) (by decide) (by decide)) (g := (mkF m 18 #[.val (.ref a1), .val (.int (own_sum cs i)), .val (.int (Nat.toInt32 i))] [(.int (cs.getD i 0)), (.int (own_sum cs i))])) rfl (by rw [hml]; rfl) (argsL := [(.int (cs.getD i 0))]) (rest := [(.int (own_sum cs i))]) (lenOf pd_16 rfl) rfl (by show 2 * 0 + _ ≤ _; exact Nat.le_of_eq rfl) (hb hby d8_18) (fun _ _ => ⟨rfl, eh8, (by decide : 0 + 0 ≤ _), (by decide : 0 + 0 ≤ _)⟩)
    dsimp only [Pt.U, Pt.locs, Pt.cells, Pt.slots] at X10 l10 y10 z10 st10 hQ10
    subst l10 y10 z10
    obtain ⟨rfl, Nq10, eh10⟩ := hQ10
    have N10 := Fr.app N8 Nq10
    have cn11 := fun (t : State) (kt : Steps p.tables e below (T10.setTop (mkF m 23 #[.val (.ref a1), .val (.int ((own_sum cs i) + (own_mu (cs.getD i 0)))), .val (.int (Nat.toInt32 i))] [])) t) => cn9 t (by
      refine st10 _ ?_
      show Steps p.tables e below (T10.setTop (mkF m 21 #[.val (.ref a1), .val (.int (own_sum cs i)), .val (.int (Nat.toInt32 i))] [(.int (own_mu (cs.getD i 0))), (.int (own_sum cs i))])) _
      refine XS.iadd X10.here hx rfl (hb hby d8_21) rfl ?_
      show Steps p.tables e below (T10.setTop (mkF m 22 #[.val (.ref a1), .val (.int (own_sum cs i)), .val (.int (Nat.toInt32 i))] [(.int ((own_sum cs i) + (own_mu (cs.getD i 0))))])) _
      refine XS.istoreN X10.here hx rfl (hb hby d8_22) rfl (l' := #[.val (.ref a1), .val (.int ((own_sum cs i) + (own_mu (cs.getD i 0)))), .val (.int (Nat.toInt32 i))]) rfl ?_
      show Steps p.tables e below (T10.setTop (mkF m 23 #[.val (.ref a1), .val (.int ((own_sum cs i) + (own_mu (cs.getD i 0)))), .val (.int (Nat.toInt32 i))] [])) _
      exact kt)
    have cn12 : ∀ t, Steps p.tables e below (T10.setTop (mkF m 23 #[.val (.ref a1), .val (.int (own_sum cs (i + 1))), .val (.int (Nat.toInt32 i))] [])) t → Steps p.tables e below (s₁.setTop (entryFrame m #[(.ref a1)] 3)) t := by rw [← (id rfl : ((own_sum cs i) + (own_mu (cs.getD i 0))) = (own_sum cs (i + 1)))]; exact cn11
    have cn13 := fun (t : State) (kt : Steps p.tables e below (T10.setTop (mkF m 26 #[.val (.ref a1), .val (.int (own_sum cs (i + 1))), .val (.int ((Nat.toInt32 i) + (1 : Int32)))] [])) t) => cn12 t (by
      refine XS.iinc X10.here hx rfl (hb hby d8_23) rfl (l' := #[.val (.ref a1), .val (.int (own_sum cs (i + 1))), .val (.int ((Nat.toInt32 i) + (1 : Int32)))]) rfl ?_
      show Steps p.tables e below (T10.setTop (mkF m 26 #[.val (.ref a1), .val (.int (own_sum cs (i + 1))), .val (.int ((Nat.toInt32 i) + (1 : Int32)))] [])) _
      exact kt)
    have cn14 : ∀ t, Steps p.tables e below (T10.setTop (mkF m 26 #[.val (.ref a1), .val (.int (own_sum cs (i + 1))), .val (.int (Nat.toInt32 (i + 1)))] [])) t → Steps p.tables e below (s₁.setTop (entryFrame m #[(.ref a1)] 3)) t := by rw [← (own_inc (by omega) : ((Nat.toInt32 i) + (1 : Int32)) = (Nat.toInt32 (i + 1)))]; exact cn13
    have cn15 := fun (t : State) (kt : Steps p.tables e below (T10.setTop (mkF m 4 #[.val (.ref a1), .val (.int (own_sum cs (i + 1))), .val (.int (Nat.toInt32 (i + 1)))] [])) t) => cn14 t (by
      refine XS.goto X10.here hx rfl (pc0 := 26) (pc' := 4) rfl (hb hby d8_26) (by decide) (by decide) ?_
      show Steps p.tables e below (T10.setTop (mkF m 4 #[.val (.ref a1), .val (.int (own_sum cs (i + 1))), .val (.int (Nat.toInt32 (i + 1)))] [])) _
      exact kt)
    exact IH2 ⟨T10, hJ3, _, i + 1, own_up X10 (by decide) (by decide), eh10, N10, OJ3, KJ3, (by omega), Sj, hh0, cn15⟩
  · rintro ⟨TJ16, hJ16, lJ16, i, XJ16, eJ16, NJ16, OJ16, KJ16, hik, Sj, hh0, kJ_16⟩
    obtain rfl : i = cs.length := by omega
    have cn17 := fun (t : State) (kt : Steps p.tables e below (TJ16.setTop (mkF m 6 #[.val (.ref a1), .val (.int (own_sum cs cs.length)), .val (.int (Nat.toInt32 cs.length))] [(.ref a1), (.int (Nat.toInt32 cs.length))])) t) => kJ_16 t (by
      refine XS.iloadN XJ16.here hx rfl (hb hby d8_4) rfl ?_
      show Steps p.tables e below (TJ16.setTop (mkF m 5 #[.val (.ref a1), .val (.int (own_sum cs cs.length)), .val (.int (Nat.toInt32 cs.length))] [(.int (Nat.toInt32 cs.length))])) _
      refine XS.aloadN XJ16.here hx rfl (hb hby d8_5) rfl rfl ?_
      show Steps p.tables e below (TJ16.setTop (mkF m 6 #[.val (.ref a1), .val (.int (own_sum cs cs.length)), .val (.int (Nat.toInt32 cs.length))] [(.ref a1), (.int (Nat.toInt32 cs.length))])) _
      exact kt)
    obtain ⟨cq18, kq18, q18a, q18b, q18c⟩ := isOf hZ eJ16 Sj.1
    obtain ⟨_, _, ⟨T18, L18, k18, n18⟩, -, X18, ⟨Lc18, hQ18, l18, y18, z18⟩, st18⟩ := XJ16.virtualBack hx (y := (⟨"java/lang/String", "length", "()I"⟩ : MethodName)) (z := (⟨"java/lang/String", "length", "()I"⟩ : MethodName)) hown (mvT hZ (hw _ (List.mem_of_getElem? (i := 40) rfl))) (mvT hZ (hw _ (List.mem_of_getElem? (i := 41) rfl))) (notFace_of_selects (args := #[]) (mvT hZ (hw _ (List.mem_of_getElem? (i := 43) rfl)))) (mvT hZ (hw _ (List.mem_of_getElem? (i := 43) rfl))) (mvT hZ (hw _ (List.mem_of_getElem? (i := 42) rfl))) (by decide) (backOf (W := 1) (rm9 l Z a0 hw [] a1 b cs k f cd co vf hJ16 n0 OJ16 hn Sj SWh) hZ (hw _ (List.mem_of_getElem? (i := 44) rfl)) (hw _ (List.mem_of_getElem? (i := 9) rfl)) (by decide) (by decide)) q18a q18c (g := (mkF m 6 #[.val (.ref a1), .val (.int (own_sum cs cs.length)), .val (.int (Nat.toInt32 cs.length))] [(.ref a1), (.int (Nat.toInt32 cs.length))])) rfl (by rw [hml]; rfl) (Steps.refl _) (argsL := []) (rest := [(.int (Nat.toInt32 cs.length))]) (lenOf pd_14 rfl) rfl (by show 2 * 0 + _ ≤ _; exact Nat.le_of_eq rfl) (hb hby d8_6) (fun _ _ => ⟨rfl, eJ16, (by decide : 0 + 0 ≤ _), (by decide : 0 + 0 ≤ _)⟩)
    dsimp only [Pt.U, Pt.locs, Pt.cells, Pt.slots] at X18 l18 y18 z18 st18 hQ18
    subst l18 y18 z18
    obtain ⟨rfl, Nq18, eh18⟩ := hQ18
    have N18 := Fr.app NJ16 Nq18
    have cn19 := fun (t : State) (kt : Steps p.tables e below (T18.setTop (mkF m 9 #[.val (.ref a1), .val (.int (own_sum cs cs.length)), .val (.int (Nat.toInt32 cs.length))] [(.int (Nat.toInt32 cs.length)), (.int (Nat.toInt32 cs.length))])) t) => cn17 t (by
      refine st18.trans ?_
      show Steps p.tables e below (T18.setTop (mkF m 9 #[.val (.ref a1), .val (.int (own_sum cs cs.length)), .val (.int (Nat.toInt32 cs.length))] [(.int (Nat.toInt32 cs.length)), (.int (Nat.toInt32 cs.length))])) _
      exact kt)
    have cn20 := fun (t : State) (kt : Steps p.tables e below (T18.setTop (mkF m 30 #[.val (.ref a1), .val (.int (own_sum cs cs.length)), .val (.int (Nat.toInt32 cs.length))] [(.int (own_sum cs cs.length))])) t) => cn19 t (by
      refine XS.icmpYes X18.here hx rfl (pc0 := 9) (pc' := 29) rfl (hb hby d8_9) rfl (flt (fun q => Nat.lt_irrefl _ ((own_lt (by omega) (by omega)).mp q))).2.1 (by decide) (by decide) ?_
      show Steps p.tables e below (T18.setTop (mkF m 29 #[.val (.ref a1), .val (.int (own_sum cs cs.length)), .val (.int (Nat.toInt32 cs.length))] [])) _
      refine XS.iloadN X18.here hx rfl (hb hby d8_29) rfl ?_
      show Steps p.tables e below (T18.setTop (mkF m 30 #[.val (.ref a1), .val (.int (own_sum cs cs.length)), .val (.int (Nat.toInt32 cs.length))] [(.int (own_sum cs cs.length))])) _
      exact kt)
    obtain ⟨frs, hr, hrun, hended, hW, hsame⟩ := X18.leave (v := some (.int (own_sum cs cs.length))) (fun h => by rw [Bd.returns] at h; cases h)
    refine ⟨_, _, cn20 _ ?_, hrun, hended, _, _, rfl, ?_, ⟨_, rfl⟩, hW, hsame.mono (by decide) (by decide)⟩
    · exact retI X18 hx Bd.returns (hb hby d8_30) hr
    · show QI (own_sum cs cs.length) h0 n0 _ T18.heap _
      rw [eh18]
      exact ⟨rfl, N18, hh0⟩
  · exact ⟨s₁, h0, _, 0, own_up X0 (by decide) (by decide), e0, N0, O0, (Keep.refl h0 []), (Nat.zero_add _), Sh, rfl, cn1⟩

theorem pd_18 : parseMethodDescriptor "(Ljava/lang/String;)I" = some ⟨[(.object "java/lang/String")], some .int⟩ := by decide +kernel
theorem pd_17 : parseMethodDescriptor "([C)V" = some ⟨[(.array .char)], none⟩ := by decide +kernel
theorem ef_0 (m : MethodId) (x0 : Int32) (x1 : Int32) (x2 : Int32) : entryFrame m #[(.int x0), (.int x1), (.int x2)] maxLocals = mkF m 0 #[.val (.int x0), .val (.int x1), .val (.int x2), .unset, .unset, .unset, .unset, .unset, .unset, .unset, .unset] [] := by first | (simp [entryFrame, mkF, argsToLocals, Value.category, maxLocals]; done) | rfl
def Q0 (n0 : Nat) (v : Option Value) (h : Heap) (L : List Loc) : Prop := v = some (.int 1) ∧ Fr n0 L
set_option maxRecDepth 65536 in
set_option maxHeartbeats 40000000 in
theorem rm0 (l : Launch) (Z : State) (a0 : Array Value) (hw : ∀ d ∈ tables_1, d.before a0 Z = true) (ws : List Jvm.Cond) (p1 p2 p3 : Int32) (co : Int32) (vf : Value) (h0 : Heap) (n0 : Nat) (O0 : Old Z n0 h0) (SWh : SW Z co vf) :
    MetFree l x (head1 (Jvm.Cond.code x code maxLocals ret :: ws) room_1) (fun aQ U => aQ = #[(.int p1), (.int p2), (.int p3)] ∧ Z.Warmed39 U.vm ∧ U.heap = h0 ∧ CHv Z consts_1 U.vm h0) (fun _ _ _ _ _ => True) (fun _ U o U' => ∃ v L, o = .returned v ∧ Q0 n0 v U'.heap L ∧ ReturnedEndW U o U' L 4 20) := by
  refine MetFree.of_bodySF (plainFor_of_name pn_com_example_idlsmith_idlsmith_javasource_ClassFileModifiedUtf8PinLaw) hisR ?_
  intro p e s m args below meth kode s₁ Bd hml0 hP hK
  obtain ⟨rfl, hZ, hh, CH⟩ := hP
  have hx := Bd.exec
  have hby := Bd.bytes
  have hml : kode.maxLocals = 11 := hml0
  have hown : s.vm.findClass "com/example/idlsmith/idlsmith/javasource/ClassFileModifiedUtf8PinLaw" = some m.cls := findClass_of_methodNamed Bd.named
  have hnm := (name_of_methodNamed Bd.named Bd.method).1
  have X0 : Stand p l e room_1 (s.setVm s.vm) m #[(.int p1), (.int p2), (.int p3)] below meth kode s₁ [] 0 0 := Stand.of_body Bd
  have e0 : s₁.heap = h0 := by rw [← hh, Bd.state]; rfl
  have N0 := Fr.nil n0
  have pre0 : ∀ t, Steps p.tables e below (s₁.setTop (mkF m 0 #[.val (.int p1), .val (.int p2), .val (.int p3), .unset, .unset, .unset, .unset, .unset, .unset, .unset, .unset] [])) t → Steps p.tables e below (s₁.setTop (entryFrame m #[(.int p1), (.int p2), (.int p3)] maxLocals)) t := fun t k => castTop (ef_0 m p1 p2 p3) k
  have hS : s.Since s.vm 0 := (State.WarmedH.refl s).since 0
  have hk : 0 ≤ h0.size := Nat.zero_le _
  have wS : ∀ a ∈ Bundle.stringAtoms, a.before a0 Z = true := own_wS hw
  have hEL := own_EW hw
  have SWx := SWh
  obtain ⟨S_CS, hcs, S_AD, S_HI, S_LO, S_SI, hcat_vf⟩ := SWx
  have cn1 := fun (t : State) (kt : Steps p.tables e below (s₁.setTop (mkF m 6 #[.val (.int p1), .val (.int p2), .val (.int p3), .val (.int ((p1 &&& (65535 : Int32)).toUInt32.toUInt16.toUInt32.toInt32)), .unset, .unset, .unset, .unset, .unset, .unset, .unset] [])) t) => pre0 t (by
    refine XS.iloadN X0.here hx rfl (hb hby at_0) rfl ?_
    show Steps p.tables e below (s₁.setTop (mkF m 1 #[.val (.int p1), .val (.int p2), .val (.int p3), .unset, .unset, .unset, .unset, .unset, .unset, .unset, .unset] [(.int p1)])) _
    refine X0.ldcInt hx hown (mvT hZ (hw _ (List.mem_of_getElem? (i := 0) rfl))) (g := (mkF m 1 #[.val (.int p1), .val (.int p2), .val (.int p3), .unset, .unset, .unset, .unset, .unset, .unset, .unset, .unset] [(.int p1)])) rfl (hb hby at_1) _ ?_
    show Steps p.tables e below (s₁.setTop (mkF m 3 #[.val (.int p1), .val (.int p2), .val (.int p3), .unset, .unset, .unset, .unset, .unset, .unset, .unset, .unset] [(.int (65535 : Int32)), (.int p1)])) _
    refine XS.iand X0.here hx rfl (hb hby at_3) rfl ?_
    show Steps p.tables e below (s₁.setTop (mkF m 4 #[.val (.int p1), .val (.int p2), .val (.int p3), .unset, .unset, .unset, .unset, .unset, .unset, .unset, .unset] [(.int (p1 &&& (65535 : Int32)))])) _
    refine XS.i2c X0.here hx rfl (hb hby at_4) rfl ?_
    show Steps p.tables e below (s₁.setTop (mkF m 5 #[.val (.int p1), .val (.int p2), .val (.int p3), .unset, .unset, .unset, .unset, .unset, .unset, .unset, .unset] [(.int ((p1 &&& (65535 : Int32)).toUInt32.toUInt16.toUInt32.toInt32))])) _
    refine XS.istoreN X0.here hx rfl (hb hby at_5) rfl (l' := #[.val (.int p1), .val (.int p2), .val (.int p3), .val (.int ((p1 &&& (65535 : Int32)).toUInt32.toUInt16.toUInt32.toInt32)), .unset, .unset, .unset, .unset, .unset, .unset, .unset]) rfl ?_
    show Steps p.tables e below (s₁.setTop (mkF m 6 #[.val (.int p1), .val (.int p2), .val (.int p3), .val (.int ((p1 &&& (65535 : Int32)).toUInt32.toUInt16.toUInt32.toInt32)), .unset, .unset, .unset, .unset, .unset, .unset, .unset] [])) _
    exact kt)
  obtain ⟨c0, hc0, cn2⟩ : ∃ c0 : Int32, (own_c16 c0) ∧ ∀ t, Steps p.tables e below (s₁.setTop (mkF m 6 #[.val (.int p1), .val (.int p2), .val (.int p3), .val (.int c0), .unset, .unset, .unset, .unset, .unset, .unset, .unset] [])) t → Steps p.tables e below (s₁.setTop (entryFrame m #[(.int p1), (.int p2), (.int p3)] maxLocals)) t := ⟨((p1 &&& (65535 : Int32)).toUInt32.toUInt16.toUInt32.toInt32), own_chr _, cn1⟩
  have cn3 := fun (t : State) (kt : Steps p.tables e below (s₁.setTop (mkF m 16 #[.val (.int p1), .val (.int p2), .val (.int p3), .val (.int c0), .val (.int ((((p1.toUInt32 >>> ((16 : Int32) &&& 31).toUInt32).toInt32) &&& (65535 : Int32)).toUInt32.toUInt16.toUInt32.toInt32)), .unset, .unset, .unset, .unset, .unset, .unset] [])) t) => cn2 t (by
    refine XS.iloadN X0.here hx rfl (hb hby at_6) rfl ?_
    show Steps p.tables e below (s₁.setTop (mkF m 7 #[.val (.int p1), .val (.int p2), .val (.int p3), .val (.int c0), .unset, .unset, .unset, .unset, .unset, .unset, .unset] [(.int p1)])) _
    refine XS.bipush X0.here hx rfl (hb hby at_7) ?_
    show Steps p.tables e below (s₁.setTop (mkF m 9 #[.val (.int p1), .val (.int p2), .val (.int p3), .val (.int c0), .unset, .unset, .unset, .unset, .unset, .unset, .unset] [(.int (16 : Int32)), (.int p1)])) _
    refine XS.iushr X0.here hx rfl (hb hby at_9) rfl ?_
    show Steps p.tables e below (s₁.setTop (mkF m 10 #[.val (.int p1), .val (.int p2), .val (.int p3), .val (.int c0), .unset, .unset, .unset, .unset, .unset, .unset, .unset] [(.int ((p1.toUInt32 >>> ((16 : Int32) &&& 31).toUInt32).toInt32))])) _
    refine X0.ldcInt hx hown (mvT hZ (hw _ (List.mem_of_getElem? (i := 0) rfl))) (g := (mkF m 10 #[.val (.int p1), .val (.int p2), .val (.int p3), .val (.int c0), .unset, .unset, .unset, .unset, .unset, .unset, .unset] [(.int ((p1.toUInt32 >>> ((16 : Int32) &&& 31).toUInt32).toInt32))])) rfl (hb hby at_10) _ ?_
    show Steps p.tables e below (s₁.setTop (mkF m 12 #[.val (.int p1), .val (.int p2), .val (.int p3), .val (.int c0), .unset, .unset, .unset, .unset, .unset, .unset, .unset] [(.int (65535 : Int32)), (.int ((p1.toUInt32 >>> ((16 : Int32) &&& 31).toUInt32).toInt32))])) _
    refine XS.iand X0.here hx rfl (hb hby at_12) rfl ?_
    show Steps p.tables e below (s₁.setTop (mkF m 13 #[.val (.int p1), .val (.int p2), .val (.int p3), .val (.int c0), .unset, .unset, .unset, .unset, .unset, .unset, .unset] [(.int (((p1.toUInt32 >>> ((16 : Int32) &&& 31).toUInt32).toInt32) &&& (65535 : Int32)))])) _
    refine XS.i2c X0.here hx rfl (hb hby at_13) rfl ?_
    show Steps p.tables e below (s₁.setTop (mkF m 14 #[.val (.int p1), .val (.int p2), .val (.int p3), .val (.int c0), .unset, .unset, .unset, .unset, .unset, .unset, .unset] [(.int ((((p1.toUInt32 >>> ((16 : Int32) &&& 31).toUInt32).toInt32) &&& (65535 : Int32)).toUInt32.toUInt16.toUInt32.toInt32))])) _
    refine XS.istore X0.here hx rfl (hb hby at_14) rfl (l' := #[.val (.int p1), .val (.int p2), .val (.int p3), .val (.int c0), .val (.int ((((p1.toUInt32 >>> ((16 : Int32) &&& 31).toUInt32).toInt32) &&& (65535 : Int32)).toUInt32.toUInt16.toUInt32.toInt32)), .unset, .unset, .unset, .unset, .unset, .unset]) rfl ?_
    show Steps p.tables e below (s₁.setTop (mkF m 16 #[.val (.int p1), .val (.int p2), .val (.int p3), .val (.int c0), .val (.int ((((p1.toUInt32 >>> ((16 : Int32) &&& 31).toUInt32).toInt32) &&& (65535 : Int32)).toUInt32.toUInt16.toUInt32.toInt32)), .unset, .unset, .unset, .unset, .unset, .unset] [])) _
    exact kt)
  obtain ⟨c1, hc1, cn4⟩ : ∃ c1 : Int32, (own_c16 c1) ∧ ∀ t, Steps p.tables e below (s₁.setTop (mkF m 16 #[.val (.int p1), .val (.int p2), .val (.int p3), .val (.int c0), .val (.int c1), .unset, .unset, .unset, .unset, .unset, .unset] [])) t → Steps p.tables e below (s₁.setTop (entryFrame m #[(.int p1), (.int p2), (.int p3)] maxLocals)) t := ⟨((((p1.toUInt32 >>> ((16 : Int32) &&& 31).toUInt32).toInt32) &&& (65535 : Int32)).toUInt32.toUInt16.toUInt32.toInt32), own_chr _, cn3⟩
  have cn5 := fun (t : State) (kt : Steps p.tables e below (s₁.setTop (mkF m 23 #[.val (.int p1), .val (.int p2), .val (.int p3), .val (.int c0), .val (.int c1), .val (.int ((p2 &&& (65535 : Int32)).toUInt32.toUInt16.toUInt32.toInt32)), .unset, .unset, .unset, .unset, .unset] [])) t) => cn4 t (by
    refine XS.iloadN X0.here hx rfl (hb hby at_16) rfl ?_
    show Steps p.tables e below (s₁.setTop (mkF m 17 #[.val (.int p1), .val (.int p2), .val (.int p3), .val (.int c0), .val (.int c1), .unset, .unset, .unset, .unset, .unset, .unset] [(.int p2)])) _
    refine X0.ldcInt hx hown (mvT hZ (hw _ (List.mem_of_getElem? (i := 0) rfl))) (g := (mkF m 17 #[.val (.int p1), .val (.int p2), .val (.int p3), .val (.int c0), .val (.int c1), .unset, .unset, .unset, .unset, .unset, .unset] [(.int p2)])) rfl (hb hby at_17) _ ?_
    show Steps p.tables e below (s₁.setTop (mkF m 19 #[.val (.int p1), .val (.int p2), .val (.int p3), .val (.int c0), .val (.int c1), .unset, .unset, .unset, .unset, .unset, .unset] [(.int (65535 : Int32)), (.int p2)])) _
    refine XS.iand X0.here hx rfl (hb hby at_19) rfl ?_
    show Steps p.tables e below (s₁.setTop (mkF m 20 #[.val (.int p1), .val (.int p2), .val (.int p3), .val (.int c0), .val (.int c1), .unset, .unset, .unset, .unset, .unset, .unset] [(.int (p2 &&& (65535 : Int32)))])) _
    refine XS.i2c X0.here hx rfl (hb hby at_20) rfl ?_
    show Steps p.tables e below (s₁.setTop (mkF m 21 #[.val (.int p1), .val (.int p2), .val (.int p3), .val (.int c0), .val (.int c1), .unset, .unset, .unset, .unset, .unset, .unset] [(.int ((p2 &&& (65535 : Int32)).toUInt32.toUInt16.toUInt32.toInt32))])) _
    refine XS.istore X0.here hx rfl (hb hby at_21) rfl (l' := #[.val (.int p1), .val (.int p2), .val (.int p3), .val (.int c0), .val (.int c1), .val (.int ((p2 &&& (65535 : Int32)).toUInt32.toUInt16.toUInt32.toInt32)), .unset, .unset, .unset, .unset, .unset]) rfl ?_
    show Steps p.tables e below (s₁.setTop (mkF m 23 #[.val (.int p1), .val (.int p2), .val (.int p3), .val (.int c0), .val (.int c1), .val (.int ((p2 &&& (65535 : Int32)).toUInt32.toUInt16.toUInt32.toInt32)), .unset, .unset, .unset, .unset, .unset] [])) _
    exact kt)
  obtain ⟨c2, hc2, cn6⟩ : ∃ c2 : Int32, (own_c16 c2) ∧ ∀ t, Steps p.tables e below (s₁.setTop (mkF m 23 #[.val (.int p1), .val (.int p2), .val (.int p3), .val (.int c0), .val (.int c1), .val (.int c2), .unset, .unset, .unset, .unset, .unset] [])) t → Steps p.tables e below (s₁.setTop (entryFrame m #[(.int p1), (.int p2), (.int p3)] maxLocals)) t := ⟨((p2 &&& (65535 : Int32)).toUInt32.toUInt16.toUInt32.toInt32), own_chr _, cn5⟩
  have cn7 := fun (t : State) (kt : Steps p.tables e below (s₁.setTop (mkF m 33 #[.val (.int p1), .val (.int p2), .val (.int p3), .val (.int c0), .val (.int c1), .val (.int c2), .val (.int ((((p2.toUInt32 >>> ((16 : Int32) &&& 31).toUInt32).toInt32) &&& (65535 : Int32)).toUInt32.toUInt16.toUInt32.toInt32)), .unset, .unset, .unset, .unset] [])) t) => cn6 t (by
    refine XS.iloadN X0.here hx rfl (hb hby at_23) rfl ?_
    show Steps p.tables e below (s₁.setTop (mkF m 24 #[.val (.int p1), .val (.int p2), .val (.int p3), .val (.int c0), .val (.int c1), .val (.int c2), .unset, .unset, .unset, .unset, .unset] [(.int p2)])) _
    refine XS.bipush X0.here hx rfl (hb hby at_24) ?_
    show Steps p.tables e below (s₁.setTop (mkF m 26 #[.val (.int p1), .val (.int p2), .val (.int p3), .val (.int c0), .val (.int c1), .val (.int c2), .unset, .unset, .unset, .unset, .unset] [(.int (16 : Int32)), (.int p2)])) _
    refine XS.iushr X0.here hx rfl (hb hby at_26) rfl ?_
    show Steps p.tables e below (s₁.setTop (mkF m 27 #[.val (.int p1), .val (.int p2), .val (.int p3), .val (.int c0), .val (.int c1), .val (.int c2), .unset, .unset, .unset, .unset, .unset] [(.int ((p2.toUInt32 >>> ((16 : Int32) &&& 31).toUInt32).toInt32))])) _
    refine X0.ldcInt hx hown (mvT hZ (hw _ (List.mem_of_getElem? (i := 0) rfl))) (g := (mkF m 27 #[.val (.int p1), .val (.int p2), .val (.int p3), .val (.int c0), .val (.int c1), .val (.int c2), .unset, .unset, .unset, .unset, .unset] [(.int ((p2.toUInt32 >>> ((16 : Int32) &&& 31).toUInt32).toInt32))])) rfl (hb hby at_27) _ ?_
    show Steps p.tables e below (s₁.setTop (mkF m 29 #[.val (.int p1), .val (.int p2), .val (.int p3), .val (.int c0), .val (.int c1), .val (.int c2), .unset, .unset, .unset, .unset, .unset] [(.int (65535 : Int32)), (.int ((p2.toUInt32 >>> ((16 : Int32) &&& 31).toUInt32).toInt32))])) _
    refine XS.iand X0.here hx rfl (hb hby at_29) rfl ?_
    show Steps p.tables e below (s₁.setTop (mkF m 30 #[.val (.int p1), .val (.int p2), .val (.int p3), .val (.int c0), .val (.int c1), .val (.int c2), .unset, .unset, .unset, .unset, .unset] [(.int (((p2.toUInt32 >>> ((16 : Int32) &&& 31).toUInt32).toInt32) &&& (65535 : Int32)))])) _
    refine XS.i2c X0.here hx rfl (hb hby at_30) rfl ?_
    show Steps p.tables e below (s₁.setTop (mkF m 31 #[.val (.int p1), .val (.int p2), .val (.int p3), .val (.int c0), .val (.int c1), .val (.int c2), .unset, .unset, .unset, .unset, .unset] [(.int ((((p2.toUInt32 >>> ((16 : Int32) &&& 31).toUInt32).toInt32) &&& (65535 : Int32)).toUInt32.toUInt16.toUInt32.toInt32))])) _
    refine XS.istore X0.here hx rfl (hb hby at_31) rfl (l' := #[.val (.int p1), .val (.int p2), .val (.int p3), .val (.int c0), .val (.int c1), .val (.int c2), .val (.int ((((p2.toUInt32 >>> ((16 : Int32) &&& 31).toUInt32).toInt32) &&& (65535 : Int32)).toUInt32.toUInt16.toUInt32.toInt32)), .unset, .unset, .unset, .unset]) rfl ?_
    show Steps p.tables e below (s₁.setTop (mkF m 33 #[.val (.int p1), .val (.int p2), .val (.int p3), .val (.int c0), .val (.int c1), .val (.int c2), .val (.int ((((p2.toUInt32 >>> ((16 : Int32) &&& 31).toUInt32).toInt32) &&& (65535 : Int32)).toUInt32.toUInt16.toUInt32.toInt32)), .unset, .unset, .unset, .unset] [])) _
    exact kt)
  obtain ⟨c3, hc3, cn8⟩ : ∃ c3 : Int32, (own_c16 c3) ∧ ∀ t, Steps p.tables e below (s₁.setTop (mkF m 33 #[.val (.int p1), .val (.int p2), .val (.int p3), .val (.int c0), .val (.int c1), .val (.int c2), .val (.int c3), .unset, .unset, .unset, .unset] [])) t → Steps p.tables e below (s₁.setTop (entryFrame m #[(.int p1), (.int p2), (.int p3)] maxLocals)) t := ⟨((((p2.toUInt32 >>> ((16 : Int32) &&& 31).toUInt32).toInt32) &&& (65535 : Int32)).toUInt32.toUInt16.toUInt32.toInt32), own_chr _, cn7⟩
  have cn9 := fun (t : State) (kt : Steps p.tables e below (s₁.setTop (mkF m 41 #[.val (.int p1), .val (.int p2), .val (.int p3), .val (.int c0), .val (.int c1), .val (.int c2), .val (.int c3), .val (.int ((p3 &&& (2147483647 : Int32)) % (5 : Int32))), .unset, .unset, .unset] [])) t) => cn8 t (by
    refine XS.iloadN X0.here hx rfl (hb hby at_33) rfl ?_
    show Steps p.tables e below (s₁.setTop (mkF m 34 #[.val (.int p1), .val (.int p2), .val (.int p3), .val (.int c0), .val (.int c1), .val (.int c2), .val (.int c3), .unset, .unset, .unset, .unset] [(.int p3)])) _
    refine X0.ldcInt hx hown (mvT hZ (hw _ (List.mem_of_getElem? (i := 1) rfl))) (g := (mkF m 34 #[.val (.int p1), .val (.int p2), .val (.int p3), .val (.int c0), .val (.int c1), .val (.int c2), .val (.int c3), .unset, .unset, .unset, .unset] [(.int p3)])) rfl (hb hby at_34) _ ?_
    show Steps p.tables e below (s₁.setTop (mkF m 36 #[.val (.int p1), .val (.int p2), .val (.int p3), .val (.int c0), .val (.int c1), .val (.int c2), .val (.int c3), .unset, .unset, .unset, .unset] [(.int (2147483647 : Int32)), (.int p3)])) _
    refine XS.iand X0.here hx rfl (hb hby at_36) rfl ?_
    show Steps p.tables e below (s₁.setTop (mkF m 37 #[.val (.int p1), .val (.int p2), .val (.int p3), .val (.int c0), .val (.int c1), .val (.int c2), .val (.int c3), .unset, .unset, .unset, .unset] [(.int (p3 &&& (2147483647 : Int32)))])) _
    refine XS.iconst X0.here hx rfl (hb hby at_37) ?_
    show Steps p.tables e below (s₁.setTop (mkF m 38 #[.val (.int p1), .val (.int p2), .val (.int p3), .val (.int c0), .val (.int c1), .val (.int c2), .val (.int c3), .unset, .unset, .unset, .unset] [(.int (5 : Int32)), (.int (p3 &&& (2147483647 : Int32)))])) _
    refine iremM X0 hx rfl (hb hby at_38) rfl (by decide) ?_
    show Steps p.tables e below (s₁.setTop (mkF m 39 #[.val (.int p1), .val (.int p2), .val (.int p3), .val (.int c0), .val (.int c1), .val (.int c2), .val (.int c3), .unset, .unset, .unset, .unset] [(.int ((p3 &&& (2147483647 : Int32)) % (5 : Int32)))])) _
    refine XS.istore X0.here hx rfl (hb hby at_39) rfl (l' := #[.val (.int p1), .val (.int p2), .val (.int p3), .val (.int c0), .val (.int c1), .val (.int c2), .val (.int c3), .val (.int ((p3 &&& (2147483647 : Int32)) % (5 : Int32))), .unset, .unset, .unset]) rfl ?_
    show Steps p.tables e below (s₁.setTop (mkF m 41 #[.val (.int p1), .val (.int p2), .val (.int p3), .val (.int c0), .val (.int c1), .val (.int c2), .val (.int c3), .val (.int ((p3 &&& (2147483647 : Int32)) % (5 : Int32))), .unset, .unset, .unset] [])) _
    exact kt)
  rcases own_k5 p3 with hk5 | hk5 | hk5 | hk5 | hk5
  · have cn10 := fun (t : State) (kt : Steps p.tables e below (s₁.setTop (mkF m 43 #[.val (.int p1), .val (.int p2), .val (.int p3), .val (.int c0), .val (.int c1), .val (.int c2), .val (.int c3), .val (.int ((p3 &&& (2147483647 : Int32)) % (5 : Int32))), .unset, .unset, .unset] [(.int ((p3 &&& (2147483647 : Int32)) % (5 : Int32)))])) t) => cn9 t (by
      refine XS.iload X0.here hx rfl (hb hby at_41) rfl ?_
      show Steps p.tables e below (s₁.setTop (mkF m 43 #[.val (.int p1), .val (.int p2), .val (.int p3), .val (.int c0), .val (.int c1), .val (.int c2), .val (.int c3), .val (.int ((p3 &&& (2147483647 : Int32)) % (5 : Int32))), .unset, .unset, .unset] [(.int ((p3 &&& (2147483647 : Int32)) % (5 : Int32)))])) _
      exact kt)
    have cn11 := fun (t : State) (kt : Steps p.tables e below (s₁.setTop (mkF m 47 #[.val (.int p1), .val (.int p2), .val (.int p3), .val (.int c0), .val (.int c1), .val (.int c2), .val (.int c3), .val (.int ((p3 &&& (2147483647 : Int32)) % (5 : Int32))), .unset, .unset, .unset] [(.int (0 : Int32))])) t) => cn10 t (by
      refine XS.ifNo X0.here hx rfl (hb hby at_43) rfl ((if0 _ _).trans (teq hk5).2) ?_
      show Steps p.tables e below (s₁.setTop (mkF m 46 #[.val (.int p1), .val (.int p2), .val (.int p3), .val (.int c0), .val (.int c1), .val (.int c2), .val (.int c3), .val (.int ((p3 &&& (2147483647 : Int32)) % (5 : Int32))), .unset, .unset, .unset] [])) _
      refine XS.iconst X0.here hx rfl (hb hby at_46) ?_
      show Steps p.tables e below (s₁.setTop (mkF m 47 #[.val (.int p1), .val (.int p2), .val (.int p3), .val (.int c0), .val (.int c1), .val (.int c2), .val (.int c3), .val (.int ((p3 &&& (2147483647 : Int32)) % (5 : Int32))), .unset, .unset, .unset] [(.int (0 : Int32))])) _
      exact kt)
    obtain ⟨T12, h12, k12, X12, e12, E12, A12, st12⟩ := newP X0 hx hZ (hw _ (List.mem_of_getElem? (i := 2) rfl)) e0 (g := (mkF m 47 #[.val (.int p1), .val (.int p2), .val (.int p3), .val (.int c0), .val (.int c1), .val (.int c2), .val (.int c3), .val (.int ((p3 &&& (2147483647 : Int32)) % (5 : Int32))), .unset, .unset, .unset] [(.int (0 : Int32))])) rfl (hb hby at_47) rfl (by decide) (cap := 0) (by decide) (by decide) (by decide) (by decide)
    obtain ⟨b12, g12⟩ : ∃ z, z = h0.size := ⟨_, rfl⟩
    rw [← g12] at A12 st12
    have sz_b12 : h0.size ≤ b12 := Nat.le_trans (Keep.refl h0 []).1 (Nat.le_of_eq g12.symm)
    have g_b12 : n0 ≤ b12 := Nat.le_trans (O0.1 ▸ O0.2.1) sz_b12
    have O12 := O0.ext E12
    have K12 : Keep h0 h12 [] := (Keep.refl h0 []).ext E12
    have hk := Nat.le_trans hk E12.1
    have Y_b12 := Safe.ext E12 CH (Safe.new (Nat.le_of_eq g12.symm))
    have CH := CHv.ext E12 CH
    have V12 : Arv Z h12 b12 k12 .char (0 : Int32) [] (.int (0 : Int32)) := (Arv.new A12 (by decide)).pad (pad_rep [] (.int (0 : Int32)) 0)
    have cn13 := fun (t : State) (kt : Steps p.tables e below (T12.setTop (mkF m 210 #[.val (.int p1), .val (.int p2), .val (.int p3), .val (.int c0), .val (.int c1), .val (.int c2), .val (.int c3), .val (.int ((p3 &&& (2147483647 : Int32)) % (5 : Int32))), .val (.ref b12), .val (.int (0 : Int32)), .unset] [])) t) => cn11 t (by
      refine st12 _ ?_
      show Steps p.tables e below (T12.setTop (mkF m 49 #[.val (.int p1), .val (.int p2), .val (.int p3), .val (.int c0), .val (.int c1), .val (.int c2), .val (.int c3), .val (.int ((p3 &&& (2147483647 : Int32)) % (5 : Int32))), .unset, .unset, .unset] [(.ref b12)])) _
      refine XS.astore X12.here hx rfl (hb hby at_49) rfl rfl (l' := #[.val (.int p1), .val (.int p2), .val (.int p3), .val (.int c0), .val (.int c1), .val (.int c2), .val (.int c3), .val (.int ((p3 &&& (2147483647 : Int32)) % (5 : Int32))), .val (.ref b12), .unset, .unset]) rfl ?_
      show Steps p.tables e below (T12.setTop (mkF m 51 #[.val (.int p1), .val (.int p2), .val (.int p3), .val (.int c0), .val (.int c1), .val (.int c2), .val (.int c3), .val (.int ((p3 &&& (2147483647 : Int32)) % (5 : Int32))), .val (.ref b12), .unset, .unset] [])) _
      refine XS.iconst X12.here hx rfl (hb hby at_51) ?_
      show Steps p.tables e below (T12.setTop (mkF m 52 #[.val (.int p1), .val (.int p2), .val (.int p3), .val (.int c0), .val (.int c1), .val (.int c2), .val (.int c3), .val (.int ((p3 &&& (2147483647 : Int32)) % (5 : Int32))), .val (.ref b12), .unset, .unset] [(.int (0 : Int32))])) _
      refine XS.istore X12.here hx rfl (hb hby at_52) rfl (l' := #[.val (.int p1), .val (.int p2), .val (.int p3), .val (.int c0), .val (.int c1), .val (.int c2), .val (.int c3), .val (.int ((p3 &&& (2147483647 : Int32)) % (5 : Int32))), .val (.ref b12), .val (.int (0 : Int32)), .unset]) rfl ?_
      show Steps p.tables e below (T12.setTop (mkF m 54 #[.val (.int p1), .val (.int p2), .val (.int p3), .val (.int c0), .val (.int c1), .val (.int c2), .val (.int c3), .val (.int ((p3 &&& (2147483647 : Int32)) % (5 : Int32))), .val (.ref b12), .val (.int (0 : Int32)), .unset] [])) _
      refine XS.goto X12.here hx rfl (pc0 := 54) (pc' := 210) rfl (hb hby at_54) (by decide) (by decide) ?_
      show Steps p.tables e below (T12.setTop (mkF m 210 #[.val (.int p1), .val (.int p2), .val (.int p3), .val (.int c0), .val (.int c1), .val (.int c2), .val (.int c3), .val (.int ((p3 &&& (2147483647 : Int32)) % (5 : Int32))), .val (.ref b12), .val (.int (0 : Int32)), .unset] [])) _
      exact kt)
    obtain ⟨T14, h14, X14, e14, E14, A14, D14, U14, st14⟩ := newO X12 hx hZ hown (hw _ (List.mem_of_getElem? (i := 7) rfl)) (hw _ (List.mem_of_getElem? (i := 8) rfl)) (hw _ (List.mem_of_getElem? (i := 9) rfl)) e12 (g := (mkF m 210 #[.val (.int p1), .val (.int p2), .val (.int p3), .val (.int c0), .val (.int c1), .val (.int c2), .val (.int c3), .val (.int ((p3 &&& (2147483647 : Int32)) % (5 : Int32))), .val (.ref b12), .val (.int (0 : Int32)), .unset] [])) rfl (hb hby at_210) (by decide) (by decide)
    obtain ⟨b14, g14⟩ : ∃ z, z = h12.size := ⟨_, rfl⟩
    rw [← g14] at A14 D14 U14 st14
    have ne_b12_b14 : b12 ≠ b14 := Nat.ne_of_lt (Nat.lt_of_lt_of_le V12.lt (Nat.le_of_eq g14.symm))
    have sz_b14 : h0.size ≤ b14 := Nat.le_trans K12.1 (Nat.le_of_eq g14.symm)
    have g_b14 : n0 ≤ b14 := Nat.le_trans (O0.1 ▸ O0.2.1) sz_b14
    have V12_e14 := V12.ext E14
    have O14 := O12.ext E14
    have K14 : Keep h0 h14 [] := K12.ext E14
    have hk := Nat.le_trans hk E14.1
    have Y_b14 := Safe.ext E14 CH (Safe.new (Nat.le_of_eq g14.symm))
    have CH := CHv.ext E14 CH
    have Fcoder_14 : Fld Z h14 b14 "java/lang/String" "coder" "B" (.int (0 : Int32)) := D14 (Or.inr (hw _ (List.mem_of_getElem? (i := 33) rfl))) (ty := .byte) (by decide)
    have Fvalue_14 : Fld Z h14 b14 "java/lang/String" "value" "[B" .null := D14 (Or.inr (hw _ (List.mem_of_getElem? (i := 35) rfl))) (ty := (.array .byte)) (by decide)
    have cn15 := fun (t : State) (kt : Steps p.tables e below (T14.setTop (mkF m 216 #[.val (.int p1), .val (.int p2), .val (.int p3), .val (.int c0), .val (.int c1), .val (.int c2), .val (.int c3), .val (.int ((p3 &&& (2147483647 : Int32)) % (5 : Int32))), .val (.ref b12), .val (.int (0 : Int32)), .unset] [(.ref b12), (.ref b14), (.ref b14)])) t) => cn13 t (by
      refine st14 _ ?_
      show Steps p.tables e below (T14.setTop (mkF m 213 #[.val (.int p1), .val (.int p2), .val (.int p3), .val (.int c0), .val (.int c1), .val (.int c2), .val (.int c3), .val (.int ((p3 &&& (2147483647 : Int32)) % (5 : Int32))), .val (.ref b12), .val (.int (0 : Int32)), .unset] [(.ref b14)])) _
      refine XS.dup X14.here hx rfl (hb hby at_213) rfl rfl ?_
      show Steps p.tables e below (T14.setTop (mkF m 214 #[.val (.int p1), .val (.int p2), .val (.int p3), .val (.int c0), .val (.int c1), .val (.int c2), .val (.int c3), .val (.int ((p3 &&& (2147483647 : Int32)) % (5 : Int32))), .val (.ref b12), .val (.int (0 : Int32)), .unset] [(.ref b14), (.ref b14)])) _
      refine XS.aload X14.here hx rfl (hb hby at_214) rfl rfl ?_
      show Steps p.tables e below (T14.setTop (mkF m 216 #[.val (.int p1), .val (.int p2), .val (.int p3), .val (.int c0), .val (.int c1), .val (.int c2), .val (.int c3), .val (.int ((p3 &&& (2147483647 : Int32)) % (5 : Int32))), .val (.ref b12), .val (.int (0 : Int32)), .unset] [(.ref b12), (.ref b14), (.ref b14)])) _
      exact kt)
    have AFc := AF.of_arv (n := 0) V12_e14 rfl
    obtain ⟨_, _, ⟨T16, L16, k16, n16⟩, -, X16, hSq16, hgr16, ⟨Lc16, hQ16, l16, y16, z16⟩, st16⟩ := X14.specialBackS hx (y := (⟨"java/lang/String", "<init>", "([C)V"⟩ : MethodName)) rfl hown (mvT hZ (hw _ (List.mem_of_getElem? (i := 10) rfl))) (mvT hZ (hw _ (List.mem_of_getElem? (i := 11) rfl))) (mvT hZ (hw _ (List.mem_of_getElem? (i := 12) rfl))) (by decide) (own_backC (s := s) (W := 1) (rm3e l Z a0 hw [] b14 b12 k12 _ h14 n0 O14 g_b14 A14 Fvalue_14 Fcoder_14 (Ne.symm ne_b12_b14) AFc) hZ (hw _ (List.mem_of_getElem? (i := 12) rfl)) (hw _ (List.mem_of_getElem? (i := 9) rfl)) (by decide) (by decide) hEL CH) (g := (mkF m 216 #[.val (.int p1), .val (.int p2), .val (.int p3), .val (.int c0), .val (.int c1), .val (.int c2), .val (.int c3), .val (.int ((p3 &&& (2147483647 : Int32)) % (5 : Int32))), .val (.ref b12), .val (.int (0 : Int32)), .unset] [(.ref b12), (.ref b14), (.ref b14)])) rfl (by rw [hml]; rfl) (Steps.refl _) (a := b14) (argsL := [(.ref b12)]) (rest := [(.ref b14)]) (lenOf pd_17 rfl) rfl (by show 2 * 0 + _ ≤ _; exact Nat.le_of_eq rfl) (hb hby at_216) (fun _ _ => ⟨rfl, e14, (by decide : 2 + 2 ≤ _), (by decide : 4 + 4 ≤ _)⟩)
    dsimp only [Pt.U, Pt.locs, Pt.cells, Pt.slots] at X16 hSq16 hgr16 l16 y16 z16 st16 hQ16
    subst l16 y16 z16
    obtain ⟨X16, hS, hZ, hown⟩ := rebS hS (by rw [e14]; exact hk) X16 hSq16 hgr16 hZ hown
    have hk := Nat.le_refl T16.heap.size
    obtain ⟨rfl, Nq16, Kq16, b16x, kb16, fb16, cd16, SS16⟩ := hQ16
    have N16 := Fr.app N0 Nq16
    have K16 := Kq16
    have A14_e16 := A14.keep K16
    have O16 := O14.keep K16 (allS g_b14 all0)
    have KK16 : Keep h0 T16.heap [] := K14.trans K16 (allS (Or.inr sz_b14) all0)
    have cn17 := fun (t : State) (kt : Steps p.tables e below (T16.setTop (mkF m 223 #[.val (.int p1), .val (.int p2), .val (.int p3), .val (.int c0), .val (.int c1), .val (.int c2), .val (.int c3), .val (.int ((p3 &&& (2147483647 : Int32)) % (5 : Int32))), .val (.ref b12), .val (.int (0 : Int32)), .val (.ref b14)] [(.ref b14)])) t) => cn15 t (by
      refine st16.trans ?_
      show Steps p.tables e below (T16.setTop (mkF m 219 #[.val (.int p1), .val (.int p2), .val (.int p3), .val (.int c0), .val (.int c1), .val (.int c2), .val (.int c3), .val (.int ((p3 &&& (2147483647 : Int32)) % (5 : Int32))), .val (.ref b12), .val (.int (0 : Int32)), .unset] [(.ref b14)])) _
      refine XS.astore X16.here hx rfl (hb hby at_219) rfl rfl (l' := #[.val (.int p1), .val (.int p2), .val (.int p3), .val (.int c0), .val (.int c1), .val (.int c2), .val (.int c3), .val (.int ((p3 &&& (2147483647 : Int32)) % (5 : Int32))), .val (.ref b12), .val (.int (0 : Int32)), .val (.ref b14)]) rfl ?_
      show Steps p.tables e below (T16.setTop (mkF m 221 #[.val (.int p1), .val (.int p2), .val (.int p3), .val (.int c0), .val (.int c1), .val (.int c2), .val (.int c3), .val (.int ((p3 &&& (2147483647 : Int32)) % (5 : Int32))), .val (.ref b12), .val (.int (0 : Int32)), .val (.ref b14)] [])) _
      refine XS.aload X16.here hx rfl (hb hby at_221) rfl rfl ?_
      show Steps p.tables e below (T16.setTop (mkF m 223 #[.val (.int p1), .val (.int p2), .val (.int p3), .val (.int c0), .val (.int c1), .val (.int c2), .val (.int c3), .val (.int ((p3 &&& (2147483647 : Int32)) % (5 : Int32))), .val (.ref b12), .val (.int (0 : Int32)), .val (.ref b14)] [(.ref b14)])) _
      exact kt)
    obtain ⟨_, _, ⟨T18, L18, k18, n18⟩, -, X18, ⟨Lc18, hQ18, l18, y18, z18⟩, st18⟩ := Jvm.LawKit.callS X16 hx (y := (⟨"com/example/idlsmith/idlsmith/javasource/ClassFile", "modifiedUtf8", "(Ljava/lang/String;)I"⟩ : MethodName)) hown (mvT hZ (hw _ (List.mem_of_getElem? (i := 36) rfl))) (mvT hZ (hw _ (List.mem_of_getElem? (i := 37) rfl))) (mvT hZ (hw _ (List.mem_of_getElem? (i := 38) rfl))) (mvT hZ (hw _ (List.mem_of_getElem? (i := 39) rfl))) (by decide) (backOf (W := 0) (rm8 l Z a0 hw [] b14 b16x ([] : List Int32) kb16 fb16 cd16 co vf T16.heap n0 O16 (by decide) own_u0 SS16 SWh) hZ (hw _ (List.mem_of_getElem? (i := 39) rfl)) (hw _ (List.mem_of_getElem? (i := 38) rfl)) (by decide) (by decide)) (g := (mkF m 223 #[.val (.int p1), .val (.int p2), .val (.int p3), .val (.int c0), .val (.int c1), .val (.int c2), .val (.int c3), .val (.int ((p3 &&& (2147483647 : Int32)) % (5 : Int32))), .val (.ref b12), .val (.int (0 : Int32)), .val (.ref b14)] [(.ref b14)])) rfl (by rw [hml]; rfl) (argsL := [(.ref b14)]) (rest := []) (lenOf pd_18 rfl) rfl (by show 2 * 0 + _ ≤ _; exact Nat.le_of_eq rfl) (hb hby at_223) (fun _ _ => ⟨rfl, rfl, (by decide : 4 + 0 ≤ _), (by decide : 8 + 0 ≤ _)⟩)
    dsimp only [Pt.U, Pt.locs, Pt.cells, Pt.slots] at X18 l18 y18 z18 st18 hQ18
    subst l18 y18 z18
    obtain ⟨rfl, Nq18, eh18⟩ := hQ18
    have N18 := Fr.app N16 Nq18
    have cn19 := fun (t : State) (kt : Steps p.tables e below (T18.setTop (mkF m 228 #[.val (.int p1), .val (.int p2), .val (.int p3), .val (.int c0), .val (.int c1), .val (.int c2), .val (.int c3), .val (.int ((p3 &&& (2147483647 : Int32)) % (5 : Int32))), .val (.ref b12), .val (.int (0 : Int32)), .val (.ref b14)] [(.int (0 : Int32)), (.int (own_sum ([] : List Int32) ([] : List Int32).length))])) t) => cn17 t (by
      refine st18 _ ?_
      show Steps p.tables e below (T18.setTop (mkF m 226 #[.val (.int p1), .val (.int p2), .val (.int p3), .val (.int c0), .val (.int c1), .val (.int c2), .val (.int c3), .val (.int ((p3 &&& (2147483647 : Int32)) % (5 : Int32))), .val (.ref b12), .val (.int (0 : Int32)), .val (.ref b14)] [(.int (own_sum ([] : List Int32) ([] : List Int32).length))])) _
      refine XS.iload X18.here hx rfl (hb hby at_226) rfl ?_
      show Steps p.tables e below (T18.setTop (mkF m 228 #[.val (.int p1), .val (.int p2), .val (.int p3), .val (.int c0), .val (.int c1), .val (.int c2), .val (.int c3), .val (.int ((p3 &&& (2147483647 : Int32)) % (5 : Int32))), .val (.ref b12), .val (.int (0 : Int32)), .val (.ref b14)] [(.int (0 : Int32)), (.int (own_sum ([] : List Int32) ([] : List Int32).length))])) _
      exact kt)
    have cn20 := fun (t : State) (kt : Steps p.tables e below (T18.setTop (mkF m 236 #[.val (.int p1), .val (.int p2), .val (.int p3), .val (.int c0), .val (.int c1), .val (.int c2), .val (.int c3), .val (.int ((p3 &&& (2147483647 : Int32)) % (5 : Int32))), .val (.ref b12), .val (.int (0 : Int32)), .val (.ref b14)] [(.int (1 : Int32))])) t) => cn19 t (by
      refine XS.icmpNo X18.here hx rfl (hb hby at_228) rfl (teq own_fin0).2 ?_
      show Steps p.tables e below (T18.setTop (mkF m 231 #[.val (.int p1), .val (.int p2), .val (.int p3), .val (.int c0), .val (.int c1), .val (.int c2), .val (.int c3), .val (.int ((p3 &&& (2147483647 : Int32)) % (5 : Int32))), .val (.ref b12), .val (.int (0 : Int32)), .val (.ref b14)] [])) _
      refine XS.iconst X18.here hx rfl (hb hby at_231) ?_
      show Steps p.tables e below (T18.setTop (mkF m 232 #[.val (.int p1), .val (.int p2), .val (.int p3), .val (.int c0), .val (.int c1), .val (.int c2), .val (.int c3), .val (.int ((p3 &&& (2147483647 : Int32)) % (5 : Int32))), .val (.ref b12), .val (.int (0 : Int32)), .val (.ref b14)] [(.int (1 : Int32))])) _
      refine XS.goto X18.here hx rfl (pc0 := 232) (pc' := 236) rfl (hb hby at_232) (by decide) (by decide) ?_
      show Steps p.tables e below (T18.setTop (mkF m 236 #[.val (.int p1), .val (.int p2), .val (.int p3), .val (.int c0), .val (.int c1), .val (.int c2), .val (.int c3), .val (.int ((p3 &&& (2147483647 : Int32)) % (5 : Int32))), .val (.ref b12), .val (.int (0 : Int32)), .val (.ref b14)] [(.int (1 : Int32))])) _
      exact kt)
    obtain ⟨frs, hr, hrun, hended, hRW⟩ := X18.leaveW hS (by rw [eh18]; exact hk) (v := some (.int (1 : Int32))) (fun h => by rw [Bd.returns] at h; cases h)
    refine ⟨_, _, cn20 _ ?_, hrun, hended, _, _, rfl, ?_, hRW.1, hRW.2.1, hRW.2.2.1, hRW.2.2.2.mono (by decide) (by decide)⟩
    · exact retN X18 hx (t := .boolean) Bd.returns (by simp) (hb hby at_236) hr
    · show Q0 n0 _ T18.heap _
      rw [eh18]
      exact ⟨rfl, N18⟩
  · have cn21 := fun (t : State) (kt : Steps p.tables e below (s₁.setTop (mkF m 43 #[.val (.int p1), .val (.int p2), .val (.int p3), .val (.int c0), .val (.int c1), .val (.int c2), .val (.int c3), .val (.int ((p3 &&& (2147483647 : Int32)) % (5 : Int32))), .unset, .unset, .unset] [(.int ((p3 &&& (2147483647 : Int32)) % (5 : Int32)))])) t) => cn9 t (by
      refine XS.iload X0.here hx rfl (hb hby at_41) rfl ?_
      show Steps p.tables e below (s₁.setTop (mkF m 43 #[.val (.int p1), .val (.int p2), .val (.int p3), .val (.int c0), .val (.int c1), .val (.int c2), .val (.int c3), .val (.int ((p3 &&& (2147483647 : Int32)) % (5 : Int32))), .unset, .unset, .unset] [(.int ((p3 &&& (2147483647 : Int32)) % (5 : Int32)))])) _
      exact kt)
    have cn22 := fun (t : State) (kt : Steps p.tables e below (s₁.setTop (mkF m 60 #[.val (.int p1), .val (.int p2), .val (.int p3), .val (.int c0), .val (.int c1), .val (.int c2), .val (.int c3), .val (.int ((p3 &&& (2147483647 : Int32)) % (5 : Int32))), .unset, .unset, .unset] [(.int (1 : Int32)), (.int ((p3 &&& (2147483647 : Int32)) % (5 : Int32)))])) t) => cn21 t (by
      refine XS.ifYes X0.here hx rfl (pc0 := 43) (pc' := 57) rfl (hb hby at_43) rfl ((if0 _ _).trans (feq (by rw [hk5]; decide)).2) (by decide) (by decide) ?_
      show Steps p.tables e below (s₁.setTop (mkF m 57 #[.val (.int p1), .val (.int p2), .val (.int p3), .val (.int c0), .val (.int c1), .val (.int c2), .val (.int c3), .val (.int ((p3 &&& (2147483647 : Int32)) % (5 : Int32))), .unset, .unset, .unset] [])) _
      refine XS.iload X0.here hx rfl (hb hby at_57) rfl ?_
      show Steps p.tables e below (s₁.setTop (mkF m 59 #[.val (.int p1), .val (.int p2), .val (.int p3), .val (.int c0), .val (.int c1), .val (.int c2), .val (.int c3), .val (.int ((p3 &&& (2147483647 : Int32)) % (5 : Int32))), .unset, .unset, .unset] [(.int ((p3 &&& (2147483647 : Int32)) % (5 : Int32)))])) _
      refine XS.iconst X0.here hx rfl (hb hby at_59) ?_
      show Steps p.tables e below (s₁.setTop (mkF m 60 #[.val (.int p1), .val (.int p2), .val (.int p3), .val (.int c0), .val (.int c1), .val (.int c2), .val (.int c3), .val (.int ((p3 &&& (2147483647 : Int32)) % (5 : Int32))), .unset, .unset, .unset] [(.int (1 : Int32)), (.int ((p3 &&& (2147483647 : Int32)) % (5 : Int32)))])) _
      exact kt)
    have cn23 := fun (t : State) (kt : Steps p.tables e below (s₁.setTop (mkF m 64 #[.val (.int p1), .val (.int p2), .val (.int p3), .val (.int c0), .val (.int c1), .val (.int c2), .val (.int c3), .val (.int ((p3 &&& (2147483647 : Int32)) % (5 : Int32))), .unset, .unset, .unset] [(.int (1 : Int32))])) t) => cn22 t (by
      refine XS.icmpNo X0.here hx rfl (hb hby at_60) rfl (teq hk5).2 ?_
      show Steps p.tables e below (s₁.setTop (mkF m 63 #[.val (.int p1), .val (.int p2), .val (.int p3), .val (.int c0), .val (.int c1), .val (.int c2), .val (.int c3), .val (.int ((p3 &&& (2147483647 : Int32)) % (5 : Int32))), .unset, .unset, .unset] [])) _
      refine XS.iconst X0.here hx rfl (hb hby at_63) ?_
      show Steps p.tables e below (s₁.setTop (mkF m 64 #[.val (.int p1), .val (.int p2), .val (.int p3), .val (.int c0), .val (.int c1), .val (.int c2), .val (.int c3), .val (.int ((p3 &&& (2147483647 : Int32)) % (5 : Int32))), .unset, .unset, .unset] [(.int (1 : Int32))])) _
      exact kt)
    obtain ⟨T24, h24, k24, X24, e24, E24, A24, st24⟩ := newP X0 hx hZ (hw _ (List.mem_of_getElem? (i := 2) rfl)) e0 (g := (mkF m 64 #[.val (.int p1), .val (.int p2), .val (.int p3), .val (.int c0), .val (.int c1), .val (.int c2), .val (.int c3), .val (.int ((p3 &&& (2147483647 : Int32)) % (5 : Int32))), .unset, .unset, .unset] [(.int (1 : Int32))])) rfl (hb hby at_64) rfl (by decide) (cap := 1) (by decide) (by decide) (by decide) (by decide)
    obtain ⟨b24, g24⟩ : ∃ z, z = h0.size := ⟨_, rfl⟩
    rw [← g24] at A24 st24
    have sz_b24 : h0.size ≤ b24 := Nat.le_trans (Keep.refl h0 []).1 (Nat.le_of_eq g24.symm)
    have g_b24 : n0 ≤ b24 := Nat.le_trans (O0.1 ▸ O0.2.1) sz_b24
    have O24 := O0.ext E24
    have K24 : Keep h0 h24 [] := (Keep.refl h0 []).ext E24
    have hk := Nat.le_trans hk E24.1
    have V24 : Arv Z h24 b24 k24 .char (1 : Int32) [(.int (0 : Int32))] (.int (0 : Int32)) := (Arv.new A24 (by decide)).pad (pad_rep [] (.int (0 : Int32)) 1)
    have cn25 := fun (t : State) (kt : Steps p.tables e below (T24.setTop (mkF m 69 #[.val (.int p1), .val (.int p2), .val (.int p3), .val (.int c0), .val (.int c1), .val (.int c2), .val (.int c3), .val (.int ((p3 &&& (2147483647 : Int32)) % (5 : Int32))), .unset, .unset, .unset] [(.int c0), (.int (0 : Int32)), (.ref b24), (.ref b24)])) t) => cn23 t (by
      refine st24 _ ?_
      show Steps p.tables e below (T24.setTop (mkF m 66 #[.val (.int p1), .val (.int p2), .val (.int p3), .val (.int c0), .val (.int c1), .val (.int c2), .val (.int c3), .val (.int ((p3 &&& (2147483647 : Int32)) % (5 : Int32))), .unset, .unset, .unset] [(.ref b24)])) _
      refine XS.dup X24.here hx rfl (hb hby at_66) rfl rfl ?_
      show Steps p.tables e below (T24.setTop (mkF m 67 #[.val (.int p1), .val (.int p2), .val (.int p3), .val (.int c0), .val (.int c1), .val (.int c2), .val (.int c3), .val (.int ((p3 &&& (2147483647 : Int32)) % (5 : Int32))), .unset, .unset, .unset] [(.ref b24), (.ref b24)])) _
      refine XS.iconst X24.here hx rfl (hb hby at_67) ?_
      show Steps p.tables e below (T24.setTop (mkF m 68 #[.val (.int p1), .val (.int p2), .val (.int p3), .val (.int c0), .val (.int c1), .val (.int c2), .val (.int c3), .val (.int ((p3 &&& (2147483647 : Int32)) % (5 : Int32))), .unset, .unset, .unset] [(.int (0 : Int32)), (.ref b24), (.ref b24)])) _
      refine XS.iloadN X24.here hx rfl (hb hby at_68) rfl ?_
      show Steps p.tables e below (T24.setTop (mkF m 69 #[.val (.int p1), .val (.int p2), .val (.int p3), .val (.int c0), .val (.int c1), .val (.int c2), .val (.int c3), .val (.int ((p3 &&& (2147483647 : Int32)) % (5 : Int32))), .unset, .unset, .unset] [(.int c0), (.int (0 : Int32)), (.ref b24), (.ref b24)])) _
      exact kt)
    have Vx26 := V24
    obtain ⟨cl26, Ar26, q26, S26, M26, H26, G26⟩ := Vx26
    have hin26 : ¬ ((0 : Int32) < 0 ∨ cl26.slots.size ≤ ((0 : Int32)).toNatClampNeg) := inb_of S26 ⟨by decide, by decide⟩
    obtain ⟨T27, h27, X27, e27, W27, st27⟩ := stC X24 hx hZ e24 Ar26 (j := (0 : Int32)) hin26 (g := (mkF m 69 #[.val (.int p1), .val (.int p2), .val (.int p3), .val (.int c0), .val (.int c1), .val (.int c2), .val (.int c3), .val (.int ((p3 &&& (2147483647 : Int32)) % (5 : Int32))), .unset, .unset, .unset] [(.int c0), (.int (0 : Int32)), (.ref b24), (.ref b24)])) rfl rfl (hb hby at_69)
    rw [own_nc hc0] at W27
    have V27 : Arv Z h27 b24 k24 .char (1 : Int32) [(.int c0)] (.int (0 : Int32)) := Arv.set Ar26 q26 S26 M26 H26 G26 (own_fc hc0) W27 0 rfl (Nat.le_of_ble_eq_true rfl)
    have N27 := Fr.snoc X27 N0 g_b24
    have O27 := O24.wr W27 g_b24
    have hk := Nat.le_trans hk (Nat.le_of_eq W27.size.symm)
    have K27 : Keep h0 h27 [] := K24.wr W27 (Or.inr sz_b24)
    have cn28 := fun (t : State) (kt : Steps p.tables e below (T27.setTop (mkF m 73 #[.val (.int p1), .val (.int p2), .val (.int p3), .val (.int c0), .val (.int c1), .val (.int c2), .val (.int c3), .val (.int ((p3 &&& (2147483647 : Int32)) % (5 : Int32))), .val (.ref b24), .unset, .unset] [(.int c0)])) t) => cn25 t (by
      refine st27 _ ?_
      show Steps p.tables e below (T27.setTop (mkF m 70 #[.val (.int p1), .val (.int p2), .val (.int p3), .val (.int c0), .val (.int c1), .val (.int c2), .val (.int c3), .val (.int ((p3 &&& (2147483647 : Int32)) % (5 : Int32))), .unset, .unset, .unset] [(.ref b24)])) _
      refine XS.astore X27.here hx rfl (hb hby at_70) rfl rfl (l' := #[.val (.int p1), .val (.int p2), .val (.int p3), .val (.int c0), .val (.int c1), .val (.int c2), .val (.int c3), .val (.int ((p3 &&& (2147483647 : Int32)) % (5 : Int32))), .val (.ref b24), .unset, .unset]) rfl ?_
      show Steps p.tables e below (T27.setTop (mkF m 72 #[.val (.int p1), .val (.int p2), .val (.int p3), .val (.int c0), .val (.int c1), .val (.int c2), .val (.int c3), .val (.int ((p3 &&& (2147483647 : Int32)) % (5 : Int32))), .val (.ref b24), .unset, .unset] [])) _
      refine XS.iloadN X27.here hx rfl (hb hby at_72) rfl ?_
      show Steps p.tables e below (T27.setTop (mkF m 73 #[.val (.int p1), .val (.int p2), .val (.int p3), .val (.int c0), .val (.int c1), .val (.int c2), .val (.int c3), .val (.int ((p3 &&& (2147483647 : Int32)) % (5 : Int32))), .val (.ref b24), .unset, .unset] [(.int c0)])) _
      exact kt)
    obtain ⟨_, _, ⟨T29, L29, k29, n29⟩, -, X29, ⟨Lc29, hQ29, l29, y29, z29⟩, st29⟩ := Jvm.LawKit.callS X27 hx (y := (⟨"com/example/idlsmith/idlsmith/javasource/ClassFileModifiedUtf8PinLaw", "bytesOf", "(C)I"⟩ : MethodName)) hown (mvT hZ (hw _ (List.mem_of_getElem? (i := 3) rfl))) (mvT hZ (hw _ (List.mem_of_getElem? (i := 4) rfl))) (mvT hZ (hw _ (List.mem_of_getElem? (i := 5) rfl))) (mvT hZ (hw _ (List.mem_of_getElem? (i := 6) rfl))) (by decide) (backOf (W := 0) (rm1 l Z a0 hw [] c0 h27 n0 O27) hZ (hw _ (List.mem_of_getElem? (i := 6) rfl)) (hw _ (List.mem_of_getElem? (i := 5) rfl)) (by decide) (by decide)) (g := (mkF m 73 #[.val (.int p1), .val (.int p2), .val (.int p3), .val (.int c0), .val (.int c1), .val (.int c2), .val (.int c3), .val (.int ((p3 &&& (2147483647 : Int32)) % (5 : Int32))), .val (.ref b24), .unset, .unset] [(.int c0)])) rfl (by rw [hml]; rfl) (argsL := [(.int c0)]) (rest := []) (lenOf pd_16 rfl) rfl (by show 2 * 0 + _ ≤ _; exact Nat.le_of_eq rfl) (hb hby at_73) (fun _ _ => ⟨rfl, e27, (by decide : 1 + 0 ≤ _), (by decide : 1 + 0 ≤ _)⟩)
    dsimp only [Pt.U, Pt.locs, Pt.cells, Pt.slots] at X29 l29 y29 z29 st29 hQ29
    subst l29 y29 z29
    obtain ⟨rfl, Nq29, eh29⟩ := hQ29
    have N29 := Fr.app N27 Nq29
    have cn30 := fun (t : State) (kt : Steps p.tables e below (T29.setTop (mkF m 210 #[.val (.int p1), .val (.int p2), .val (.int p3), .val (.int c0), .val (.int c1), .val (.int c2), .val (.int c3), .val (.int ((p3 &&& (2147483647 : Int32)) % (5 : Int32))), .val (.ref b24), .val (.int (own_bo c0)), .unset] [])) t) => cn28 t (by
      refine st29 _ ?_
      show Steps p.tables e below (T29.setTop (mkF m 76 #[.val (.int p1), .val (.int p2), .val (.int p3), .val (.int c0), .val (.int c1), .val (.int c2), .val (.int c3), .val (.int ((p3 &&& (2147483647 : Int32)) % (5 : Int32))), .val (.ref b24), .unset, .unset] [(.int (own_bo c0))])) _
      refine XS.istore X29.here hx rfl (hb hby at_76) rfl (l' := #[.val (.int p1), .val (.int p2), .val (.int p3), .val (.int c0), .val (.int c1), .val (.int c2), .val (.int c3), .val (.int ((p3 &&& (2147483647 : Int32)) % (5 : Int32))), .val (.ref b24), .val (.int (own_bo c0)), .unset]) rfl ?_
      show Steps p.tables e below (T29.setTop (mkF m 78 #[.val (.int p1), .val (.int p2), .val (.int p3), .val (.int c0), .val (.int c1), .val (.int c2), .val (.int c3), .val (.int ((p3 &&& (2147483647 : Int32)) % (5 : Int32))), .val (.ref b24), .val (.int (own_bo c0)), .unset] [])) _
      refine XS.goto X29.here hx rfl (pc0 := 78) (pc' := 210) rfl (hb hby at_78) (by decide) (by decide) ?_
      show Steps p.tables e below (T29.setTop (mkF m 210 #[.val (.int p1), .val (.int p2), .val (.int p3), .val (.int c0), .val (.int c1), .val (.int c2), .val (.int c3), .val (.int ((p3 &&& (2147483647 : Int32)) % (5 : Int32))), .val (.ref b24), .val (.int (own_bo c0)), .unset] [])) _
      exact kt)
    obtain ⟨T31, h31, X31, e31, E31, A31, D31, U31, st31⟩ := newO X29 hx hZ hown (hw _ (List.mem_of_getElem? (i := 7) rfl)) (hw _ (List.mem_of_getElem? (i := 8) rfl)) (hw _ (List.mem_of_getElem? (i := 9) rfl)) eh29 (g := (mkF m 210 #[.val (.int p1), .val (.int p2), .val (.int p3), .val (.int c0), .val (.int c1), .val (.int c2), .val (.int c3), .val (.int ((p3 &&& (2147483647 : Int32)) % (5 : Int32))), .val (.ref b24), .val (.int (own_bo c0)), .unset] [])) rfl (hb hby at_210) (by decide) (by decide)
    obtain ⟨b31, g31⟩ : ∃ z, z = h27.size := ⟨_, rfl⟩
    rw [← g31] at A31 D31 U31 st31
    have ne_b24_b31 : b24 ≠ b31 := Nat.ne_of_lt (Nat.lt_of_lt_of_le V27.lt (Nat.le_of_eq g31.symm))
    have sz_b31 : h0.size ≤ b31 := Nat.le_trans K27.1 (Nat.le_of_eq g31.symm)
    have g_b31 : n0 ≤ b31 := Nat.le_trans (O0.1 ▸ O0.2.1) sz_b31
    have V27_e31 := V27.ext E31
    have O31 := O27.ext E31
    have K31 : Keep h0 h31 [] := K27.ext E31
    have hk := Nat.le_trans hk E31.1
    have Fcoder_31 : Fld Z h31 b31 "java/lang/String" "coder" "B" (.int (0 : Int32)) := D31 (Or.inr (hw _ (List.mem_of_getElem? (i := 33) rfl))) (ty := .byte) (by decide)
    have Fvalue_31 : Fld Z h31 b31 "java/lang/String" "value" "[B" .null := D31 (Or.inr (hw _ (List.mem_of_getElem? (i := 35) rfl))) (ty := (.array .byte)) (by decide)
    have cn32 := fun (t : State) (kt : Steps p.tables e below (T31.setTop (mkF m 216 #[.val (.int p1), .val (.int p2), .val (.int p3), .val (.int c0), .val (.int c1), .val (.int c2), .val (.int c3), .val (.int ((p3 &&& (2147483647 : Int32)) % (5 : Int32))), .val (.ref b24), .val (.int (own_bo c0)), .unset] [(.ref b24), (.ref b31), (.ref b31)])) t) => cn30 t (by
      refine st31 _ ?_
      show Steps p.tables e below (T31.setTop (mkF m 213 #[.val (.int p1), .val (.int p2), .val (.int p3), .val (.int c0), .val (.int c1), .val (.int c2), .val (.int c3), .val (.int ((p3 &&& (2147483647 : Int32)) % (5 : Int32))), .val (.ref b24), .val (.int (own_bo c0)), .unset] [(.ref b31)])) _
      refine XS.dup X31.here hx rfl (hb hby at_213) rfl rfl ?_
      show Steps p.tables e below (T31.setTop (mkF m 214 #[.val (.int p1), .val (.int p2), .val (.int p3), .val (.int c0), .val (.int c1), .val (.int c2), .val (.int c3), .val (.int ((p3 &&& (2147483647 : Int32)) % (5 : Int32))), .val (.ref b24), .val (.int (own_bo c0)), .unset] [(.ref b31), (.ref b31)])) _
      refine XS.aload X31.here hx rfl (hb hby at_214) rfl rfl ?_
      show Steps p.tables e below (T31.setTop (mkF m 216 #[.val (.int p1), .val (.int p2), .val (.int p3), .val (.int c0), .val (.int c1), .val (.int c2), .val (.int c3), .val (.int ((p3 &&& (2147483647 : Int32)) % (5 : Int32))), .val (.ref b24), .val (.int (own_bo c0)), .unset] [(.ref b24), (.ref b31), (.ref b31)])) _
      exact kt)
    have AFc := (AF.of_arv (n := 1) V27_e31 rfl).congr (fun j _ => own_getD [c0] j)
    obtain ⟨_, _, ⟨T33, L33, k33, n33⟩, -, X33, ⟨Lc33, hQ33, l33, y33, z33⟩, st33⟩ := X31.specialBack hx (y := (⟨"java/lang/String", "<init>", "([C)V"⟩ : MethodName)) rfl hown (mvT hZ (hw _ (List.mem_of_getElem? (i := 10) rfl))) (mvT hZ (hw _ (List.mem_of_getElem? (i := 11) rfl))) (mvT hZ (hw _ (List.mem_of_getElem? (i := 12) rfl))) (by decide) (backOf (W := 1) (rm3s l Z a0 hw [] b31 b24 k24 [c0] co vf h31 n0 O31 g_b31 A31 Fvalue_31 Fcoder_31 (Ne.symm ne_b24_b31) (by simp) (by simp) (own_u1 hc0 own_u0) AFc SWh) hZ (hw _ (List.mem_of_getElem? (i := 12) rfl)) (hw _ (List.mem_of_getElem? (i := 9) rfl)) (by decide) (by decide)) (g := (mkF m 216 #[.val (.int p1), .val (.int p2), .val (.int p3), .val (.int c0), .val (.int c1), .val (.int c2), .val (.int c3), .val (.int ((p3 &&& (2147483647 : Int32)) % (5 : Int32))), .val (.ref b24), .val (.int (own_bo c0)), .unset] [(.ref b24), (.ref b31), (.ref b31)])) rfl (by rw [hml]; rfl) (Steps.refl _) (a := b31) (argsL := [(.ref b24)]) (rest := [(.ref b31)]) (lenOf pd_17 rfl) rfl (by show 2 * 0 + _ ≤ _; exact Nat.le_of_eq rfl) (hb hby at_216) (fun _ _ => ⟨rfl, e31, (by decide : 2 + 2 ≤ _), (by decide : 5 + 12 ≤ _)⟩)
    dsimp only [Pt.U, Pt.locs, Pt.cells, Pt.slots] at X33 l33 y33 z33 st33 hQ33
    subst l33 y33 z33
    obtain ⟨rfl, Nq33, Kq33, b33x, kb33, fb33, cd33, SS33⟩ := hQ33
    have N33 := Fr.app N29 Nq33
    have K33 := Kq33
    have A31_e33 := A31.keep K33
    have AFc_e33 := AFc.keep K33 (ninS ne_b24_b31 nin0)
    have O33 := O31.keep K33 (allS g_b31 all0)
    have KK33 : Keep h0 T33.heap [] := K31.trans K33 (allS (Or.inr sz_b31) all0)
    have hk := Nat.le_trans hk K33.1
    have cn34 := fun (t : State) (kt : Steps p.tables e below (T33.setTop (mkF m 223 #[.val (.int p1), .val (.int p2), .val (.int p3), .val (.int c0), .val (.int c1), .val (.int c2), .val (.int c3), .val (.int ((p3 &&& (2147483647 : Int32)) % (5 : Int32))), .val (.ref b24), .val (.int (own_bo c0)), .val (.ref b31)] [(.ref b31)])) t) => cn32 t (by
      refine st33.trans ?_
      show Steps p.tables e below (T33.setTop (mkF m 219 #[.val (.int p1), .val (.int p2), .val (.int p3), .val (.int c0), .val (.int c1), .val (.int c2), .val (.int c3), .val (.int ((p3 &&& (2147483647 : Int32)) % (5 : Int32))), .val (.ref b24), .val (.int (own_bo c0)), .unset] [(.ref b31)])) _
      refine XS.astore X33.here hx rfl (hb hby at_219) rfl rfl (l' := #[.val (.int p1), .val (.int p2), .val (.int p3), .val (.int c0), .val (.int c1), .val (.int c2), .val (.int c3), .val (.int ((p3 &&& (2147483647 : Int32)) % (5 : Int32))), .val (.ref b24), .val (.int (own_bo c0)), .val (.ref b31)]) rfl ?_
      show Steps p.tables e below (T33.setTop (mkF m 221 #[.val (.int p1), .val (.int p2), .val (.int p3), .val (.int c0), .val (.int c1), .val (.int c2), .val (.int c3), .val (.int ((p3 &&& (2147483647 : Int32)) % (5 : Int32))), .val (.ref b24), .val (.int (own_bo c0)), .val (.ref b31)] [])) _
      refine XS.aload X33.here hx rfl (hb hby at_221) rfl rfl ?_
      show Steps p.tables e below (T33.setTop (mkF m 223 #[.val (.int p1), .val (.int p2), .val (.int p3), .val (.int c0), .val (.int c1), .val (.int c2), .val (.int c3), .val (.int ((p3 &&& (2147483647 : Int32)) % (5 : Int32))), .val (.ref b24), .val (.int (own_bo c0)), .val (.ref b31)] [(.ref b31)])) _
      exact kt)
    obtain ⟨_, _, ⟨T35, L35, k35, n35⟩, -, X35, ⟨Lc35, hQ35, l35, y35, z35⟩, st35⟩ := Jvm.LawKit.callS X33 hx (y := (⟨"com/example/idlsmith/idlsmith/javasource/ClassFile", "modifiedUtf8", "(Ljava/lang/String;)I"⟩ : MethodName)) hown (mvT hZ (hw _ (List.mem_of_getElem? (i := 36) rfl))) (mvT hZ (hw _ (List.mem_of_getElem? (i := 37) rfl))) (mvT hZ (hw _ (List.mem_of_getElem? (i := 38) rfl))) (mvT hZ (hw _ (List.mem_of_getElem? (i := 39) rfl))) (by decide) (backOf (W := 0) (rm8 l Z a0 hw [] b31 b33x [c0] kb33 fb33 cd33 co vf T33.heap n0 O33 (by simp) (own_u1 hc0 own_u0) SS33 SWh) hZ (hw _ (List.mem_of_getElem? (i := 39) rfl)) (hw _ (List.mem_of_getElem? (i := 38) rfl)) (by decide) (by decide)) (g := (mkF m 223 #[.val (.int p1), .val (.int p2), .val (.int p3), .val (.int c0), .val (.int c1), .val (.int c2), .val (.int c3), .val (.int ((p3 &&& (2147483647 : Int32)) % (5 : Int32))), .val (.ref b24), .val (.int (own_bo c0)), .val (.ref b31)] [(.ref b31)])) rfl (by rw [hml]; rfl) (argsL := [(.ref b31)]) (rest := []) (lenOf pd_18 rfl) rfl (by show 2 * 0 + _ ≤ _; exact Nat.le_of_eq rfl) (hb hby at_223) (fun _ _ => ⟨rfl, rfl, (by decide : 4 + 0 ≤ _), (by decide : 17 + 0 ≤ _)⟩)
    dsimp only [Pt.U, Pt.locs, Pt.cells, Pt.slots] at X35 l35 y35 z35 st35 hQ35
    subst l35 y35 z35
    obtain ⟨rfl, Nq35, eh35⟩ := hQ35
    have N35 := Fr.app N33 Nq35
    have cn36 := fun (t : State) (kt : Steps p.tables e below (T35.setTop (mkF m 228 #[.val (.int p1), .val (.int p2), .val (.int p3), .val (.int c0), .val (.int c1), .val (.int c2), .val (.int c3), .val (.int ((p3 &&& (2147483647 : Int32)) % (5 : Int32))), .val (.ref b24), .val (.int (own_bo c0)), .val (.ref b31)] [(.int (own_bo c0)), (.int (own_sum [c0] [c0].length))])) t) => cn34 t (by
      refine st35 _ ?_
      show Steps p.tables e below (T35.setTop (mkF m 226 #[.val (.int p1), .val (.int p2), .val (.int p3), .val (.int c0), .val (.int c1), .val (.int c2), .val (.int c3), .val (.int ((p3 &&& (2147483647 : Int32)) % (5 : Int32))), .val (.ref b24), .val (.int (own_bo c0)), .val (.ref b31)] [(.int (own_sum [c0] [c0].length))])) _
      refine XS.iload X35.here hx rfl (hb hby at_226) rfl ?_
      show Steps p.tables e below (T35.setTop (mkF m 228 #[.val (.int p1), .val (.int p2), .val (.int p3), .val (.int c0), .val (.int c1), .val (.int c2), .val (.int c3), .val (.int ((p3 &&& (2147483647 : Int32)) % (5 : Int32))), .val (.ref b24), .val (.int (own_bo c0)), .val (.ref b31)] [(.int (own_bo c0)), (.int (own_sum [c0] [c0].length))])) _
      exact kt)
    have cn37 := fun (t : State) (kt : Steps p.tables e below (T35.setTop (mkF m 236 #[.val (.int p1), .val (.int p2), .val (.int p3), .val (.int c0), .val (.int c1), .val (.int c2), .val (.int c3), .val (.int ((p3 &&& (2147483647 : Int32)) % (5 : Int32))), .val (.ref b24), .val (.int (own_bo c0)), .val (.ref b31)] [(.int (1 : Int32))])) t) => cn36 t (by
      refine XS.icmpNo X35.here hx rfl (hb hby at_228) rfl (teq own_fin1).2 ?_
      show Steps p.tables e below (T35.setTop (mkF m 231 #[.val (.int p1), .val (.int p2), .val (.int p3), .val (.int c0), .val (.int c1), .val (.int c2), .val (.int c3), .val (.int ((p3 &&& (2147483647 : Int32)) % (5 : Int32))), .val (.ref b24), .val (.int (own_bo c0)), .val (.ref b31)] [])) _
      refine XS.iconst X35.here hx rfl (hb hby at_231) ?_
      show Steps p.tables e below (T35.setTop (mkF m 232 #[.val (.int p1), .val (.int p2), .val (.int p3), .val (.int c0), .val (.int c1), .val (.int c2), .val (.int c3), .val (.int ((p3 &&& (2147483647 : Int32)) % (5 : Int32))), .val (.ref b24), .val (.int (own_bo c0)), .val (.ref b31)] [(.int (1 : Int32))])) _
      refine XS.goto X35.here hx rfl (pc0 := 232) (pc' := 236) rfl (hb hby at_232) (by decide) (by decide) ?_
      show Steps p.tables e below (T35.setTop (mkF m 236 #[.val (.int p1), .val (.int p2), .val (.int p3), .val (.int c0), .val (.int c1), .val (.int c2), .val (.int c3), .val (.int ((p3 &&& (2147483647 : Int32)) % (5 : Int32))), .val (.ref b24), .val (.int (own_bo c0)), .val (.ref b31)] [(.int (1 : Int32))])) _
      exact kt)
    obtain ⟨frs, hr, hrun, hended, hRW⟩ := X35.leaveW hS (by rw [eh35]; exact hk) (v := some (.int (1 : Int32))) (fun h => by rw [Bd.returns] at h; cases h)
    refine ⟨_, _, cn37 _ ?_, hrun, hended, _, _, rfl, ?_, hRW.1, hRW.2.1, hRW.2.2.1, hRW.2.2.2.mono (by decide) (by decide)⟩
    · exact retN X35 hx (t := .boolean) Bd.returns (by simp) (hb hby at_236) hr
    · show Q0 n0 _ T35.heap _
      rw [eh35]
      exact ⟨rfl, N35⟩
  · have cn38 := fun (t : State) (kt : Steps p.tables e below (s₁.setTop (mkF m 43 #[.val (.int p1), .val (.int p2), .val (.int p3), .val (.int c0), .val (.int c1), .val (.int c2), .val (.int c3), .val (.int ((p3 &&& (2147483647 : Int32)) % (5 : Int32))), .unset, .unset, .unset] [(.int ((p3 &&& (2147483647 : Int32)) % (5 : Int32)))])) t) => cn9 t (by
      refine XS.iload X0.here hx rfl (hb hby at_41) rfl ?_
      show Steps p.tables e below (s₁.setTop (mkF m 43 #[.val (.int p1), .val (.int p2), .val (.int p3), .val (.int c0), .val (.int c1), .val (.int c2), .val (.int c3), .val (.int ((p3 &&& (2147483647 : Int32)) % (5 : Int32))), .unset, .unset, .unset] [(.int ((p3 &&& (2147483647 : Int32)) % (5 : Int32)))])) _
      exact kt)
    have cn39 := fun (t : State) (kt : Steps p.tables e below (s₁.setTop (mkF m 60 #[.val (.int p1), .val (.int p2), .val (.int p3), .val (.int c0), .val (.int c1), .val (.int c2), .val (.int c3), .val (.int ((p3 &&& (2147483647 : Int32)) % (5 : Int32))), .unset, .unset, .unset] [(.int (1 : Int32)), (.int ((p3 &&& (2147483647 : Int32)) % (5 : Int32)))])) t) => cn38 t (by
      refine XS.ifYes X0.here hx rfl (pc0 := 43) (pc' := 57) rfl (hb hby at_43) rfl ((if0 _ _).trans (feq (by rw [hk5]; decide)).2) (by decide) (by decide) ?_
      show Steps p.tables e below (s₁.setTop (mkF m 57 #[.val (.int p1), .val (.int p2), .val (.int p3), .val (.int c0), .val (.int c1), .val (.int c2), .val (.int c3), .val (.int ((p3 &&& (2147483647 : Int32)) % (5 : Int32))), .unset, .unset, .unset] [])) _
      refine XS.iload X0.here hx rfl (hb hby at_57) rfl ?_
      show Steps p.tables e below (s₁.setTop (mkF m 59 #[.val (.int p1), .val (.int p2), .val (.int p3), .val (.int c0), .val (.int c1), .val (.int c2), .val (.int c3), .val (.int ((p3 &&& (2147483647 : Int32)) % (5 : Int32))), .unset, .unset, .unset] [(.int ((p3 &&& (2147483647 : Int32)) % (5 : Int32)))])) _
      refine XS.iconst X0.here hx rfl (hb hby at_59) ?_
      show Steps p.tables e below (s₁.setTop (mkF m 60 #[.val (.int p1), .val (.int p2), .val (.int p3), .val (.int c0), .val (.int c1), .val (.int c2), .val (.int c3), .val (.int ((p3 &&& (2147483647 : Int32)) % (5 : Int32))), .unset, .unset, .unset] [(.int (1 : Int32)), (.int ((p3 &&& (2147483647 : Int32)) % (5 : Int32)))])) _
      exact kt)
    have cn40 := fun (t : State) (kt : Steps p.tables e below (s₁.setTop (mkF m 84 #[.val (.int p1), .val (.int p2), .val (.int p3), .val (.int c0), .val (.int c1), .val (.int c2), .val (.int c3), .val (.int ((p3 &&& (2147483647 : Int32)) % (5 : Int32))), .unset, .unset, .unset] [(.int (2 : Int32)), (.int ((p3 &&& (2147483647 : Int32)) % (5 : Int32)))])) t) => cn39 t (by
      refine XS.icmpYes X0.here hx rfl (pc0 := 60) (pc' := 81) rfl (hb hby at_60) rfl (feq (by rw [hk5]; decide)).2 (by decide) (by decide) ?_
      show Steps p.tables e below (s₁.setTop (mkF m 81 #[.val (.int p1), .val (.int p2), .val (.int p3), .val (.int c0), .val (.int c1), .val (.int c2), .val (.int c3), .val (.int ((p3 &&& (2147483647 : Int32)) % (5 : Int32))), .unset, .unset, .unset] [])) _
      refine XS.iload X0.here hx rfl (hb hby at_81) rfl ?_
      show Steps p.tables e below (s₁.setTop (mkF m 83 #[.val (.int p1), .val (.int p2), .val (.int p3), .val (.int c0), .val (.int c1), .val (.int c2), .val (.int c3), .val (.int ((p3 &&& (2147483647 : Int32)) % (5 : Int32))), .unset, .unset, .unset] [(.int ((p3 &&& (2147483647 : Int32)) % (5 : Int32)))])) _
      refine XS.iconst X0.here hx rfl (hb hby at_83) ?_
      show Steps p.tables e below (s₁.setTop (mkF m 84 #[.val (.int p1), .val (.int p2), .val (.int p3), .val (.int c0), .val (.int c1), .val (.int c2), .val (.int c3), .val (.int ((p3 &&& (2147483647 : Int32)) % (5 : Int32))), .unset, .unset, .unset] [(.int (2 : Int32)), (.int ((p3 &&& (2147483647 : Int32)) % (5 : Int32)))])) _
      exact kt)
    have cn41 := fun (t : State) (kt : Steps p.tables e below (s₁.setTop (mkF m 88 #[.val (.int p1), .val (.int p2), .val (.int p3), .val (.int c0), .val (.int c1), .val (.int c2), .val (.int c3), .val (.int ((p3 &&& (2147483647 : Int32)) % (5 : Int32))), .unset, .unset, .unset] [(.int (2 : Int32))])) t) => cn40 t (by
      refine XS.icmpNo X0.here hx rfl (hb hby at_84) rfl (teq hk5).2 ?_
      show Steps p.tables e below (s₁.setTop (mkF m 87 #[.val (.int p1), .val (.int p2), .val (.int p3), .val (.int c0), .val (.int c1), .val (.int c2), .val (.int c3), .val (.int ((p3 &&& (2147483647 : Int32)) % (5 : Int32))), .unset, .unset, .unset] [])) _
      refine XS.iconst X0.here hx rfl (hb hby at_87) ?_
      show Steps p.tables e below (s₁.setTop (mkF m 88 #[.val (.int p1), .val (.int p2), .val (.int p3), .val (.int c0), .val (.int c1), .val (.int c2), .val (.int c3), .val (.int ((p3 &&& (2147483647 : Int32)) % (5 : Int32))), .unset, .unset, .unset] [(.int (2 : Int32))])) _
      exact kt)
    obtain ⟨T42, h42, k42, X42, e42, E42, A42, st42⟩ := newP X0 hx hZ (hw _ (List.mem_of_getElem? (i := 2) rfl)) e0 (g := (mkF m 88 #[.val (.int p1), .val (.int p2), .val (.int p3), .val (.int c0), .val (.int c1), .val (.int c2), .val (.int c3), .val (.int ((p3 &&& (2147483647 : Int32)) % (5 : Int32))), .unset, .unset, .unset] [(.int (2 : Int32))])) rfl (hb hby at_88) rfl (by decide) (cap := 2) (by decide) (by decide) (by decide) (by decide)
    obtain ⟨b42, g42⟩ : ∃ z, z = h0.size := ⟨_, rfl⟩
    rw [← g42] at A42 st42
    have sz_b42 : h0.size ≤ b42 := Nat.le_trans (Keep.refl h0 []).1 (Nat.le_of_eq g42.symm)
    have g_b42 : n0 ≤ b42 := Nat.le_trans (O0.1 ▸ O0.2.1) sz_b42
    have O42 := O0.ext E42
    have K42 : Keep h0 h42 [] := (Keep.refl h0 []).ext E42
    have hk := Nat.le_trans hk E42.1
    have V42 : Arv Z h42 b42 k42 .char (2 : Int32) [(.int (0 : Int32)), (.int (0 : Int32))] (.int (0 : Int32)) := (Arv.new A42 (by decide)).pad (pad_rep [] (.int (0 : Int32)) 2)
    have cn43 := fun (t : State) (kt : Steps p.tables e below (T42.setTop (mkF m 93 #[.val (.int p1), .val (.int p2), .val (.int p3), .val (.int c0), .val (.int c1), .val (.int c2), .val (.int c3), .val (.int ((p3 &&& (2147483647 : Int32)) % (5 : Int32))), .unset, .unset, .unset] [(.int c0), (.int (0 : Int32)), (.ref b42), (.ref b42)])) t) => cn41 t (by
      refine st42 _ ?_
      show Steps p.tables e below (T42.setTop (mkF m 90 #[.val (.int p1), .val (.int p2), .val (.int p3), .val (.int c0), .val (.int c1), .val (.int c2), .val (.int c3), .val (.int ((p3 &&& (2147483647 : Int32)) % (5 : Int32))), .unset, .unset, .unset] [(.ref b42)])) _
      refine XS.dup X42.here hx rfl (hb hby at_90) rfl rfl ?_
      show Steps p.tables e below (T42.setTop (mkF m 91 #[.val (.int p1), .val (.int p2), .val (.int p3), .val (.int c0), .val (.int c1), .val (.int c2), .val (.int c3), .val (.int ((p3 &&& (2147483647 : Int32)) % (5 : Int32))), .unset, .unset, .unset] [(.ref b42), (.ref b42)])) _
      refine XS.iconst X42.here hx rfl (hb hby at_91) ?_
      show Steps p.tables e below (T42.setTop (mkF m 92 #[.val (.int p1), .val (.int p2), .val (.int p3), .val (.int c0), .val (.int c1), .val (.int c2), .val (.int c3), .val (.int ((p3 &&& (2147483647 : Int32)) % (5 : Int32))), .unset, .unset, .unset] [(.int (0 : Int32)), (.ref b42), (.ref b42)])) _
      refine XS.iloadN X42.here hx rfl (hb hby at_92) rfl ?_
      show Steps p.tables e below (T42.setTop (mkF m 93 #[.val (.int p1), .val (.int p2), .val (.int p3), .val (.int c0), .val (.int c1), .val (.int c2), .val (.int c3), .val (.int ((p3 &&& (2147483647 : Int32)) % (5 : Int32))), .unset, .unset, .unset] [(.int c0), (.int (0 : Int32)), (.ref b42), (.ref b42)])) _
      exact kt)
    have Vx44 := V42
    obtain ⟨cl44, Ar44, q44, S44, M44, H44, G44⟩ := Vx44
    have hin44 : ¬ ((0 : Int32) < 0 ∨ cl44.slots.size ≤ ((0 : Int32)).toNatClampNeg) := inb_of S44 ⟨by decide, by decide⟩
    obtain ⟨T45, h45, X45, e45, W45, st45⟩ := stC X42 hx hZ e42 Ar44 (j := (0 : Int32)) hin44 (g := (mkF m 93 #[.val (.int p1), .val (.int p2), .val (.int p3), .val (.int c0), .val (.int c1), .val (.int c2), .val (.int c3), .val (.int ((p3 &&& (2147483647 : Int32)) % (5 : Int32))), .unset, .unset, .unset] [(.int c0), (.int (0 : Int32)), (.ref b42), (.ref b42)])) rfl rfl (hb hby at_93)
    rw [own_nc hc0] at W45
    have V45 : Arv Z h45 b42 k42 .char (2 : Int32) [(.int c0), (.int (0 : Int32))] (.int (0 : Int32)) := Arv.set Ar44 q44 S44 M44 H44 G44 (own_fc hc0) W45 0 rfl (Nat.le_of_ble_eq_true rfl)
    have N45 := Fr.snoc X45 N0 g_b42
    have O45 := O42.wr W45 g_b42
    have hk := Nat.le_trans hk (Nat.le_of_eq W45.size.symm)
    have K45 : Keep h0 h45 [] := K42.wr W45 (Or.inr sz_b42)
    have cn46 := fun (t : State) (kt : Steps p.tables e below (T45.setTop (mkF m 98 #[.val (.int p1), .val (.int p2), .val (.int p3), .val (.int c0), .val (.int c1), .val (.int c2), .val (.int c3), .val (.int ((p3 &&& (2147483647 : Int32)) % (5 : Int32))), .unset, .unset, .unset] [(.int c1), (.int (1 : Int32)), (.ref b42), (.ref b42)])) t) => cn43 t (by
      refine st45 _ ?_
      show Steps p.tables e below (T45.setTop (mkF m 94 #[.val (.int p1), .val (.int p2), .val (.int p3), .val (.int c0), .val (.int c1), .val (.int c2), .val (.int c3), .val (.int ((p3 &&& (2147483647 : Int32)) % (5 : Int32))), .unset, .unset, .unset] [(.ref b42)])) _
      refine XS.dup X45.here hx rfl (hb hby at_94) rfl rfl ?_
      show Steps p.tables e below (T45.setTop (mkF m 95 #[.val (.int p1), .val (.int p2), .val (.int p3), .val (.int c0), .val (.int c1), .val (.int c2), .val (.int c3), .val (.int ((p3 &&& (2147483647 : Int32)) % (5 : Int32))), .unset, .unset, .unset] [(.ref b42), (.ref b42)])) _
      refine XS.iconst X45.here hx rfl (hb hby at_95) ?_
      show Steps p.tables e below (T45.setTop (mkF m 96 #[.val (.int p1), .val (.int p2), .val (.int p3), .val (.int c0), .val (.int c1), .val (.int c2), .val (.int c3), .val (.int ((p3 &&& (2147483647 : Int32)) % (5 : Int32))), .unset, .unset, .unset] [(.int (1 : Int32)), (.ref b42), (.ref b42)])) _
      refine XS.iload X45.here hx rfl (hb hby at_96) rfl ?_
      show Steps p.tables e below (T45.setTop (mkF m 98 #[.val (.int p1), .val (.int p2), .val (.int p3), .val (.int c0), .val (.int c1), .val (.int c2), .val (.int c3), .val (.int ((p3 &&& (2147483647 : Int32)) % (5 : Int32))), .unset, .unset, .unset] [(.int c1), (.int (1 : Int32)), (.ref b42), (.ref b42)])) _
      exact kt)
    have Vx47 := V45
    obtain ⟨cl47, Ar47, q47, S47, M47, H47, G47⟩ := Vx47
    have hin47 : ¬ ((1 : Int32) < 0 ∨ cl47.slots.size ≤ ((1 : Int32)).toNatClampNeg) := inb_of S47 ⟨by decide, by decide⟩
    obtain ⟨T48, h48, X48, e48, W48, st48⟩ := stC X45 hx hZ e45 Ar47 (j := (1 : Int32)) hin47 (g := (mkF m 98 #[.val (.int p1), .val (.int p2), .val (.int p3), .val (.int c0), .val (.int c1), .val (.int c2), .val (.int c3), .val (.int ((p3 &&& (2147483647 : Int32)) % (5 : Int32))), .unset, .unset, .unset] [(.int c1), (.int (1 : Int32)), (.ref b42), (.ref b42)])) rfl rfl (hb hby at_98)
    rw [own_nc hc1] at W48
    have V48 : Arv Z h48 b42 k42 .char (2 : Int32) [(.int c0), (.int c1)] (.int (0 : Int32)) := Arv.set Ar47 q47 S47 M47 H47 G47 (own_fc hc1) W48 1 rfl (Nat.le_of_ble_eq_true rfl)
    have N48 := Fr.snoc X48 N45 g_b42
    have O48 := O45.wr W48 g_b42
    have hk := Nat.le_trans hk (Nat.le_of_eq W48.size.symm)
    have K48 : Keep h0 h48 [] := K45.wr W48 (Or.inr sz_b42)
    have cn49 := fun (t : State) (kt : Steps p.tables e below (T48.setTop (mkF m 102 #[.val (.int p1), .val (.int p2), .val (.int p3), .val (.int c0), .val (.int c1), .val (.int c2), .val (.int c3), .val (.int ((p3 &&& (2147483647 : Int32)) % (5 : Int32))), .val (.ref b42), .unset, .unset] [(.int c0)])) t) => cn46 t (by
      refine st48 _ ?_
      show Steps p.tables e below (T48.setTop (mkF m 99 #[.val (.int p1), .val (.int p2), .val (.int p3), .val (.int c0), .val (.int c1), .val (.int c2), .val (.int c3), .val (.int ((p3 &&& (2147483647 : Int32)) % (5 : Int32))), .unset, .unset, .unset] [(.ref b42)])) _
      refine XS.astore X48.here hx rfl (hb hby at_99) rfl rfl (l' := #[.val (.int p1), .val (.int p2), .val (.int p3), .val (.int c0), .val (.int c1), .val (.int c2), .val (.int c3), .val (.int ((p3 &&& (2147483647 : Int32)) % (5 : Int32))), .val (.ref b42), .unset, .unset]) rfl ?_
      show Steps p.tables e below (T48.setTop (mkF m 101 #[.val (.int p1), .val (.int p2), .val (.int p3), .val (.int c0), .val (.int c1), .val (.int c2), .val (.int c3), .val (.int ((p3 &&& (2147483647 : Int32)) % (5 : Int32))), .val (.ref b42), .unset, .unset] [])) _
      refine XS.iloadN X48.here hx rfl (hb hby at_101) rfl ?_
      show Steps p.tables e below (T48.setTop (mkF m 102 #[.val (.int p1), .val (.int p2), .val (.int p3), .val (.int c0), .val (.int c1), .val (.int c2), .val (.int c3), .val (.int ((p3 &&& (2147483647 : Int32)) % (5 : Int32))), .val (.ref b42), .unset, .unset] [(.int c0)])) _
      exact kt)
    obtain ⟨_, _, ⟨T50, L50, k50, n50⟩, -, X50, ⟨Lc50, hQ50, l50, y50, z50⟩, st50⟩ := Jvm.LawKit.callS X48 hx (y := (⟨"com/example/idlsmith/idlsmith/javasource/ClassFileModifiedUtf8PinLaw", "bytesOf", "(C)I"⟩ : MethodName)) hown (mvT hZ (hw _ (List.mem_of_getElem? (i := 3) rfl))) (mvT hZ (hw _ (List.mem_of_getElem? (i := 4) rfl))) (mvT hZ (hw _ (List.mem_of_getElem? (i := 5) rfl))) (mvT hZ (hw _ (List.mem_of_getElem? (i := 6) rfl))) (by decide) (backOf (W := 0) (rm1 l Z a0 hw [] c0 h48 n0 O48) hZ (hw _ (List.mem_of_getElem? (i := 6) rfl)) (hw _ (List.mem_of_getElem? (i := 5) rfl)) (by decide) (by decide)) (g := (mkF m 102 #[.val (.int p1), .val (.int p2), .val (.int p3), .val (.int c0), .val (.int c1), .val (.int c2), .val (.int c3), .val (.int ((p3 &&& (2147483647 : Int32)) % (5 : Int32))), .val (.ref b42), .unset, .unset] [(.int c0)])) rfl (by rw [hml]; rfl) (argsL := [(.int c0)]) (rest := []) (lenOf pd_16 rfl) rfl (by show 2 * 0 + _ ≤ _; exact Nat.le_of_eq rfl) (hb hby at_102) (fun _ _ => ⟨rfl, e48, (by decide : 1 + 0 ≤ _), (by decide : 2 + 0 ≤ _)⟩)
    dsimp only [Pt.U, Pt.locs, Pt.cells, Pt.slots] at X50 l50 y50 z50 st50 hQ50
    subst l50 y50 z50
    obtain ⟨rfl, Nq50, eh50⟩ := hQ50
    have N50 := Fr.app N48 Nq50
    have cn51 := fun (t : State) (kt : Steps p.tables e below (T50.setTop (mkF m 107 #[.val (.int p1), .val (.int p2), .val (.int p3), .val (.int c0), .val (.int c1), .val (.int c2), .val (.int c3), .val (.int ((p3 &&& (2147483647 : Int32)) % (5 : Int32))), .val (.ref b42), .unset, .unset] [(.int c1), (.int (own_bo c0))])) t) => cn49 t (by
      refine st50 _ ?_
      show Steps p.tables e below (T50.setTop (mkF m 105 #[.val (.int p1), .val (.int p2), .val (.int p3), .val (.int c0), .val (.int c1), .val (.int c2), .val (.int c3), .val (.int ((p3 &&& (2147483647 : Int32)) % (5 : Int32))), .val (.ref b42), .unset, .unset] [(.int (own_bo c0))])) _
      refine XS.iload X50.here hx rfl (hb hby at_105) rfl ?_
      show Steps p.tables e below (T50.setTop (mkF m 107 #[.val (.int p1), .val (.int p2), .val (.int p3), .val (.int c0), .val (.int c1), .val (.int c2), .val (.int c3), .val (.int ((p3 &&& (2147483647 : Int32)) % (5 : Int32))), .val (.ref b42), .unset, .unset] [(.int c1), (.int (own_bo c0))])) _
      exact kt)
    obtain ⟨_, _, ⟨T52, L52, k52, n52⟩, -, X52, ⟨Lc52, hQ52, l52, y52, z52⟩, st52⟩ := Jvm.LawKit.callS X50 hx (y := (⟨"com/example/idlsmith/idlsmith/javasource/ClassFileModifiedUtf8PinLaw", "bytesOf", "(C)I"⟩ : MethodName)) hown (mvT hZ (hw _ (List.mem_of_getElem? (i := 3) rfl))) (mvT hZ (hw _ (List.mem_of_getElem? (i := 4) rfl))) (mvT hZ (hw _ (List.mem_of_getElem? (i := 5) rfl))) (mvT hZ (hw _ (List.mem_of_getElem? (i := 6) rfl))) (by decide) (backOf (W := 1) (rm1 l Z a0 hw [] c1 h48 n0 O48) hZ (hw _ (List.mem_of_getElem? (i := 6) rfl)) (hw _ (List.mem_of_getElem? (i := 5) rfl)) (by decide) (by decide)) (g := (mkF m 107 #[.val (.int p1), .val (.int p2), .val (.int p3), .val (.int c0), .val (.int c1), .val (.int c2), .val (.int c3), .val (.int ((p3 &&& (2147483647 : Int32)) % (5 : Int32))), .val (.ref b42), .unset, .unset] [(.int c1), (.int (own_bo c0))])) rfl (by rw [hml]; rfl) (argsL := [(.int c1)]) (rest := [(.int (own_bo c0))]) (lenOf pd_16 rfl) rfl (by show 2 * 0 + _ ≤ _; exact Nat.le_of_eq rfl) (hb hby at_107) (fun _ _ => ⟨rfl, eh50, (by decide : 1 + 0 ≤ _), (by decide : 2 + 0 ≤ _)⟩)
    dsimp only [Pt.U, Pt.locs, Pt.cells, Pt.slots] at X52 l52 y52 z52 st52 hQ52
    subst l52 y52 z52
    obtain ⟨rfl, Nq52, eh52⟩ := hQ52
    have N52 := Fr.app N50 Nq52
    have cn53 := fun (t : State) (kt : Steps p.tables e below (T52.setTop (mkF m 210 #[.val (.int p1), .val (.int p2), .val (.int p3), .val (.int c0), .val (.int c1), .val (.int c2), .val (.int c3), .val (.int ((p3 &&& (2147483647 : Int32)) % (5 : Int32))), .val (.ref b42), .val (.int ((own_bo c0) + (own_bo c1))), .unset] [])) t) => cn51 t (by
      refine st52 _ ?_
      show Steps p.tables e below (T52.setTop (mkF m 110 #[.val (.int p1), .val (.int p2), .val (.int p3), .val (.int c0), .val (.int c1), .val (.int c2), .val (.int c3), .val (.int ((p3 &&& (2147483647 : Int32)) % (5 : Int32))), .val (.ref b42), .unset, .unset] [(.int (own_bo c1)), (.int (own_bo c0))])) _
      refine XS.iadd X52.here hx rfl (hb hby at_110) rfl ?_
      show Steps p.tables e below (T52.setTop (mkF m 111 #[.val (.int p1), .val (.int p2), .val (.int p3), .val (.int c0), .val (.int c1), .val (.int c2), .val (.int c3), .val (.int ((p3 &&& (2147483647 : Int32)) % (5 : Int32))), .val (.ref b42), .unset, .unset] [(.int ((own_bo c0) + (own_bo c1)))])) _
      refine XS.istore X52.here hx rfl (hb hby at_111) rfl (l' := #[.val (.int p1), .val (.int p2), .val (.int p3), .val (.int c0), .val (.int c1), .val (.int c2), .val (.int c3), .val (.int ((p3 &&& (2147483647 : Int32)) % (5 : Int32))), .val (.ref b42), .val (.int ((own_bo c0) + (own_bo c1))), .unset]) rfl ?_
      show Steps p.tables e below (T52.setTop (mkF m 113 #[.val (.int p1), .val (.int p2), .val (.int p3), .val (.int c0), .val (.int c1), .val (.int c2), .val (.int c3), .val (.int ((p3 &&& (2147483647 : Int32)) % (5 : Int32))), .val (.ref b42), .val (.int ((own_bo c0) + (own_bo c1))), .unset] [])) _
      refine XS.goto X52.here hx rfl (pc0 := 113) (pc' := 210) rfl (hb hby at_113) (by decide) (by decide) ?_
      show Steps p.tables e below (T52.setTop (mkF m 210 #[.val (.int p1), .val (.int p2), .val (.int p3), .val (.int c0), .val (.int c1), .val (.int c2), .val (.int c3), .val (.int ((p3 &&& (2147483647 : Int32)) % (5 : Int32))), .val (.ref b42), .val (.int ((own_bo c0) + (own_bo c1))), .unset] [])) _
      exact kt)
    obtain ⟨T54, h54, X54, e54, E54, A54, D54, U54, st54⟩ := newO X52 hx hZ hown (hw _ (List.mem_of_getElem? (i := 7) rfl)) (hw _ (List.mem_of_getElem? (i := 8) rfl)) (hw _ (List.mem_of_getElem? (i := 9) rfl)) eh52 (g := (mkF m 210 #[.val (.int p1), .val (.int p2), .val (.int p3), .val (.int c0), .val (.int c1), .val (.int c2), .val (.int c3), .val (.int ((p3 &&& (2147483647 : Int32)) % (5 : Int32))), .val (.ref b42), .val (.int ((own_bo c0) + (own_bo c1))), .unset] [])) rfl (hb hby at_210) (by decide) (by decide)
    obtain ⟨b54, g54⟩ : ∃ z, z = h48.size := ⟨_, rfl⟩
    rw [← g54] at A54 D54 U54 st54
    have ne_b42_b54 : b42 ≠ b54 := Nat.ne_of_lt (Nat.lt_of_lt_of_le V48.lt (Nat.le_of_eq g54.symm))
    have sz_b54 : h0.size ≤ b54 := Nat.le_trans K48.1 (Nat.le_of_eq g54.symm)
    have g_b54 : n0 ≤ b54 := Nat.le_trans (O0.1 ▸ O0.2.1) sz_b54
    have V48_e54 := V48.ext E54
    have O54 := O48.ext E54
    have K54 : Keep h0 h54 [] := K48.ext E54
    have hk := Nat.le_trans hk E54.1
    have Fcoder_54 : Fld Z h54 b54 "java/lang/String" "coder" "B" (.int (0 : Int32)) := D54 (Or.inr (hw _ (List.mem_of_getElem? (i := 33) rfl))) (ty := .byte) (by decide)
    have Fvalue_54 : Fld Z h54 b54 "java/lang/String" "value" "[B" .null := D54 (Or.inr (hw _ (List.mem_of_getElem? (i := 35) rfl))) (ty := (.array .byte)) (by decide)
    have cn55 := fun (t : State) (kt : Steps p.tables e below (T54.setTop (mkF m 216 #[.val (.int p1), .val (.int p2), .val (.int p3), .val (.int c0), .val (.int c1), .val (.int c2), .val (.int c3), .val (.int ((p3 &&& (2147483647 : Int32)) % (5 : Int32))), .val (.ref b42), .val (.int ((own_bo c0) + (own_bo c1))), .unset] [(.ref b42), (.ref b54), (.ref b54)])) t) => cn53 t (by
      refine st54 _ ?_
      show Steps p.tables e below (T54.setTop (mkF m 213 #[.val (.int p1), .val (.int p2), .val (.int p3), .val (.int c0), .val (.int c1), .val (.int c2), .val (.int c3), .val (.int ((p3 &&& (2147483647 : Int32)) % (5 : Int32))), .val (.ref b42), .val (.int ((own_bo c0) + (own_bo c1))), .unset] [(.ref b54)])) _
      refine XS.dup X54.here hx rfl (hb hby at_213) rfl rfl ?_
      show Steps p.tables e below (T54.setTop (mkF m 214 #[.val (.int p1), .val (.int p2), .val (.int p3), .val (.int c0), .val (.int c1), .val (.int c2), .val (.int c3), .val (.int ((p3 &&& (2147483647 : Int32)) % (5 : Int32))), .val (.ref b42), .val (.int ((own_bo c0) + (own_bo c1))), .unset] [(.ref b54), (.ref b54)])) _
      refine XS.aload X54.here hx rfl (hb hby at_214) rfl rfl ?_
      show Steps p.tables e below (T54.setTop (mkF m 216 #[.val (.int p1), .val (.int p2), .val (.int p3), .val (.int c0), .val (.int c1), .val (.int c2), .val (.int c3), .val (.int ((p3 &&& (2147483647 : Int32)) % (5 : Int32))), .val (.ref b42), .val (.int ((own_bo c0) + (own_bo c1))), .unset] [(.ref b42), (.ref b54), (.ref b54)])) _
      exact kt)
    have AFc := (AF.of_arv (n := 2) V48_e54 rfl).congr (fun j _ => own_getD [c0, c1] j)
    obtain ⟨_, _, ⟨T56, L56, k56, n56⟩, -, X56, ⟨Lc56, hQ56, l56, y56, z56⟩, st56⟩ := X54.specialBack hx (y := (⟨"java/lang/String", "<init>", "([C)V"⟩ : MethodName)) rfl hown (mvT hZ (hw _ (List.mem_of_getElem? (i := 10) rfl))) (mvT hZ (hw _ (List.mem_of_getElem? (i := 11) rfl))) (mvT hZ (hw _ (List.mem_of_getElem? (i := 12) rfl))) (by decide) (backOf (W := 1) (rm3s l Z a0 hw [] b54 b42 k42 [c0, c1] co vf h54 n0 O54 g_b54 A54 Fvalue_54 Fcoder_54 (Ne.symm ne_b42_b54) (by simp) (by simp) (own_u1 hc0 (own_u1 hc1 own_u0)) AFc SWh) hZ (hw _ (List.mem_of_getElem? (i := 12) rfl)) (hw _ (List.mem_of_getElem? (i := 9) rfl)) (by decide) (by decide)) (g := (mkF m 216 #[.val (.int p1), .val (.int p2), .val (.int p3), .val (.int c0), .val (.int c1), .val (.int c2), .val (.int c3), .val (.int ((p3 &&& (2147483647 : Int32)) % (5 : Int32))), .val (.ref b42), .val (.int ((own_bo c0) + (own_bo c1))), .unset] [(.ref b42), (.ref b54), (.ref b54)])) rfl (by rw [hml]; rfl) (Steps.refl _) (a := b54) (argsL := [(.ref b42)]) (rest := [(.ref b54)]) (lenOf pd_17 rfl) rfl (by show 2 * 0 + _ ≤ _; exact Nat.le_of_eq rfl) (hb hby at_216) (fun _ _ => ⟨rfl, e54, (by decide : 2 + 2 ≤ _), (by decide : 6 + 12 ≤ _)⟩)
    dsimp only [Pt.U, Pt.locs, Pt.cells, Pt.slots] at X56 l56 y56 z56 st56 hQ56
    subst l56 y56 z56
    obtain ⟨rfl, Nq56, Kq56, b56x, kb56, fb56, cd56, SS56⟩ := hQ56
    have N56 := Fr.app N52 Nq56
    have K56 := Kq56
    have A54_e56 := A54.keep K56
    have AFc_e56 := AFc.keep K56 (ninS ne_b42_b54 nin0)
    have O56 := O54.keep K56 (allS g_b54 all0)
    have KK56 : Keep h0 T56.heap [] := K54.trans K56 (allS (Or.inr sz_b54) all0)
    have hk := Nat.le_trans hk K56.1
    have cn57 := fun (t : State) (kt : Steps p.tables e below (T56.setTop (mkF m 223 #[.val (.int p1), .val (.int p2), .val (.int p3), .val (.int c0), .val (.int c1), .val (.int c2), .val (.int c3), .val (.int ((p3 &&& (2147483647 : Int32)) % (5 : Int32))), .val (.ref b42), .val (.int ((own_bo c0) + (own_bo c1))), .val (.ref b54)] [(.ref b54)])) t) => cn55 t (by
      refine st56.trans ?_
      show Steps p.tables e below (T56.setTop (mkF m 219 #[.val (.int p1), .val (.int p2), .val (.int p3), .val (.int c0), .val (.int c1), .val (.int c2), .val (.int c3), .val (.int ((p3 &&& (2147483647 : Int32)) % (5 : Int32))), .val (.ref b42), .val (.int ((own_bo c0) + (own_bo c1))), .unset] [(.ref b54)])) _
      refine XS.astore X56.here hx rfl (hb hby at_219) rfl rfl (l' := #[.val (.int p1), .val (.int p2), .val (.int p3), .val (.int c0), .val (.int c1), .val (.int c2), .val (.int c3), .val (.int ((p3 &&& (2147483647 : Int32)) % (5 : Int32))), .val (.ref b42), .val (.int ((own_bo c0) + (own_bo c1))), .val (.ref b54)]) rfl ?_
      show Steps p.tables e below (T56.setTop (mkF m 221 #[.val (.int p1), .val (.int p2), .val (.int p3), .val (.int c0), .val (.int c1), .val (.int c2), .val (.int c3), .val (.int ((p3 &&& (2147483647 : Int32)) % (5 : Int32))), .val (.ref b42), .val (.int ((own_bo c0) + (own_bo c1))), .val (.ref b54)] [])) _
      refine XS.aload X56.here hx rfl (hb hby at_221) rfl rfl ?_
      show Steps p.tables e below (T56.setTop (mkF m 223 #[.val (.int p1), .val (.int p2), .val (.int p3), .val (.int c0), .val (.int c1), .val (.int c2), .val (.int c3), .val (.int ((p3 &&& (2147483647 : Int32)) % (5 : Int32))), .val (.ref b42), .val (.int ((own_bo c0) + (own_bo c1))), .val (.ref b54)] [(.ref b54)])) _
      exact kt)
    obtain ⟨_, _, ⟨T58, L58, k58, n58⟩, -, X58, ⟨Lc58, hQ58, l58, y58, z58⟩, st58⟩ := Jvm.LawKit.callS X56 hx (y := (⟨"com/example/idlsmith/idlsmith/javasource/ClassFile", "modifiedUtf8", "(Ljava/lang/String;)I"⟩ : MethodName)) hown (mvT hZ (hw _ (List.mem_of_getElem? (i := 36) rfl))) (mvT hZ (hw _ (List.mem_of_getElem? (i := 37) rfl))) (mvT hZ (hw _ (List.mem_of_getElem? (i := 38) rfl))) (mvT hZ (hw _ (List.mem_of_getElem? (i := 39) rfl))) (by decide) (backOf (W := 0) (rm8 l Z a0 hw [] b54 b56x [c0, c1] kb56 fb56 cd56 co vf T56.heap n0 O56 (by simp) (own_u1 hc0 (own_u1 hc1 own_u0)) SS56 SWh) hZ (hw _ (List.mem_of_getElem? (i := 39) rfl)) (hw _ (List.mem_of_getElem? (i := 38) rfl)) (by decide) (by decide)) (g := (mkF m 223 #[.val (.int p1), .val (.int p2), .val (.int p3), .val (.int c0), .val (.int c1), .val (.int c2), .val (.int c3), .val (.int ((p3 &&& (2147483647 : Int32)) % (5 : Int32))), .val (.ref b42), .val (.int ((own_bo c0) + (own_bo c1))), .val (.ref b54)] [(.ref b54)])) rfl (by rw [hml]; rfl) (argsL := [(.ref b54)]) (rest := []) (lenOf pd_18 rfl) rfl (by show 2 * 0 + _ ≤ _; exact Nat.le_of_eq rfl) (hb hby at_223) (fun _ _ => ⟨rfl, rfl, (by decide : 4 + 0 ≤ _), (by decide : 18 + 0 ≤ _)⟩)
    dsimp only [Pt.U, Pt.locs, Pt.cells, Pt.slots] at X58 l58 y58 z58 st58 hQ58
    subst l58 y58 z58
    obtain ⟨rfl, Nq58, eh58⟩ := hQ58
    have N58 := Fr.app N56 Nq58
    have cn59 := fun (t : State) (kt : Steps p.tables e below (T58.setTop (mkF m 228 #[.val (.int p1), .val (.int p2), .val (.int p3), .val (.int c0), .val (.int c1), .val (.int c2), .val (.int c3), .val (.int ((p3 &&& (2147483647 : Int32)) % (5 : Int32))), .val (.ref b42), .val (.int ((own_bo c0) + (own_bo c1))), .val (.ref b54)] [(.int ((own_bo c0) + (own_bo c1))), (.int (own_sum [c0, c1] [c0, c1].length))])) t) => cn57 t (by
      refine st58 _ ?_
      show Steps p.tables e below (T58.setTop (mkF m 226 #[.val (.int p1), .val (.int p2), .val (.int p3), .val (.int c0), .val (.int c1), .val (.int c2), .val (.int c3), .val (.int ((p3 &&& (2147483647 : Int32)) % (5 : Int32))), .val (.ref b42), .val (.int ((own_bo c0) + (own_bo c1))), .val (.ref b54)] [(.int (own_sum [c0, c1] [c0, c1].length))])) _
      refine XS.iload X58.here hx rfl (hb hby at_226) rfl ?_
      show Steps p.tables e below (T58.setTop (mkF m 228 #[.val (.int p1), .val (.int p2), .val (.int p3), .val (.int c0), .val (.int c1), .val (.int c2), .val (.int c3), .val (.int ((p3 &&& (2147483647 : Int32)) % (5 : Int32))), .val (.ref b42), .val (.int ((own_bo c0) + (own_bo c1))), .val (.ref b54)] [(.int ((own_bo c0) + (own_bo c1))), (.int (own_sum [c0, c1] [c0, c1].length))])) _
      exact kt)
    have cn60 := fun (t : State) (kt : Steps p.tables e below (T58.setTop (mkF m 236 #[.val (.int p1), .val (.int p2), .val (.int p3), .val (.int c0), .val (.int c1), .val (.int c2), .val (.int c3), .val (.int ((p3 &&& (2147483647 : Int32)) % (5 : Int32))), .val (.ref b42), .val (.int ((own_bo c0) + (own_bo c1))), .val (.ref b54)] [(.int (1 : Int32))])) t) => cn59 t (by
      refine XS.icmpNo X58.here hx rfl (hb hby at_228) rfl (teq own_fin2).2 ?_
      show Steps p.tables e below (T58.setTop (mkF m 231 #[.val (.int p1), .val (.int p2), .val (.int p3), .val (.int c0), .val (.int c1), .val (.int c2), .val (.int c3), .val (.int ((p3 &&& (2147483647 : Int32)) % (5 : Int32))), .val (.ref b42), .val (.int ((own_bo c0) + (own_bo c1))), .val (.ref b54)] [])) _
      refine XS.iconst X58.here hx rfl (hb hby at_231) ?_
      show Steps p.tables e below (T58.setTop (mkF m 232 #[.val (.int p1), .val (.int p2), .val (.int p3), .val (.int c0), .val (.int c1), .val (.int c2), .val (.int c3), .val (.int ((p3 &&& (2147483647 : Int32)) % (5 : Int32))), .val (.ref b42), .val (.int ((own_bo c0) + (own_bo c1))), .val (.ref b54)] [(.int (1 : Int32))])) _
      refine XS.goto X58.here hx rfl (pc0 := 232) (pc' := 236) rfl (hb hby at_232) (by decide) (by decide) ?_
      show Steps p.tables e below (T58.setTop (mkF m 236 #[.val (.int p1), .val (.int p2), .val (.int p3), .val (.int c0), .val (.int c1), .val (.int c2), .val (.int c3), .val (.int ((p3 &&& (2147483647 : Int32)) % (5 : Int32))), .val (.ref b42), .val (.int ((own_bo c0) + (own_bo c1))), .val (.ref b54)] [(.int (1 : Int32))])) _
      exact kt)
    obtain ⟨frs, hr, hrun, hended, hRW⟩ := X58.leaveW hS (by rw [eh58]; exact hk) (v := some (.int (1 : Int32))) (fun h => by rw [Bd.returns] at h; cases h)
    refine ⟨_, _, cn60 _ ?_, hrun, hended, _, _, rfl, ?_, hRW.1, hRW.2.1, hRW.2.2.1, hRW.2.2.2.mono (by decide) (by decide)⟩
    · exact retN X58 hx (t := .boolean) Bd.returns (by simp) (hb hby at_236) hr
    · show Q0 n0 _ T58.heap _
      rw [eh58]
      exact ⟨rfl, N58⟩
  · have cn61 := fun (t : State) (kt : Steps p.tables e below (s₁.setTop (mkF m 43 #[.val (.int p1), .val (.int p2), .val (.int p3), .val (.int c0), .val (.int c1), .val (.int c2), .val (.int c3), .val (.int ((p3 &&& (2147483647 : Int32)) % (5 : Int32))), .unset, .unset, .unset] [(.int ((p3 &&& (2147483647 : Int32)) % (5 : Int32)))])) t) => cn9 t (by
      refine XS.iload X0.here hx rfl (hb hby at_41) rfl ?_
      show Steps p.tables e below (s₁.setTop (mkF m 43 #[.val (.int p1), .val (.int p2), .val (.int p3), .val (.int c0), .val (.int c1), .val (.int c2), .val (.int c3), .val (.int ((p3 &&& (2147483647 : Int32)) % (5 : Int32))), .unset, .unset, .unset] [(.int ((p3 &&& (2147483647 : Int32)) % (5 : Int32)))])) _
      exact kt)
    have cn62 := fun (t : State) (kt : Steps p.tables e below (s₁.setTop (mkF m 60 #[.val (.int p1), .val (.int p2), .val (.int p3), .val (.int c0), .val (.int c1), .val (.int c2), .val (.int c3), .val (.int ((p3 &&& (2147483647 : Int32)) % (5 : Int32))), .unset, .unset, .unset] [(.int (1 : Int32)), (.int ((p3 &&& (2147483647 : Int32)) % (5 : Int32)))])) t) => cn61 t (by
      refine XS.ifYes X0.here hx rfl (pc0 := 43) (pc' := 57) rfl (hb hby at_43) rfl ((if0 _ _).trans (feq (by rw [hk5]; decide)).2) (by decide) (by decide) ?_
      show Steps p.tables e below (s₁.setTop (mkF m 57 #[.val (.int p1), .val (.int p2), .val (.int p3), .val (.int c0), .val (.int c1), .val (.int c2), .val (.int c3), .val (.int ((p3 &&& (2147483647 : Int32)) % (5 : Int32))), .unset, .unset, .unset] [])) _
      refine XS.iload X0.here hx rfl (hb hby at_57) rfl ?_
      show Steps p.tables e below (s₁.setTop (mkF m 59 #[.val (.int p1), .val (.int p2), .val (.int p3), .val (.int c0), .val (.int c1), .val (.int c2), .val (.int c3), .val (.int ((p3 &&& (2147483647 : Int32)) % (5 : Int32))), .unset, .unset, .unset] [(.int ((p3 &&& (2147483647 : Int32)) % (5 : Int32)))])) _
      refine XS.iconst X0.here hx rfl (hb hby at_59) ?_
      show Steps p.tables e below (s₁.setTop (mkF m 60 #[.val (.int p1), .val (.int p2), .val (.int p3), .val (.int c0), .val (.int c1), .val (.int c2), .val (.int c3), .val (.int ((p3 &&& (2147483647 : Int32)) % (5 : Int32))), .unset, .unset, .unset] [(.int (1 : Int32)), (.int ((p3 &&& (2147483647 : Int32)) % (5 : Int32)))])) _
      exact kt)
    have cn63 := fun (t : State) (kt : Steps p.tables e below (s₁.setTop (mkF m 84 #[.val (.int p1), .val (.int p2), .val (.int p3), .val (.int c0), .val (.int c1), .val (.int c2), .val (.int c3), .val (.int ((p3 &&& (2147483647 : Int32)) % (5 : Int32))), .unset, .unset, .unset] [(.int (2 : Int32)), (.int ((p3 &&& (2147483647 : Int32)) % (5 : Int32)))])) t) => cn62 t (by
      refine XS.icmpYes X0.here hx rfl (pc0 := 60) (pc' := 81) rfl (hb hby at_60) rfl (feq (by rw [hk5]; decide)).2 (by decide) (by decide) ?_
      show Steps p.tables e below (s₁.setTop (mkF m 81 #[.val (.int p1), .val (.int p2), .val (.int p3), .val (.int c0), .val (.int c1), .val (.int c2), .val (.int c3), .val (.int ((p3 &&& (2147483647 : Int32)) % (5 : Int32))), .unset, .unset, .unset] [])) _
      refine XS.iload X0.here hx rfl (hb hby at_81) rfl ?_
      show Steps p.tables e below (s₁.setTop (mkF m 83 #[.val (.int p1), .val (.int p2), .val (.int p3), .val (.int c0), .val (.int c1), .val (.int c2), .val (.int c3), .val (.int ((p3 &&& (2147483647 : Int32)) % (5 : Int32))), .unset, .unset, .unset] [(.int ((p3 &&& (2147483647 : Int32)) % (5 : Int32)))])) _
      refine XS.iconst X0.here hx rfl (hb hby at_83) ?_
      show Steps p.tables e below (s₁.setTop (mkF m 84 #[.val (.int p1), .val (.int p2), .val (.int p3), .val (.int c0), .val (.int c1), .val (.int c2), .val (.int c3), .val (.int ((p3 &&& (2147483647 : Int32)) % (5 : Int32))), .unset, .unset, .unset] [(.int (2 : Int32)), (.int ((p3 &&& (2147483647 : Int32)) % (5 : Int32)))])) _
      exact kt)
    have cn64 := fun (t : State) (kt : Steps p.tables e below (s₁.setTop (mkF m 119 #[.val (.int p1), .val (.int p2), .val (.int p3), .val (.int c0), .val (.int c1), .val (.int c2), .val (.int c3), .val (.int ((p3 &&& (2147483647 : Int32)) % (5 : Int32))), .unset, .unset, .unset] [(.int (3 : Int32)), (.int ((p3 &&& (2147483647 : Int32)) % (5 : Int32)))])) t) => cn63 t (by
      refine XS.icmpYes X0.here hx rfl (pc0 := 84) (pc' := 116) rfl (hb hby at_84) rfl (feq (by rw [hk5]; decide)).2 (by decide) (by decide) ?_
      show Steps p.tables e below (s₁.setTop (mkF m 116 #[.val (.int p1), .val (.int p2), .val (.int p3), .val (.int c0), .val (.int c1), .val (.int c2), .val (.int c3), .val (.int ((p3 &&& (2147483647 : Int32)) % (5 : Int32))), .unset, .unset, .unset] [])) _
      refine XS.iload X0.here hx rfl (hb hby at_116) rfl ?_
      show Steps p.tables e below (s₁.setTop (mkF m 118 #[.val (.int p1), .val (.int p2), .val (.int p3), .val (.int c0), .val (.int c1), .val (.int c2), .val (.int c3), .val (.int ((p3 &&& (2147483647 : Int32)) % (5 : Int32))), .unset, .unset, .unset] [(.int ((p3 &&& (2147483647 : Int32)) % (5 : Int32)))])) _
      refine XS.iconst X0.here hx rfl (hb hby at_118) ?_
      show Steps p.tables e below (s₁.setTop (mkF m 119 #[.val (.int p1), .val (.int p2), .val (.int p3), .val (.int c0), .val (.int c1), .val (.int c2), .val (.int c3), .val (.int ((p3 &&& (2147483647 : Int32)) % (5 : Int32))), .unset, .unset, .unset] [(.int (3 : Int32)), (.int ((p3 &&& (2147483647 : Int32)) % (5 : Int32)))])) _
      exact kt)
    have cn65 := fun (t : State) (kt : Steps p.tables e below (s₁.setTop (mkF m 123 #[.val (.int p1), .val (.int p2), .val (.int p3), .val (.int c0), .val (.int c1), .val (.int c2), .val (.int c3), .val (.int ((p3 &&& (2147483647 : Int32)) % (5 : Int32))), .unset, .unset, .unset] [(.int (3 : Int32))])) t) => cn64 t (by
      refine XS.icmpNo X0.here hx rfl (hb hby at_119) rfl (teq hk5).2 ?_
      show Steps p.tables e below (s₁.setTop (mkF m 122 #[.val (.int p1), .val (.int p2), .val (.int p3), .val (.int c0), .val (.int c1), .val (.int c2), .val (.int c3), .val (.int ((p3 &&& (2147483647 : Int32)) % (5 : Int32))), .unset, .unset, .unset] [])) _
      refine XS.iconst X0.here hx rfl (hb hby at_122) ?_
      show Steps p.tables e below (s₁.setTop (mkF m 123 #[.val (.int p1), .val (.int p2), .val (.int p3), .val (.int c0), .val (.int c1), .val (.int c2), .val (.int c3), .val (.int ((p3 &&& (2147483647 : Int32)) % (5 : Int32))), .unset, .unset, .unset] [(.int (3 : Int32))])) _
      exact kt)
    obtain ⟨T66, h66, k66, X66, e66, E66, A66, st66⟩ := newP X0 hx hZ (hw _ (List.mem_of_getElem? (i := 2) rfl)) e0 (g := (mkF m 123 #[.val (.int p1), .val (.int p2), .val (.int p3), .val (.int c0), .val (.int c1), .val (.int c2), .val (.int c3), .val (.int ((p3 &&& (2147483647 : Int32)) % (5 : Int32))), .unset, .unset, .unset] [(.int (3 : Int32))])) rfl (hb hby at_123) rfl (by decide) (cap := 3) (by decide) (by decide) (by decide) (by decide)
    obtain ⟨b66, g66⟩ : ∃ z, z = h0.size := ⟨_, rfl⟩
    rw [← g66] at A66 st66
    have sz_b66 : h0.size ≤ b66 := Nat.le_trans (Keep.refl h0 []).1 (Nat.le_of_eq g66.symm)
    have g_b66 : n0 ≤ b66 := Nat.le_trans (O0.1 ▸ O0.2.1) sz_b66
    have O66 := O0.ext E66
    have K66 : Keep h0 h66 [] := (Keep.refl h0 []).ext E66
    have hk := Nat.le_trans hk E66.1
    have V66 : Arv Z h66 b66 k66 .char (3 : Int32) [(.int (0 : Int32)), (.int (0 : Int32)), (.int (0 : Int32))] (.int (0 : Int32)) := (Arv.new A66 (by decide)).pad (pad_rep [] (.int (0 : Int32)) 3)
    have cn67 := fun (t : State) (kt : Steps p.tables e below (T66.setTop (mkF m 128 #[.val (.int p1), .val (.int p2), .val (.int p3), .val (.int c0), .val (.int c1), .val (.int c2), .val (.int c3), .val (.int ((p3 &&& (2147483647 : Int32)) % (5 : Int32))), .unset, .unset, .unset] [(.int c0), (.int (0 : Int32)), (.ref b66), (.ref b66)])) t) => cn65 t (by
      refine st66 _ ?_
      show Steps p.tables e below (T66.setTop (mkF m 125 #[.val (.int p1), .val (.int p2), .val (.int p3), .val (.int c0), .val (.int c1), .val (.int c2), .val (.int c3), .val (.int ((p3 &&& (2147483647 : Int32)) % (5 : Int32))), .unset, .unset, .unset] [(.ref b66)])) _
      refine XS.dup X66.here hx rfl (hb hby at_125) rfl rfl ?_
      show Steps p.tables e below (T66.setTop (mkF m 126 #[.val (.int p1), .val (.int p2), .val (.int p3), .val (.int c0), .val (.int c1), .val (.int c2), .val (.int c3), .val (.int ((p3 &&& (2147483647 : Int32)) % (5 : Int32))), .unset, .unset, .unset] [(.ref b66), (.ref b66)])) _
      refine XS.iconst X66.here hx rfl (hb hby at_126) ?_
      show Steps p.tables e below (T66.setTop (mkF m 127 #[.val (.int p1), .val (.int p2), .val (.int p3), .val (.int c0), .val (.int c1), .val (.int c2), .val (.int c3), .val (.int ((p3 &&& (2147483647 : Int32)) % (5 : Int32))), .unset, .unset, .unset] [(.int (0 : Int32)), (.ref b66), (.ref b66)])) _
      refine XS.iloadN X66.here hx rfl (hb hby at_127) rfl ?_
      show Steps p.tables e below (T66.setTop (mkF m 128 #[.val (.int p1), .val (.int p2), .val (.int p3), .val (.int c0), .val (.int c1), .val (.int c2), .val (.int c3), .val (.int ((p3 &&& (2147483647 : Int32)) % (5 : Int32))), .unset, .unset, .unset] [(.int c0), (.int (0 : Int32)), (.ref b66), (.ref b66)])) _
      exact kt)
    have Vx68 := V66
    obtain ⟨cl68, Ar68, q68, S68, M68, H68, G68⟩ := Vx68
    have hin68 : ¬ ((0 : Int32) < 0 ∨ cl68.slots.size ≤ ((0 : Int32)).toNatClampNeg) := inb_of S68 ⟨by decide, by decide⟩
    obtain ⟨T69, h69, X69, e69, W69, st69⟩ := stC X66 hx hZ e66 Ar68 (j := (0 : Int32)) hin68 (g := (mkF m 128 #[.val (.int p1), .val (.int p2), .val (.int p3), .val (.int c0), .val (.int c1), .val (.int c2), .val (.int c3), .val (.int ((p3 &&& (2147483647 : Int32)) % (5 : Int32))), .unset, .unset, .unset] [(.int c0), (.int (0 : Int32)), (.ref b66), (.ref b66)])) rfl rfl (hb hby at_128)
    rw [own_nc hc0] at W69
    have V69 : Arv Z h69 b66 k66 .char (3 : Int32) [(.int c0), (.int (0 : Int32)), (.int (0 : Int32))] (.int (0 : Int32)) := Arv.set Ar68 q68 S68 M68 H68 G68 (own_fc hc0) W69 0 rfl (Nat.le_of_ble_eq_true rfl)
    have N69 := Fr.snoc X69 N0 g_b66
    have O69 := O66.wr W69 g_b66
    have hk := Nat.le_trans hk (Nat.le_of_eq W69.size.symm)
    have K69 : Keep h0 h69 [] := K66.wr W69 (Or.inr sz_b66)
    have cn70 := fun (t : State) (kt : Steps p.tables e below (T69.setTop (mkF m 133 #[.val (.int p1), .val (.int p2), .val (.int p3), .val (.int c0), .val (.int c1), .val (.int c2), .val (.int c3), .val (.int ((p3 &&& (2147483647 : Int32)) % (5 : Int32))), .unset, .unset, .unset] [(.int c1), (.int (1 : Int32)), (.ref b66), (.ref b66)])) t) => cn67 t (by
      refine st69 _ ?_
      show Steps p.tables e below (T69.setTop (mkF m 129 #[.val (.int p1), .val (.int p2), .val (.int p3), .val (.int c0), .val (.int c1), .val (.int c2), .val (.int c3), .val (.int ((p3 &&& (2147483647 : Int32)) % (5 : Int32))), .unset, .unset, .unset] [(.ref b66)])) _
      refine XS.dup X69.here hx rfl (hb hby at_129) rfl rfl ?_
      show Steps p.tables e below (T69.setTop (mkF m 130 #[.val (.int p1), .val (.int p2), .val (.int p3), .val (.int c0), .val (.int c1), .val (.int c2), .val (.int c3), .val (.int ((p3 &&& (2147483647 : Int32)) % (5 : Int32))), .unset, .unset, .unset] [(.ref b66), (.ref b66)])) _
      refine XS.iconst X69.here hx rfl (hb hby at_130) ?_
      show Steps p.tables e below (T69.setTop (mkF m 131 #[.val (.int p1), .val (.int p2), .val (.int p3), .val (.int c0), .val (.int c1), .val (.int c2), .val (.int c3), .val (.int ((p3 &&& (2147483647 : Int32)) % (5 : Int32))), .unset, .unset, .unset] [(.int (1 : Int32)), (.ref b66), (.ref b66)])) _
      refine XS.iload X69.here hx rfl (hb hby at_131) rfl ?_
      show Steps p.tables e below (T69.setTop (mkF m 133 #[.val (.int p1), .val (.int p2), .val (.int p3), .val (.int c0), .val (.int c1), .val (.int c2), .val (.int c3), .val (.int ((p3 &&& (2147483647 : Int32)) % (5 : Int32))), .unset, .unset, .unset] [(.int c1), (.int (1 : Int32)), (.ref b66), (.ref b66)])) _
      exact kt)
    have Vx71 := V69
    obtain ⟨cl71, Ar71, q71, S71, M71, H71, G71⟩ := Vx71
    have hin71 : ¬ ((1 : Int32) < 0 ∨ cl71.slots.size ≤ ((1 : Int32)).toNatClampNeg) := inb_of S71 ⟨by decide, by decide⟩
    obtain ⟨T72, h72, X72, e72, W72, st72⟩ := stC X69 hx hZ e69 Ar71 (j := (1 : Int32)) hin71 (g := (mkF m 133 #[.val (.int p1), .val (.int p2), .val (.int p3), .val (.int c0), .val (.int c1), .val (.int c2), .val (.int c3), .val (.int ((p3 &&& (2147483647 : Int32)) % (5 : Int32))), .unset, .unset, .unset] [(.int c1), (.int (1 : Int32)), (.ref b66), (.ref b66)])) rfl rfl (hb hby at_133)
    rw [own_nc hc1] at W72
    have V72 : Arv Z h72 b66 k66 .char (3 : Int32) [(.int c0), (.int c1), (.int (0 : Int32))] (.int (0 : Int32)) := Arv.set Ar71 q71 S71 M71 H71 G71 (own_fc hc1) W72 1 rfl (Nat.le_of_ble_eq_true rfl)
    have N72 := Fr.snoc X72 N69 g_b66
    have O72 := O69.wr W72 g_b66
    have hk := Nat.le_trans hk (Nat.le_of_eq W72.size.symm)
    have K72 : Keep h0 h72 [] := K69.wr W72 (Or.inr sz_b66)
    have cn73 := fun (t : State) (kt : Steps p.tables e below (T72.setTop (mkF m 138 #[.val (.int p1), .val (.int p2), .val (.int p3), .val (.int c0), .val (.int c1), .val (.int c2), .val (.int c3), .val (.int ((p3 &&& (2147483647 : Int32)) % (5 : Int32))), .unset, .unset, .unset] [(.int c2), (.int (2 : Int32)), (.ref b66), (.ref b66)])) t) => cn70 t (by
      refine st72 _ ?_
      show Steps p.tables e below (T72.setTop (mkF m 134 #[.val (.int p1), .val (.int p2), .val (.int p3), .val (.int c0), .val (.int c1), .val (.int c2), .val (.int c3), .val (.int ((p3 &&& (2147483647 : Int32)) % (5 : Int32))), .unset, .unset, .unset] [(.ref b66)])) _
      refine XS.dup X72.here hx rfl (hb hby at_134) rfl rfl ?_
      show Steps p.tables e below (T72.setTop (mkF m 135 #[.val (.int p1), .val (.int p2), .val (.int p3), .val (.int c0), .val (.int c1), .val (.int c2), .val (.int c3), .val (.int ((p3 &&& (2147483647 : Int32)) % (5 : Int32))), .unset, .unset, .unset] [(.ref b66), (.ref b66)])) _
      refine XS.iconst X72.here hx rfl (hb hby at_135) ?_
      show Steps p.tables e below (T72.setTop (mkF m 136 #[.val (.int p1), .val (.int p2), .val (.int p3), .val (.int c0), .val (.int c1), .val (.int c2), .val (.int c3), .val (.int ((p3 &&& (2147483647 : Int32)) % (5 : Int32))), .unset, .unset, .unset] [(.int (2 : Int32)), (.ref b66), (.ref b66)])) _
      refine XS.iload X72.here hx rfl (hb hby at_136) rfl ?_
      show Steps p.tables e below (T72.setTop (mkF m 138 #[.val (.int p1), .val (.int p2), .val (.int p3), .val (.int c0), .val (.int c1), .val (.int c2), .val (.int c3), .val (.int ((p3 &&& (2147483647 : Int32)) % (5 : Int32))), .unset, .unset, .unset] [(.int c2), (.int (2 : Int32)), (.ref b66), (.ref b66)])) _
      exact kt)
    have Vx74 := V72
    obtain ⟨cl74, Ar74, q74, S74, M74, H74, G74⟩ := Vx74
    have hin74 : ¬ ((2 : Int32) < 0 ∨ cl74.slots.size ≤ ((2 : Int32)).toNatClampNeg) := inb_of S74 ⟨by decide, by decide⟩
    obtain ⟨T75, h75, X75, e75, W75, st75⟩ := stC X72 hx hZ e72 Ar74 (j := (2 : Int32)) hin74 (g := (mkF m 138 #[.val (.int p1), .val (.int p2), .val (.int p3), .val (.int c0), .val (.int c1), .val (.int c2), .val (.int c3), .val (.int ((p3 &&& (2147483647 : Int32)) % (5 : Int32))), .unset, .unset, .unset] [(.int c2), (.int (2 : Int32)), (.ref b66), (.ref b66)])) rfl rfl (hb hby at_138)
    rw [own_nc hc2] at W75
    have V75 : Arv Z h75 b66 k66 .char (3 : Int32) [(.int c0), (.int c1), (.int c2)] (.int (0 : Int32)) := Arv.set Ar74 q74 S74 M74 H74 G74 (own_fc hc2) W75 2 rfl (Nat.le_of_ble_eq_true rfl)
    have N75 := Fr.snoc X75 N72 g_b66
    have O75 := O72.wr W75 g_b66
    have hk := Nat.le_trans hk (Nat.le_of_eq W75.size.symm)
    have K75 : Keep h0 h75 [] := K72.wr W75 (Or.inr sz_b66)
    have cn76 := fun (t : State) (kt : Steps p.tables e below (T75.setTop (mkF m 142 #[.val (.int p1), .val (.int p2), .val (.int p3), .val (.int c0), .val (.int c1), .val (.int c2), .val (.int c3), .val (.int ((p3 &&& (2147483647 : Int32)) % (5 : Int32))), .val (.ref b66), .unset, .unset] [(.int c0)])) t) => cn73 t (by
      refine st75 _ ?_
      show Steps p.tables e below (T75.setTop (mkF m 139 #[.val (.int p1), .val (.int p2), .val (.int p3), .val (.int c0), .val (.int c1), .val (.int c2), .val (.int c3), .val (.int ((p3 &&& (2147483647 : Int32)) % (5 : Int32))), .unset, .unset, .unset] [(.ref b66)])) _
      refine XS.astore X75.here hx rfl (hb hby at_139) rfl rfl (l' := #[.val (.int p1), .val (.int p2), .val (.int p3), .val (.int c0), .val (.int c1), .val (.int c2), .val (.int c3), .val (.int ((p3 &&& (2147483647 : Int32)) % (5 : Int32))), .val (.ref b66), .unset, .unset]) rfl ?_
      show Steps p.tables e below (T75.setTop (mkF m 141 #[.val (.int p1), .val (.int p2), .val (.int p3), .val (.int c0), .val (.int c1), .val (.int c2), .val (.int c3), .val (.int ((p3 &&& (2147483647 : Int32)) % (5 : Int32))), .val (.ref b66), .unset, .unset] [])) _
      refine XS.iloadN X75.here hx rfl (hb hby at_141) rfl ?_
      show Steps p.tables e below (T75.setTop (mkF m 142 #[.val (.int p1), .val (.int p2), .val (.int p3), .val (.int c0), .val (.int c1), .val (.int c2), .val (.int c3), .val (.int ((p3 &&& (2147483647 : Int32)) % (5 : Int32))), .val (.ref b66), .unset, .unset] [(.int c0)])) _
      exact kt)
    obtain ⟨_, _, ⟨T77, L77, k77, n77⟩, -, X77, ⟨Lc77, hQ77, l77, y77, z77⟩, st77⟩ := Jvm.LawKit.callS X75 hx (y := (⟨"com/example/idlsmith/idlsmith/javasource/ClassFileModifiedUtf8PinLaw", "bytesOf", "(C)I"⟩ : MethodName)) hown (mvT hZ (hw _ (List.mem_of_getElem? (i := 3) rfl))) (mvT hZ (hw _ (List.mem_of_getElem? (i := 4) rfl))) (mvT hZ (hw _ (List.mem_of_getElem? (i := 5) rfl))) (mvT hZ (hw _ (List.mem_of_getElem? (i := 6) rfl))) (by decide) (backOf (W := 0) (rm1 l Z a0 hw [] c0 h75 n0 O75) hZ (hw _ (List.mem_of_getElem? (i := 6) rfl)) (hw _ (List.mem_of_getElem? (i := 5) rfl)) (by decide) (by decide)) (g := (mkF m 142 #[.val (.int p1), .val (.int p2), .val (.int p3), .val (.int c0), .val (.int c1), .val (.int c2), .val (.int c3), .val (.int ((p3 &&& (2147483647 : Int32)) % (5 : Int32))), .val (.ref b66), .unset, .unset] [(.int c0)])) rfl (by rw [hml]; rfl) (argsL := [(.int c0)]) (rest := []) (lenOf pd_16 rfl) rfl (by show 2 * 0 + _ ≤ _; exact Nat.le_of_eq rfl) (hb hby at_142) (fun _ _ => ⟨rfl, e75, (by decide : 1 + 0 ≤ _), (by decide : 3 + 0 ≤ _)⟩)
    dsimp only [Pt.U, Pt.locs, Pt.cells, Pt.slots] at X77 l77 y77 z77 st77 hQ77
    subst l77 y77 z77
    obtain ⟨rfl, Nq77, eh77⟩ := hQ77
    have N77 := Fr.app N75 Nq77
    have cn78 := fun (t : State) (kt : Steps p.tables e below (T77.setTop (mkF m 147 #[.val (.int p1), .val (.int p2), .val (.int p3), .val (.int c0), .val (.int c1), .val (.int c2), .val (.int c3), .val (.int ((p3 &&& (2147483647 : Int32)) % (5 : Int32))), .val (.ref b66), .unset, .unset] [(.int c1), (.int (own_bo c0))])) t) => cn76 t (by
      refine st77 _ ?_
      show Steps p.tables e below (T77.setTop (mkF m 145 #[.val (.int p1), .val (.int p2), .val (.int p3), .val (.int c0), .val (.int c1), .val (.int c2), .val (.int c3), .val (.int ((p3 &&& (2147483647 : Int32)) % (5 : Int32))), .val (.ref b66), .unset, .unset] [(.int (own_bo c0))])) _
      refine XS.iload X77.here hx rfl (hb hby at_145) rfl ?_
      show Steps p.tables e below (T77.setTop (mkF m 147 #[.val (.int p1), .val (.int p2), .val (.int p3), .val (.int c0), .val (.int c1), .val (.int c2), .val (.int c3), .val (.int ((p3 &&& (2147483647 : Int32)) % (5 : Int32))), .val (.ref b66), .unset, .unset] [(.int c1), (.int (own_bo c0))])) _
      exact kt)
    obtain ⟨_, _, ⟨T79, L79, k79, n79⟩, -, X79, ⟨Lc79, hQ79, l79, y79, z79⟩, st79⟩ := Jvm.LawKit.callS X77 hx (y := (⟨"com/example/idlsmith/idlsmith/javasource/ClassFileModifiedUtf8PinLaw", "bytesOf", "(C)I"⟩ : MethodName)) hown (mvT hZ (hw _ (List.mem_of_getElem? (i := 3) rfl))) (mvT hZ (hw _ (List.mem_of_getElem? (i := 4) rfl))) (mvT hZ (hw _ (List.mem_of_getElem? (i := 5) rfl))) (mvT hZ (hw _ (List.mem_of_getElem? (i := 6) rfl))) (by decide) (backOf (W := 1) (rm1 l Z a0 hw [] c1 h75 n0 O75) hZ (hw _ (List.mem_of_getElem? (i := 6) rfl)) (hw _ (List.mem_of_getElem? (i := 5) rfl)) (by decide) (by decide)) (g := (mkF m 147 #[.val (.int p1), .val (.int p2), .val (.int p3), .val (.int c0), .val (.int c1), .val (.int c2), .val (.int c3), .val (.int ((p3 &&& (2147483647 : Int32)) % (5 : Int32))), .val (.ref b66), .unset, .unset] [(.int c1), (.int (own_bo c0))])) rfl (by rw [hml]; rfl) (argsL := [(.int c1)]) (rest := [(.int (own_bo c0))]) (lenOf pd_16 rfl) rfl (by show 2 * 0 + _ ≤ _; exact Nat.le_of_eq rfl) (hb hby at_147) (fun _ _ => ⟨rfl, eh77, (by decide : 1 + 0 ≤ _), (by decide : 3 + 0 ≤ _)⟩)
    dsimp only [Pt.U, Pt.locs, Pt.cells, Pt.slots] at X79 l79 y79 z79 st79 hQ79
    subst l79 y79 z79
    obtain ⟨rfl, Nq79, eh79⟩ := hQ79
    have N79 := Fr.app N77 Nq79
    have cn80 := fun (t : State) (kt : Steps p.tables e below (T79.setTop (mkF m 153 #[.val (.int p1), .val (.int p2), .val (.int p3), .val (.int c0), .val (.int c1), .val (.int c2), .val (.int c3), .val (.int ((p3 &&& (2147483647 : Int32)) % (5 : Int32))), .val (.ref b66), .unset, .unset] [(.int c2), (.int ((own_bo c0) + (own_bo c1)))])) t) => cn78 t (by
      refine st79 _ ?_
      show Steps p.tables e below (T79.setTop (mkF m 150 #[.val (.int p1), .val (.int p2), .val (.int p3), .val (.int c0), .val (.int c1), .val (.int c2), .val (.int c3), .val (.int ((p3 &&& (2147483647 : Int32)) % (5 : Int32))), .val (.ref b66), .unset, .unset] [(.int (own_bo c1)), (.int (own_bo c0))])) _
      refine XS.iadd X79.here hx rfl (hb hby at_150) rfl ?_
      show Steps p.tables e below (T79.setTop (mkF m 151 #[.val (.int p1), .val (.int p2), .val (.int p3), .val (.int c0), .val (.int c1), .val (.int c2), .val (.int c3), .val (.int ((p3 &&& (2147483647 : Int32)) % (5 : Int32))), .val (.ref b66), .unset, .unset] [(.int ((own_bo c0) + (own_bo c1)))])) _
      refine XS.iload X79.here hx rfl (hb hby at_151) rfl ?_
      show Steps p.tables e below (T79.setTop (mkF m 153 #[.val (.int p1), .val (.int p2), .val (.int p3), .val (.int c0), .val (.int c1), .val (.int c2), .val (.int c3), .val (.int ((p3 &&& (2147483647 : Int32)) % (5 : Int32))), .val (.ref b66), .unset, .unset] [(.int c2), (.int ((own_bo c0) + (own_bo c1)))])) _
      exact kt)
    obtain ⟨_, _, ⟨T81, L81, k81, n81⟩, -, X81, ⟨Lc81, hQ81, l81, y81, z81⟩, st81⟩ := Jvm.LawKit.callS X79 hx (y := (⟨"com/example/idlsmith/idlsmith/javasource/ClassFileModifiedUtf8PinLaw", "bytesOf", "(C)I"⟩ : MethodName)) hown (mvT hZ (hw _ (List.mem_of_getElem? (i := 3) rfl))) (mvT hZ (hw _ (List.mem_of_getElem? (i := 4) rfl))) (mvT hZ (hw _ (List.mem_of_getElem? (i := 5) rfl))) (mvT hZ (hw _ (List.mem_of_getElem? (i := 6) rfl))) (by decide) (backOf (W := 1) (rm1 l Z a0 hw [] c2 h75 n0 O75) hZ (hw _ (List.mem_of_getElem? (i := 6) rfl)) (hw _ (List.mem_of_getElem? (i := 5) rfl)) (by decide) (by decide)) (g := (mkF m 153 #[.val (.int p1), .val (.int p2), .val (.int p3), .val (.int c0), .val (.int c1), .val (.int c2), .val (.int c3), .val (.int ((p3 &&& (2147483647 : Int32)) % (5 : Int32))), .val (.ref b66), .unset, .unset] [(.int c2), (.int ((own_bo c0) + (own_bo c1)))])) rfl (by rw [hml]; rfl) (argsL := [(.int c2)]) (rest := [(.int ((own_bo c0) + (own_bo c1)))]) (lenOf pd_16 rfl) rfl (by show 2 * 0 + _ ≤ _; exact Nat.le_of_eq rfl) (hb hby at_153) (fun _ _ => ⟨rfl, eh79, (by decide : 1 + 0 ≤ _), (by decide : 3 + 0 ≤ _)⟩)
    dsimp only [Pt.U, Pt.locs, Pt.cells, Pt.slots] at X81 l81 y81 z81 st81 hQ81
    subst l81 y81 z81
    obtain ⟨rfl, Nq81, eh81⟩ := hQ81
    have N81 := Fr.app N79 Nq81
    have cn82 := fun (t : State) (kt : Steps p.tables e below (T81.setTop (mkF m 210 #[.val (.int p1), .val (.int p2), .val (.int p3), .val (.int c0), .val (.int c1), .val (.int c2), .val (.int c3), .val (.int ((p3 &&& (2147483647 : Int32)) % (5 : Int32))), .val (.ref b66), .val (.int (((own_bo c0) + (own_bo c1)) + (own_bo c2))), .unset] [])) t) => cn80 t (by
      refine st81 _ ?_
      show Steps p.tables e below (T81.setTop (mkF m 156 #[.val (.int p1), .val (.int p2), .val (.int p3), .val (.int c0), .val (.int c1), .val (.int c2), .val (.int c3), .val (.int ((p3 &&& (2147483647 : Int32)) % (5 : Int32))), .val (.ref b66), .unset, .unset] [(.int (own_bo c2)), (.int ((own_bo c0) + (own_bo c1)))])) _
      refine XS.iadd X81.here hx rfl (hb hby at_156) rfl ?_
      show Steps p.tables e below (T81.setTop (mkF m 157 #[.val (.int p1), .val (.int p2), .val (.int p3), .val (.int c0), .val (.int c1), .val (.int c2), .val (.int c3), .val (.int ((p3 &&& (2147483647 : Int32)) % (5 : Int32))), .val (.ref b66), .unset, .unset] [(.int (((own_bo c0) + (own_bo c1)) + (own_bo c2)))])) _
      refine XS.istore X81.here hx rfl (hb hby at_157) rfl (l' := #[.val (.int p1), .val (.int p2), .val (.int p3), .val (.int c0), .val (.int c1), .val (.int c2), .val (.int c3), .val (.int ((p3 &&& (2147483647 : Int32)) % (5 : Int32))), .val (.ref b66), .val (.int (((own_bo c0) + (own_bo c1)) + (own_bo c2))), .unset]) rfl ?_
      show Steps p.tables e below (T81.setTop (mkF m 159 #[.val (.int p1), .val (.int p2), .val (.int p3), .val (.int c0), .val (.int c1), .val (.int c2), .val (.int c3), .val (.int ((p3 &&& (2147483647 : Int32)) % (5 : Int32))), .val (.ref b66), .val (.int (((own_bo c0) + (own_bo c1)) + (own_bo c2))), .unset] [])) _
      refine XS.goto X81.here hx rfl (pc0 := 159) (pc' := 210) rfl (hb hby at_159) (by decide) (by decide) ?_
      show Steps p.tables e below (T81.setTop (mkF m 210 #[.val (.int p1), .val (.int p2), .val (.int p3), .val (.int c0), .val (.int c1), .val (.int c2), .val (.int c3), .val (.int ((p3 &&& (2147483647 : Int32)) % (5 : Int32))), .val (.ref b66), .val (.int (((own_bo c0) + (own_bo c1)) + (own_bo c2))), .unset] [])) _
      exact kt)
    obtain ⟨T83, h83, X83, e83, E83, A83, D83, U83, st83⟩ := newO X81 hx hZ hown (hw _ (List.mem_of_getElem? (i := 7) rfl)) (hw _ (List.mem_of_getElem? (i := 8) rfl)) (hw _ (List.mem_of_getElem? (i := 9) rfl)) eh81 (g := (mkF m 210 #[.val (.int p1), .val (.int p2), .val (.int p3), .val (.int c0), .val (.int c1), .val (.int c2), .val (.int c3), .val (.int ((p3 &&& (2147483647 : Int32)) % (5 : Int32))), .val (.ref b66), .val (.int (((own_bo c0) + (own_bo c1)) + (own_bo c2))), .unset] [])) rfl (hb hby at_210) (by decide) (by decide)
    obtain ⟨b83, g83⟩ : ∃ z, z = h75.size := ⟨_, rfl⟩
    rw [← g83] at A83 D83 U83 st83
    have ne_b66_b83 : b66 ≠ b83 := Nat.ne_of_lt (Nat.lt_of_lt_of_le V75.lt (Nat.le_of_eq g83.symm))
    have sz_b83 : h0.size ≤ b83 := Nat.le_trans K75.1 (Nat.le_of_eq g83.symm)
    have g_b83 : n0 ≤ b83 := Nat.le_trans (O0.1 ▸ O0.2.1) sz_b83
    have V75_e83 := V75.ext E83
    have O83 := O75.ext E83
    have K83 : Keep h0 h83 [] := K75.ext E83
    have hk := Nat.le_trans hk E83.1
    have Fcoder_83 : Fld Z h83 b83 "java/lang/String" "coder" "B" (.int (0 : Int32)) := D83 (Or.inr (hw _ (List.mem_of_getElem? (i := 33) rfl))) (ty := .byte) (by decide)
    have Fvalue_83 : Fld Z h83 b83 "java/lang/String" "value" "[B" .null := D83 (Or.inr (hw _ (List.mem_of_getElem? (i := 35) rfl))) (ty := (.array .byte)) (by decide)
    have cn84 := fun (t : State) (kt : Steps p.tables e below (T83.setTop (mkF m 216 #[.val (.int p1), .val (.int p2), .val (.int p3), .val (.int c0), .val (.int c1), .val (.int c2), .val (.int c3), .val (.int ((p3 &&& (2147483647 : Int32)) % (5 : Int32))), .val (.ref b66), .val (.int (((own_bo c0) + (own_bo c1)) + (own_bo c2))), .unset] [(.ref b66), (.ref b83), (.ref b83)])) t) => cn82 t (by
      refine st83 _ ?_
      show Steps p.tables e below (T83.setTop (mkF m 213 #[.val (.int p1), .val (.int p2), .val (.int p3), .val (.int c0), .val (.int c1), .val (.int c2), .val (.int c3), .val (.int ((p3 &&& (2147483647 : Int32)) % (5 : Int32))), .val (.ref b66), .val (.int (((own_bo c0) + (own_bo c1)) + (own_bo c2))), .unset] [(.ref b83)])) _
      refine XS.dup X83.here hx rfl (hb hby at_213) rfl rfl ?_
      show Steps p.tables e below (T83.setTop (mkF m 214 #[.val (.int p1), .val (.int p2), .val (.int p3), .val (.int c0), .val (.int c1), .val (.int c2), .val (.int c3), .val (.int ((p3 &&& (2147483647 : Int32)) % (5 : Int32))), .val (.ref b66), .val (.int (((own_bo c0) + (own_bo c1)) + (own_bo c2))), .unset] [(.ref b83), (.ref b83)])) _
      refine XS.aload X83.here hx rfl (hb hby at_214) rfl rfl ?_
      show Steps p.tables e below (T83.setTop (mkF m 216 #[.val (.int p1), .val (.int p2), .val (.int p3), .val (.int c0), .val (.int c1), .val (.int c2), .val (.int c3), .val (.int ((p3 &&& (2147483647 : Int32)) % (5 : Int32))), .val (.ref b66), .val (.int (((own_bo c0) + (own_bo c1)) + (own_bo c2))), .unset] [(.ref b66), (.ref b83), (.ref b83)])) _
      exact kt)
    have AFc := (AF.of_arv (n := 3) V75_e83 rfl).congr (fun j _ => own_getD [c0, c1, c2] j)
    obtain ⟨_, _, ⟨T85, L85, k85, n85⟩, -, X85, ⟨Lc85, hQ85, l85, y85, z85⟩, st85⟩ := X83.specialBack hx (y := (⟨"java/lang/String", "<init>", "([C)V"⟩ : MethodName)) rfl hown (mvT hZ (hw _ (List.mem_of_getElem? (i := 10) rfl))) (mvT hZ (hw _ (List.mem_of_getElem? (i := 11) rfl))) (mvT hZ (hw _ (List.mem_of_getElem? (i := 12) rfl))) (by decide) (backOf (W := 1) (rm3s l Z a0 hw [] b83 b66 k66 [c0, c1, c2] co vf h83 n0 O83 g_b83 A83 Fvalue_83 Fcoder_83 (Ne.symm ne_b66_b83) (by simp) (by simp) (own_u1 hc0 (own_u1 hc1 (own_u1 hc2 own_u0))) AFc SWh) hZ (hw _ (List.mem_of_getElem? (i := 12) rfl)) (hw _ (List.mem_of_getElem? (i := 9) rfl)) (by decide) (by decide)) (g := (mkF m 216 #[.val (.int p1), .val (.int p2), .val (.int p3), .val (.int c0), .val (.int c1), .val (.int c2), .val (.int c3), .val (.int ((p3 &&& (2147483647 : Int32)) % (5 : Int32))), .val (.ref b66), .val (.int (((own_bo c0) + (own_bo c1)) + (own_bo c2))), .unset] [(.ref b66), (.ref b83), (.ref b83)])) rfl (by rw [hml]; rfl) (Steps.refl _) (a := b83) (argsL := [(.ref b66)]) (rest := [(.ref b83)]) (lenOf pd_17 rfl) rfl (by show 2 * 0 + _ ≤ _; exact Nat.le_of_eq rfl) (hb hby at_216) (fun _ _ => ⟨rfl, e83, (by decide : 2 + 2 ≤ _), (by decide : 7 + 12 ≤ _)⟩)
    dsimp only [Pt.U, Pt.locs, Pt.cells, Pt.slots] at X85 l85 y85 z85 st85 hQ85
    subst l85 y85 z85
    obtain ⟨rfl, Nq85, Kq85, b85x, kb85, fb85, cd85, SS85⟩ := hQ85
    have N85 := Fr.app N81 Nq85
    have K85 := Kq85
    have A83_e85 := A83.keep K85
    have AFc_e85 := AFc.keep K85 (ninS ne_b66_b83 nin0)
    have O85 := O83.keep K85 (allS g_b83 all0)
    have KK85 : Keep h0 T85.heap [] := K83.trans K85 (allS (Or.inr sz_b83) all0)
    have hk := Nat.le_trans hk K85.1
    have cn86 := fun (t : State) (kt : Steps p.tables e below (T85.setTop (mkF m 223 #[.val (.int p1), .val (.int p2), .val (.int p3), .val (.int c0), .val (.int c1), .val (.int c2), .val (.int c3), .val (.int ((p3 &&& (2147483647 : Int32)) % (5 : Int32))), .val (.ref b66), .val (.int (((own_bo c0) + (own_bo c1)) + (own_bo c2))), .val (.ref b83)] [(.ref b83)])) t) => cn84 t (by
      refine st85.trans ?_
      show Steps p.tables e below (T85.setTop (mkF m 219 #[.val (.int p1), .val (.int p2), .val (.int p3), .val (.int c0), .val (.int c1), .val (.int c2), .val (.int c3), .val (.int ((p3 &&& (2147483647 : Int32)) % (5 : Int32))), .val (.ref b66), .val (.int (((own_bo c0) + (own_bo c1)) + (own_bo c2))), .unset] [(.ref b83)])) _
      refine XS.astore X85.here hx rfl (hb hby at_219) rfl rfl (l' := #[.val (.int p1), .val (.int p2), .val (.int p3), .val (.int c0), .val (.int c1), .val (.int c2), .val (.int c3), .val (.int ((p3 &&& (2147483647 : Int32)) % (5 : Int32))), .val (.ref b66), .val (.int (((own_bo c0) + (own_bo c1)) + (own_bo c2))), .val (.ref b83)]) rfl ?_
      show Steps p.tables e below (T85.setTop (mkF m 221 #[.val (.int p1), .val (.int p2), .val (.int p3), .val (.int c0), .val (.int c1), .val (.int c2), .val (.int c3), .val (.int ((p3 &&& (2147483647 : Int32)) % (5 : Int32))), .val (.ref b66), .val (.int (((own_bo c0) + (own_bo c1)) + (own_bo c2))), .val (.ref b83)] [])) _
      refine XS.aload X85.here hx rfl (hb hby at_221) rfl rfl ?_
      show Steps p.tables e below (T85.setTop (mkF m 223 #[.val (.int p1), .val (.int p2), .val (.int p3), .val (.int c0), .val (.int c1), .val (.int c2), .val (.int c3), .val (.int ((p3 &&& (2147483647 : Int32)) % (5 : Int32))), .val (.ref b66), .val (.int (((own_bo c0) + (own_bo c1)) + (own_bo c2))), .val (.ref b83)] [(.ref b83)])) _
      exact kt)
    obtain ⟨_, _, ⟨T87, L87, k87, n87⟩, -, X87, ⟨Lc87, hQ87, l87, y87, z87⟩, st87⟩ := Jvm.LawKit.callS X85 hx (y := (⟨"com/example/idlsmith/idlsmith/javasource/ClassFile", "modifiedUtf8", "(Ljava/lang/String;)I"⟩ : MethodName)) hown (mvT hZ (hw _ (List.mem_of_getElem? (i := 36) rfl))) (mvT hZ (hw _ (List.mem_of_getElem? (i := 37) rfl))) (mvT hZ (hw _ (List.mem_of_getElem? (i := 38) rfl))) (mvT hZ (hw _ (List.mem_of_getElem? (i := 39) rfl))) (by decide) (backOf (W := 0) (rm8 l Z a0 hw [] b83 b85x [c0, c1, c2] kb85 fb85 cd85 co vf T85.heap n0 O85 (by simp) (own_u1 hc0 (own_u1 hc1 (own_u1 hc2 own_u0))) SS85 SWh) hZ (hw _ (List.mem_of_getElem? (i := 39) rfl)) (hw _ (List.mem_of_getElem? (i := 38) rfl)) (by decide) (by decide)) (g := (mkF m 223 #[.val (.int p1), .val (.int p2), .val (.int p3), .val (.int c0), .val (.int c1), .val (.int c2), .val (.int c3), .val (.int ((p3 &&& (2147483647 : Int32)) % (5 : Int32))), .val (.ref b66), .val (.int (((own_bo c0) + (own_bo c1)) + (own_bo c2))), .val (.ref b83)] [(.ref b83)])) rfl (by rw [hml]; rfl) (argsL := [(.ref b83)]) (rest := []) (lenOf pd_18 rfl) rfl (by show 2 * 0 + _ ≤ _; exact Nat.le_of_eq rfl) (hb hby at_223) (fun _ _ => ⟨rfl, rfl, (by decide : 4 + 0 ≤ _), (by decide : 19 + 0 ≤ _)⟩)
    dsimp only [Pt.U, Pt.locs, Pt.cells, Pt.slots] at X87 l87 y87 z87 st87 hQ87
    subst l87 y87 z87
    obtain ⟨rfl, Nq87, eh87⟩ := hQ87
    have N87 := Fr.app N85 Nq87
    have cn88 := fun (t : State) (kt : Steps p.tables e below (T87.setTop (mkF m 228 #[.val (.int p1), .val (.int p2), .val (.int p3), .val (.int c0), .val (.int c1), .val (.int c2), .val (.int c3), .val (.int ((p3 &&& (2147483647 : Int32)) % (5 : Int32))), .val (.ref b66), .val (.int (((own_bo c0) + (own_bo c1)) + (own_bo c2))), .val (.ref b83)] [(.int (((own_bo c0) + (own_bo c1)) + (own_bo c2))), (.int (own_sum [c0, c1, c2] [c0, c1, c2].length))])) t) => cn86 t (by
      refine st87 _ ?_
      show Steps p.tables e below (T87.setTop (mkF m 226 #[.val (.int p1), .val (.int p2), .val (.int p3), .val (.int c0), .val (.int c1), .val (.int c2), .val (.int c3), .val (.int ((p3 &&& (2147483647 : Int32)) % (5 : Int32))), .val (.ref b66), .val (.int (((own_bo c0) + (own_bo c1)) + (own_bo c2))), .val (.ref b83)] [(.int (own_sum [c0, c1, c2] [c0, c1, c2].length))])) _
      refine XS.iload X87.here hx rfl (hb hby at_226) rfl ?_
      show Steps p.tables e below (T87.setTop (mkF m 228 #[.val (.int p1), .val (.int p2), .val (.int p3), .val (.int c0), .val (.int c1), .val (.int c2), .val (.int c3), .val (.int ((p3 &&& (2147483647 : Int32)) % (5 : Int32))), .val (.ref b66), .val (.int (((own_bo c0) + (own_bo c1)) + (own_bo c2))), .val (.ref b83)] [(.int (((own_bo c0) + (own_bo c1)) + (own_bo c2))), (.int (own_sum [c0, c1, c2] [c0, c1, c2].length))])) _
      exact kt)
    have cn89 := fun (t : State) (kt : Steps p.tables e below (T87.setTop (mkF m 236 #[.val (.int p1), .val (.int p2), .val (.int p3), .val (.int c0), .val (.int c1), .val (.int c2), .val (.int c3), .val (.int ((p3 &&& (2147483647 : Int32)) % (5 : Int32))), .val (.ref b66), .val (.int (((own_bo c0) + (own_bo c1)) + (own_bo c2))), .val (.ref b83)] [(.int (1 : Int32))])) t) => cn88 t (by
      refine XS.icmpNo X87.here hx rfl (hb hby at_228) rfl (teq own_fin3).2 ?_
      show Steps p.tables e below (T87.setTop (mkF m 231 #[.val (.int p1), .val (.int p2), .val (.int p3), .val (.int c0), .val (.int c1), .val (.int c2), .val (.int c3), .val (.int ((p3 &&& (2147483647 : Int32)) % (5 : Int32))), .val (.ref b66), .val (.int (((own_bo c0) + (own_bo c1)) + (own_bo c2))), .val (.ref b83)] [])) _
      refine XS.iconst X87.here hx rfl (hb hby at_231) ?_
      show Steps p.tables e below (T87.setTop (mkF m 232 #[.val (.int p1), .val (.int p2), .val (.int p3), .val (.int c0), .val (.int c1), .val (.int c2), .val (.int c3), .val (.int ((p3 &&& (2147483647 : Int32)) % (5 : Int32))), .val (.ref b66), .val (.int (((own_bo c0) + (own_bo c1)) + (own_bo c2))), .val (.ref b83)] [(.int (1 : Int32))])) _
      refine XS.goto X87.here hx rfl (pc0 := 232) (pc' := 236) rfl (hb hby at_232) (by decide) (by decide) ?_
      show Steps p.tables e below (T87.setTop (mkF m 236 #[.val (.int p1), .val (.int p2), .val (.int p3), .val (.int c0), .val (.int c1), .val (.int c2), .val (.int c3), .val (.int ((p3 &&& (2147483647 : Int32)) % (5 : Int32))), .val (.ref b66), .val (.int (((own_bo c0) + (own_bo c1)) + (own_bo c2))), .val (.ref b83)] [(.int (1 : Int32))])) _
      exact kt)
    obtain ⟨frs, hr, hrun, hended, hRW⟩ := X87.leaveW hS (by rw [eh87]; exact hk) (v := some (.int (1 : Int32))) (fun h => by rw [Bd.returns] at h; cases h)
    refine ⟨_, _, cn89 _ ?_, hrun, hended, _, _, rfl, ?_, hRW.1, hRW.2.1, hRW.2.2.1, hRW.2.2.2.mono (by decide) (by decide)⟩
    · exact retN X87 hx (t := .boolean) Bd.returns (by simp) (hb hby at_236) hr
    · show Q0 n0 _ T87.heap _
      rw [eh87]
      exact ⟨rfl, N87⟩
  · have cn90 := fun (t : State) (kt : Steps p.tables e below (s₁.setTop (mkF m 43 #[.val (.int p1), .val (.int p2), .val (.int p3), .val (.int c0), .val (.int c1), .val (.int c2), .val (.int c3), .val (.int ((p3 &&& (2147483647 : Int32)) % (5 : Int32))), .unset, .unset, .unset] [(.int ((p3 &&& (2147483647 : Int32)) % (5 : Int32)))])) t) => cn9 t (by
      refine XS.iload X0.here hx rfl (hb hby at_41) rfl ?_
      show Steps p.tables e below (s₁.setTop (mkF m 43 #[.val (.int p1), .val (.int p2), .val (.int p3), .val (.int c0), .val (.int c1), .val (.int c2), .val (.int c3), .val (.int ((p3 &&& (2147483647 : Int32)) % (5 : Int32))), .unset, .unset, .unset] [(.int ((p3 &&& (2147483647 : Int32)) % (5 : Int32)))])) _
      exact kt)
    have cn91 := fun (t : State) (kt : Steps p.tables e below (s₁.setTop (mkF m 60 #[.val (.int p1), .val (.int p2), .val (.int p3), .val (.int c0), .val (.int c1), .val (.int c2), .val (.int c3), .val (.int ((p3 &&& (2147483647 : Int32)) % (5 : Int32))), .unset, .unset, .unset] [(.int (1 : Int32)), (.int ((p3 &&& (2147483647 : Int32)) % (5 : Int32)))])) t) => cn90 t (by
      refine XS.ifYes X0.here hx rfl (pc0 := 43) (pc' := 57) rfl (hb hby at_43) rfl ((if0 _ _).trans (feq (by rw [hk5]; decide)).2) (by decide) (by decide) ?_
      show Steps p.tables e below (s₁.setTop (mkF m 57 #[.val (.int p1), .val (.int p2), .val (.int p3), .val (.int c0), .val (.int c1), .val (.int c2), .val (.int c3), .val (.int ((p3 &&& (2147483647 : Int32)) % (5 : Int32))), .unset, .unset, .unset] [])) _
      refine XS.iload X0.here hx rfl (hb hby at_57) rfl ?_
      show Steps p.tables e below (s₁.setTop (mkF m 59 #[.val (.int p1), .val (.int p2), .val (.int p3), .val (.int c0), .val (.int c1), .val (.int c2), .val (.int c3), .val (.int ((p3 &&& (2147483647 : Int32)) % (5 : Int32))), .unset, .unset, .unset] [(.int ((p3 &&& (2147483647 : Int32)) % (5 : Int32)))])) _
      refine XS.iconst X0.here hx rfl (hb hby at_59) ?_
      show Steps p.tables e below (s₁.setTop (mkF m 60 #[.val (.int p1), .val (.int p2), .val (.int p3), .val (.int c0), .val (.int c1), .val (.int c2), .val (.int c3), .val (.int ((p3 &&& (2147483647 : Int32)) % (5 : Int32))), .unset, .unset, .unset] [(.int (1 : Int32)), (.int ((p3 &&& (2147483647 : Int32)) % (5 : Int32)))])) _
      exact kt)
    have cn92 := fun (t : State) (kt : Steps p.tables e below (s₁.setTop (mkF m 84 #[.val (.int p1), .val (.int p2), .val (.int p3), .val (.int c0), .val (.int c1), .val (.int c2), .val (.int c3), .val (.int ((p3 &&& (2147483647 : Int32)) % (5 : Int32))), .unset, .unset, .unset] [(.int (2 : Int32)), (.int ((p3 &&& (2147483647 : Int32)) % (5 : Int32)))])) t) => cn91 t (by
      refine XS.icmpYes X0.here hx rfl (pc0 := 60) (pc' := 81) rfl (hb hby at_60) rfl (feq (by rw [hk5]; decide)).2 (by decide) (by decide) ?_
      show Steps p.tables e below (s₁.setTop (mkF m 81 #[.val (.int p1), .val (.int p2), .val (.int p3), .val (.int c0), .val (.int c1), .val (.int c2), .val (.int c3), .val (.int ((p3 &&& (2147483647 : Int32)) % (5 : Int32))), .unset, .unset, .unset] [])) _
      refine XS.iload X0.here hx rfl (hb hby at_81) rfl ?_
      show Steps p.tables e below (s₁.setTop (mkF m 83 #[.val (.int p1), .val (.int p2), .val (.int p3), .val (.int c0), .val (.int c1), .val (.int c2), .val (.int c3), .val (.int ((p3 &&& (2147483647 : Int32)) % (5 : Int32))), .unset, .unset, .unset] [(.int ((p3 &&& (2147483647 : Int32)) % (5 : Int32)))])) _
      refine XS.iconst X0.here hx rfl (hb hby at_83) ?_
      show Steps p.tables e below (s₁.setTop (mkF m 84 #[.val (.int p1), .val (.int p2), .val (.int p3), .val (.int c0), .val (.int c1), .val (.int c2), .val (.int c3), .val (.int ((p3 &&& (2147483647 : Int32)) % (5 : Int32))), .unset, .unset, .unset] [(.int (2 : Int32)), (.int ((p3 &&& (2147483647 : Int32)) % (5 : Int32)))])) _
      exact kt)
    have cn93 := fun (t : State) (kt : Steps p.tables e below (s₁.setTop (mkF m 119 #[.val (.int p1), .val (.int p2), .val (.int p3), .val (.int c0), .val (.int c1), .val (.int c2), .val (.int c3), .val (.int ((p3 &&& (2147483647 : Int32)) % (5 : Int32))), .unset, .unset, .unset] [(.int (3 : Int32)), (.int ((p3 &&& (2147483647 : Int32)) % (5 : Int32)))])) t) => cn92 t (by
      refine XS.icmpYes X0.here hx rfl (pc0 := 84) (pc' := 116) rfl (hb hby at_84) rfl (feq (by rw [hk5]; decide)).2 (by decide) (by decide) ?_
      show Steps p.tables e below (s₁.setTop (mkF m 116 #[.val (.int p1), .val (.int p2), .val (.int p3), .val (.int c0), .val (.int c1), .val (.int c2), .val (.int c3), .val (.int ((p3 &&& (2147483647 : Int32)) % (5 : Int32))), .unset, .unset, .unset] [])) _
      refine XS.iload X0.here hx rfl (hb hby at_116) rfl ?_
      show Steps p.tables e below (s₁.setTop (mkF m 118 #[.val (.int p1), .val (.int p2), .val (.int p3), .val (.int c0), .val (.int c1), .val (.int c2), .val (.int c3), .val (.int ((p3 &&& (2147483647 : Int32)) % (5 : Int32))), .unset, .unset, .unset] [(.int ((p3 &&& (2147483647 : Int32)) % (5 : Int32)))])) _
      refine XS.iconst X0.here hx rfl (hb hby at_118) ?_
      show Steps p.tables e below (s₁.setTop (mkF m 119 #[.val (.int p1), .val (.int p2), .val (.int p3), .val (.int c0), .val (.int c1), .val (.int c2), .val (.int c3), .val (.int ((p3 &&& (2147483647 : Int32)) % (5 : Int32))), .unset, .unset, .unset] [(.int (3 : Int32)), (.int ((p3 &&& (2147483647 : Int32)) % (5 : Int32)))])) _
      exact kt)
    have cn94 := fun (t : State) (kt : Steps p.tables e below (s₁.setTop (mkF m 163 #[.val (.int p1), .val (.int p2), .val (.int p3), .val (.int c0), .val (.int c1), .val (.int c2), .val (.int c3), .val (.int ((p3 &&& (2147483647 : Int32)) % (5 : Int32))), .unset, .unset, .unset] [(.int (4 : Int32))])) t) => cn93 t (by
      refine XS.icmpYes X0.here hx rfl (pc0 := 119) (pc' := 162) rfl (hb hby at_119) rfl (feq (by rw [hk5]; decide)).2 (by decide) (by decide) ?_
      show Steps p.tables e below (s₁.setTop (mkF m 162 #[.val (.int p1), .val (.int p2), .val (.int p3), .val (.int c0), .val (.int c1), .val (.int c2), .val (.int c3), .val (.int ((p3 &&& (2147483647 : Int32)) % (5 : Int32))), .unset, .unset, .unset] [])) _
      refine XS.iconst X0.here hx rfl (hb hby at_162) ?_
      show Steps p.tables e below (s₁.setTop (mkF m 163 #[.val (.int p1), .val (.int p2), .val (.int p3), .val (.int c0), .val (.int c1), .val (.int c2), .val (.int c3), .val (.int ((p3 &&& (2147483647 : Int32)) % (5 : Int32))), .unset, .unset, .unset] [(.int (4 : Int32))])) _
      exact kt)
    obtain ⟨T95, h95, k95, X95, e95, E95, A95, st95⟩ := newP X0 hx hZ (hw _ (List.mem_of_getElem? (i := 2) rfl)) e0 (g := (mkF m 163 #[.val (.int p1), .val (.int p2), .val (.int p3), .val (.int c0), .val (.int c1), .val (.int c2), .val (.int c3), .val (.int ((p3 &&& (2147483647 : Int32)) % (5 : Int32))), .unset, .unset, .unset] [(.int (4 : Int32))])) rfl (hb hby at_163) rfl (by decide) (cap := 4) (by decide) (by decide) (by decide) (by decide)
    obtain ⟨b95, g95⟩ : ∃ z, z = h0.size := ⟨_, rfl⟩
    rw [← g95] at A95 st95
    have sz_b95 : h0.size ≤ b95 := Nat.le_trans (Keep.refl h0 []).1 (Nat.le_of_eq g95.symm)
    have g_b95 : n0 ≤ b95 := Nat.le_trans (O0.1 ▸ O0.2.1) sz_b95
    have O95 := O0.ext E95
    have K95 : Keep h0 h95 [] := (Keep.refl h0 []).ext E95
    have hk := Nat.le_trans hk E95.1
    have V95 : Arv Z h95 b95 k95 .char (4 : Int32) [(.int (0 : Int32)), (.int (0 : Int32)), (.int (0 : Int32)), (.int (0 : Int32))] (.int (0 : Int32)) := (Arv.new A95 (by decide)).pad (pad_rep [] (.int (0 : Int32)) 4)
    have cn96 := fun (t : State) (kt : Steps p.tables e below (T95.setTop (mkF m 168 #[.val (.int p1), .val (.int p2), .val (.int p3), .val (.int c0), .val (.int c1), .val (.int c2), .val (.int c3), .val (.int ((p3 &&& (2147483647 : Int32)) % (5 : Int32))), .unset, .unset, .unset] [(.int c0), (.int (0 : Int32)), (.ref b95), (.ref b95)])) t) => cn94 t (by
      refine st95 _ ?_
      show Steps p.tables e below (T95.setTop (mkF m 165 #[.val (.int p1), .val (.int p2), .val (.int p3), .val (.int c0), .val (.int c1), .val (.int c2), .val (.int c3), .val (.int ((p3 &&& (2147483647 : Int32)) % (5 : Int32))), .unset, .unset, .unset] [(.ref b95)])) _
      refine XS.dup X95.here hx rfl (hb hby at_165) rfl rfl ?_
      show Steps p.tables e below (T95.setTop (mkF m 166 #[.val (.int p1), .val (.int p2), .val (.int p3), .val (.int c0), .val (.int c1), .val (.int c2), .val (.int c3), .val (.int ((p3 &&& (2147483647 : Int32)) % (5 : Int32))), .unset, .unset, .unset] [(.ref b95), (.ref b95)])) _
      refine XS.iconst X95.here hx rfl (hb hby at_166) ?_
      show Steps p.tables e below (T95.setTop (mkF m 167 #[.val (.int p1), .val (.int p2), .val (.int p3), .val (.int c0), .val (.int c1), .val (.int c2), .val (.int c3), .val (.int ((p3 &&& (2147483647 : Int32)) % (5 : Int32))), .unset, .unset, .unset] [(.int (0 : Int32)), (.ref b95), (.ref b95)])) _
      refine XS.iloadN X95.here hx rfl (hb hby at_167) rfl ?_
      show Steps p.tables e below (T95.setTop (mkF m 168 #[.val (.int p1), .val (.int p2), .val (.int p3), .val (.int c0), .val (.int c1), .val (.int c2), .val (.int c3), .val (.int ((p3 &&& (2147483647 : Int32)) % (5 : Int32))), .unset, .unset, .unset] [(.int c0), (.int (0 : Int32)), (.ref b95), (.ref b95)])) _
      exact kt)
    have Vx97 := V95
    obtain ⟨cl97, Ar97, q97, S97, M97, H97, G97⟩ := Vx97
    have hin97 : ¬ ((0 : Int32) < 0 ∨ cl97.slots.size ≤ ((0 : Int32)).toNatClampNeg) := inb_of S97 ⟨by decide, by decide⟩
    obtain ⟨T98, h98, X98, e98, W98, st98⟩ := stC X95 hx hZ e95 Ar97 (j := (0 : Int32)) hin97 (g := (mkF m 168 #[.val (.int p1), .val (.int p2), .val (.int p3), .val (.int c0), .val (.int c1), .val (.int c2), .val (.int c3), .val (.int ((p3 &&& (2147483647 : Int32)) % (5 : Int32))), .unset, .unset, .unset] [(.int c0), (.int (0 : Int32)), (.ref b95), (.ref b95)])) rfl rfl (hb hby at_168)
    rw [own_nc hc0] at W98
    have V98 : Arv Z h98 b95 k95 .char (4 : Int32) [(.int c0), (.int (0 : Int32)), (.int (0 : Int32)), (.int (0 : Int32))] (.int (0 : Int32)) := Arv.set Ar97 q97 S97 M97 H97 G97 (own_fc hc0) W98 0 rfl (Nat.le_of_ble_eq_true rfl)
    have N98 := Fr.snoc X98 N0 g_b95
    have O98 := O95.wr W98 g_b95
    have hk := Nat.le_trans hk (Nat.le_of_eq W98.size.symm)
    have K98 : Keep h0 h98 [] := K95.wr W98 (Or.inr sz_b95)
    have cn99 := fun (t : State) (kt : Steps p.tables e below (T98.setTop (mkF m 173 #[.val (.int p1), .val (.int p2), .val (.int p3), .val (.int c0), .val (.int c1), .val (.int c2), .val (.int c3), .val (.int ((p3 &&& (2147483647 : Int32)) % (5 : Int32))), .unset, .unset, .unset] [(.int c1), (.int (1 : Int32)), (.ref b95), (.ref b95)])) t) => cn96 t (by
      refine st98 _ ?_
      show Steps p.tables e below (T98.setTop (mkF m 169 #[.val (.int p1), .val (.int p2), .val (.int p3), .val (.int c0), .val (.int c1), .val (.int c2), .val (.int c3), .val (.int ((p3 &&& (2147483647 : Int32)) % (5 : Int32))), .unset, .unset, .unset] [(.ref b95)])) _
      refine XS.dup X98.here hx rfl (hb hby at_169) rfl rfl ?_
      show Steps p.tables e below (T98.setTop (mkF m 170 #[.val (.int p1), .val (.int p2), .val (.int p3), .val (.int c0), .val (.int c1), .val (.int c2), .val (.int c3), .val (.int ((p3 &&& (2147483647 : Int32)) % (5 : Int32))), .unset, .unset, .unset] [(.ref b95), (.ref b95)])) _
      refine XS.iconst X98.here hx rfl (hb hby at_170) ?_
      show Steps p.tables e below (T98.setTop (mkF m 171 #[.val (.int p1), .val (.int p2), .val (.int p3), .val (.int c0), .val (.int c1), .val (.int c2), .val (.int c3), .val (.int ((p3 &&& (2147483647 : Int32)) % (5 : Int32))), .unset, .unset, .unset] [(.int (1 : Int32)), (.ref b95), (.ref b95)])) _
      refine XS.iload X98.here hx rfl (hb hby at_171) rfl ?_
      show Steps p.tables e below (T98.setTop (mkF m 173 #[.val (.int p1), .val (.int p2), .val (.int p3), .val (.int c0), .val (.int c1), .val (.int c2), .val (.int c3), .val (.int ((p3 &&& (2147483647 : Int32)) % (5 : Int32))), .unset, .unset, .unset] [(.int c1), (.int (1 : Int32)), (.ref b95), (.ref b95)])) _
      exact kt)
    have Vx100 := V98
    obtain ⟨cl100, Ar100, q100, S100, M100, H100, G100⟩ := Vx100
    have hin100 : ¬ ((1 : Int32) < 0 ∨ cl100.slots.size ≤ ((1 : Int32)).toNatClampNeg) := inb_of S100 ⟨by decide, by decide⟩
    obtain ⟨T101, h101, X101, e101, W101, st101⟩ := stC X98 hx hZ e98 Ar100 (j := (1 : Int32)) hin100 (g := (mkF m 173 #[.val (.int p1), .val (.int p2), .val (.int p3), .val (.int c0), .val (.int c1), .val (.int c2), .val (.int c3), .val (.int ((p3 &&& (2147483647 : Int32)) % (5 : Int32))), .unset, .unset, .unset] [(.int c1), (.int (1 : Int32)), (.ref b95), (.ref b95)])) rfl rfl (hb hby at_173)
    rw [own_nc hc1] at W101
    have V101 : Arv Z h101 b95 k95 .char (4 : Int32) [(.int c0), (.int c1), (.int (0 : Int32)), (.int (0 : Int32))] (.int (0 : Int32)) := Arv.set Ar100 q100 S100 M100 H100 G100 (own_fc hc1) W101 1 rfl (Nat.le_of_ble_eq_true rfl)
    have N101 := Fr.snoc X101 N98 g_b95
    have O101 := O98.wr W101 g_b95
    have hk := Nat.le_trans hk (Nat.le_of_eq W101.size.symm)
    have K101 : Keep h0 h101 [] := K98.wr W101 (Or.inr sz_b95)
    have cn102 := fun (t : State) (kt : Steps p.tables e below (T101.setTop (mkF m 178 #[.val (.int p1), .val (.int p2), .val (.int p3), .val (.int c0), .val (.int c1), .val (.int c2), .val (.int c3), .val (.int ((p3 &&& (2147483647 : Int32)) % (5 : Int32))), .unset, .unset, .unset] [(.int c2), (.int (2 : Int32)), (.ref b95), (.ref b95)])) t) => cn99 t (by
      refine st101 _ ?_
      show Steps p.tables e below (T101.setTop (mkF m 174 #[.val (.int p1), .val (.int p2), .val (.int p3), .val (.int c0), .val (.int c1), .val (.int c2), .val (.int c3), .val (.int ((p3 &&& (2147483647 : Int32)) % (5 : Int32))), .unset, .unset, .unset] [(.ref b95)])) _
      refine XS.dup X101.here hx rfl (hb hby at_174) rfl rfl ?_
      show Steps p.tables e below (T101.setTop (mkF m 175 #[.val (.int p1), .val (.int p2), .val (.int p3), .val (.int c0), .val (.int c1), .val (.int c2), .val (.int c3), .val (.int ((p3 &&& (2147483647 : Int32)) % (5 : Int32))), .unset, .unset, .unset] [(.ref b95), (.ref b95)])) _
      refine XS.iconst X101.here hx rfl (hb hby at_175) ?_
      show Steps p.tables e below (T101.setTop (mkF m 176 #[.val (.int p1), .val (.int p2), .val (.int p3), .val (.int c0), .val (.int c1), .val (.int c2), .val (.int c3), .val (.int ((p3 &&& (2147483647 : Int32)) % (5 : Int32))), .unset, .unset, .unset] [(.int (2 : Int32)), (.ref b95), (.ref b95)])) _
      refine XS.iload X101.here hx rfl (hb hby at_176) rfl ?_
      show Steps p.tables e below (T101.setTop (mkF m 178 #[.val (.int p1), .val (.int p2), .val (.int p3), .val (.int c0), .val (.int c1), .val (.int c2), .val (.int c3), .val (.int ((p3 &&& (2147483647 : Int32)) % (5 : Int32))), .unset, .unset, .unset] [(.int c2), (.int (2 : Int32)), (.ref b95), (.ref b95)])) _
      exact kt)
    have Vx103 := V101
    obtain ⟨cl103, Ar103, q103, S103, M103, H103, G103⟩ := Vx103
    have hin103 : ¬ ((2 : Int32) < 0 ∨ cl103.slots.size ≤ ((2 : Int32)).toNatClampNeg) := inb_of S103 ⟨by decide, by decide⟩
    obtain ⟨T104, h104, X104, e104, W104, st104⟩ := stC X101 hx hZ e101 Ar103 (j := (2 : Int32)) hin103 (g := (mkF m 178 #[.val (.int p1), .val (.int p2), .val (.int p3), .val (.int c0), .val (.int c1), .val (.int c2), .val (.int c3), .val (.int ((p3 &&& (2147483647 : Int32)) % (5 : Int32))), .unset, .unset, .unset] [(.int c2), (.int (2 : Int32)), (.ref b95), (.ref b95)])) rfl rfl (hb hby at_178)
    rw [own_nc hc2] at W104
    have V104 : Arv Z h104 b95 k95 .char (4 : Int32) [(.int c0), (.int c1), (.int c2), (.int (0 : Int32))] (.int (0 : Int32)) := Arv.set Ar103 q103 S103 M103 H103 G103 (own_fc hc2) W104 2 rfl (Nat.le_of_ble_eq_true rfl)
    have N104 := Fr.snoc X104 N101 g_b95
    have O104 := O101.wr W104 g_b95
    have hk := Nat.le_trans hk (Nat.le_of_eq W104.size.symm)
    have K104 : Keep h0 h104 [] := K101.wr W104 (Or.inr sz_b95)
    have cn105 := fun (t : State) (kt : Steps p.tables e below (T104.setTop (mkF m 183 #[.val (.int p1), .val (.int p2), .val (.int p3), .val (.int c0), .val (.int c1), .val (.int c2), .val (.int c3), .val (.int ((p3 &&& (2147483647 : Int32)) % (5 : Int32))), .unset, .unset, .unset] [(.int c3), (.int (3 : Int32)), (.ref b95), (.ref b95)])) t) => cn102 t (by
      refine st104 _ ?_
      show Steps p.tables e below (T104.setTop (mkF m 179 #[.val (.int p1), .val (.int p2), .val (.int p3), .val (.int c0), .val (.int c1), .val (.int c2), .val (.int c3), .val (.int ((p3 &&& (2147483647 : Int32)) % (5 : Int32))), .unset, .unset, .unset] [(.ref b95)])) _
      refine XS.dup X104.here hx rfl (hb hby at_179) rfl rfl ?_
      show Steps p.tables e below (T104.setTop (mkF m 180 #[.val (.int p1), .val (.int p2), .val (.int p3), .val (.int c0), .val (.int c1), .val (.int c2), .val (.int c3), .val (.int ((p3 &&& (2147483647 : Int32)) % (5 : Int32))), .unset, .unset, .unset] [(.ref b95), (.ref b95)])) _
      refine XS.iconst X104.here hx rfl (hb hby at_180) ?_
      show Steps p.tables e below (T104.setTop (mkF m 181 #[.val (.int p1), .val (.int p2), .val (.int p3), .val (.int c0), .val (.int c1), .val (.int c2), .val (.int c3), .val (.int ((p3 &&& (2147483647 : Int32)) % (5 : Int32))), .unset, .unset, .unset] [(.int (3 : Int32)), (.ref b95), (.ref b95)])) _
      refine XS.iload X104.here hx rfl (hb hby at_181) rfl ?_
      show Steps p.tables e below (T104.setTop (mkF m 183 #[.val (.int p1), .val (.int p2), .val (.int p3), .val (.int c0), .val (.int c1), .val (.int c2), .val (.int c3), .val (.int ((p3 &&& (2147483647 : Int32)) % (5 : Int32))), .unset, .unset, .unset] [(.int c3), (.int (3 : Int32)), (.ref b95), (.ref b95)])) _
      exact kt)
    have Vx106 := V104
    obtain ⟨cl106, Ar106, q106, S106, M106, H106, G106⟩ := Vx106
    have hin106 : ¬ ((3 : Int32) < 0 ∨ cl106.slots.size ≤ ((3 : Int32)).toNatClampNeg) := inb_of S106 ⟨by decide, by decide⟩
    obtain ⟨T107, h107, X107, e107, W107, st107⟩ := stC X104 hx hZ e104 Ar106 (j := (3 : Int32)) hin106 (g := (mkF m 183 #[.val (.int p1), .val (.int p2), .val (.int p3), .val (.int c0), .val (.int c1), .val (.int c2), .val (.int c3), .val (.int ((p3 &&& (2147483647 : Int32)) % (5 : Int32))), .unset, .unset, .unset] [(.int c3), (.int (3 : Int32)), (.ref b95), (.ref b95)])) rfl rfl (hb hby at_183)
    rw [own_nc hc3] at W107
    have V107 : Arv Z h107 b95 k95 .char (4 : Int32) [(.int c0), (.int c1), (.int c2), (.int c3)] (.int (0 : Int32)) := Arv.set Ar106 q106 S106 M106 H106 G106 (own_fc hc3) W107 3 rfl (Nat.le_of_ble_eq_true rfl)
    have N107 := Fr.snoc X107 N104 g_b95
    have O107 := O104.wr W107 g_b95
    have hk := Nat.le_trans hk (Nat.le_of_eq W107.size.symm)
    have K107 : Keep h0 h107 [] := K104.wr W107 (Or.inr sz_b95)
    have cn108 := fun (t : State) (kt : Steps p.tables e below (T107.setTop (mkF m 187 #[.val (.int p1), .val (.int p2), .val (.int p3), .val (.int c0), .val (.int c1), .val (.int c2), .val (.int c3), .val (.int ((p3 &&& (2147483647 : Int32)) % (5 : Int32))), .val (.ref b95), .unset, .unset] [(.int c0)])) t) => cn105 t (by
      refine st107 _ ?_
      show Steps p.tables e below (T107.setTop (mkF m 184 #[.val (.int p1), .val (.int p2), .val (.int p3), .val (.int c0), .val (.int c1), .val (.int c2), .val (.int c3), .val (.int ((p3 &&& (2147483647 : Int32)) % (5 : Int32))), .unset, .unset, .unset] [(.ref b95)])) _
      refine XS.astore X107.here hx rfl (hb hby at_184) rfl rfl (l' := #[.val (.int p1), .val (.int p2), .val (.int p3), .val (.int c0), .val (.int c1), .val (.int c2), .val (.int c3), .val (.int ((p3 &&& (2147483647 : Int32)) % (5 : Int32))), .val (.ref b95), .unset, .unset]) rfl ?_
      show Steps p.tables e below (T107.setTop (mkF m 186 #[.val (.int p1), .val (.int p2), .val (.int p3), .val (.int c0), .val (.int c1), .val (.int c2), .val (.int c3), .val (.int ((p3 &&& (2147483647 : Int32)) % (5 : Int32))), .val (.ref b95), .unset, .unset] [])) _
      refine XS.iloadN X107.here hx rfl (hb hby at_186) rfl ?_
      show Steps p.tables e below (T107.setTop (mkF m 187 #[.val (.int p1), .val (.int p2), .val (.int p3), .val (.int c0), .val (.int c1), .val (.int c2), .val (.int c3), .val (.int ((p3 &&& (2147483647 : Int32)) % (5 : Int32))), .val (.ref b95), .unset, .unset] [(.int c0)])) _
      exact kt)
    obtain ⟨_, _, ⟨T109, L109, k109, n109⟩, -, X109, ⟨Lc109, hQ109, l109, y109, z109⟩, st109⟩ := Jvm.LawKit.callS X107 hx (y := (⟨"com/example/idlsmith/idlsmith/javasource/ClassFileModifiedUtf8PinLaw", "bytesOf", "(C)I"⟩ : MethodName)) hown (mvT hZ (hw _ (List.mem_of_getElem? (i := 3) rfl))) (mvT hZ (hw _ (List.mem_of_getElem? (i := 4) rfl))) (mvT hZ (hw _ (List.mem_of_getElem? (i := 5) rfl))) (mvT hZ (hw _ (List.mem_of_getElem? (i := 6) rfl))) (by decide) (backOf (W := 0) (rm1 l Z a0 hw [] c0 h107 n0 O107) hZ (hw _ (List.mem_of_getElem? (i := 6) rfl)) (hw _ (List.mem_of_getElem? (i := 5) rfl)) (by decide) (by decide)) (g := (mkF m 187 #[.val (.int p1), .val (.int p2), .val (.int p3), .val (.int c0), .val (.int c1), .val (.int c2), .val (.int c3), .val (.int ((p3 &&& (2147483647 : Int32)) % (5 : Int32))), .val (.ref b95), .unset, .unset] [(.int c0)])) rfl (by rw [hml]; rfl) (argsL := [(.int c0)]) (rest := []) (lenOf pd_16 rfl) rfl (by show 2 * 0 + _ ≤ _; exact Nat.le_of_eq rfl) (hb hby at_187) (fun _ _ => ⟨rfl, e107, (by decide : 1 + 0 ≤ _), (by decide : 4 + 0 ≤ _)⟩)
    dsimp only [Pt.U, Pt.locs, Pt.cells, Pt.slots] at X109 l109 y109 z109 st109 hQ109
    subst l109 y109 z109
    obtain ⟨rfl, Nq109, eh109⟩ := hQ109
    have N109 := Fr.app N107 Nq109
    have cn110 := fun (t : State) (kt : Steps p.tables e below (T109.setTop (mkF m 192 #[.val (.int p1), .val (.int p2), .val (.int p3), .val (.int c0), .val (.int c1), .val (.int c2), .val (.int c3), .val (.int ((p3 &&& (2147483647 : Int32)) % (5 : Int32))), .val (.ref b95), .unset, .unset] [(.int c1), (.int (own_bo c0))])) t) => cn108 t (by
      refine st109 _ ?_
      show Steps p.tables e below (T109.setTop (mkF m 190 #[.val (.int p1), .val (.int p2), .val (.int p3), .val (.int c0), .val (.int c1), .val (.int c2), .val (.int c3), .val (.int ((p3 &&& (2147483647 : Int32)) % (5 : Int32))), .val (.ref b95), .unset, .unset] [(.int (own_bo c0))])) _
      refine XS.iload X109.here hx rfl (hb hby at_190) rfl ?_
      show Steps p.tables e below (T109.setTop (mkF m 192 #[.val (.int p1), .val (.int p2), .val (.int p3), .val (.int c0), .val (.int c1), .val (.int c2), .val (.int c3), .val (.int ((p3 &&& (2147483647 : Int32)) % (5 : Int32))), .val (.ref b95), .unset, .unset] [(.int c1), (.int (own_bo c0))])) _
      exact kt)
    obtain ⟨_, _, ⟨T111, L111, k111, n111⟩, -, X111, ⟨Lc111, hQ111, l111, y111, z111⟩, st111⟩ := Jvm.LawKit.callS X109 hx (y := (⟨"com/example/idlsmith/idlsmith/javasource/ClassFileModifiedUtf8PinLaw", "bytesOf", "(C)I"⟩ : MethodName)) hown (mvT hZ (hw _ (List.mem_of_getElem? (i := 3) rfl))) (mvT hZ (hw _ (List.mem_of_getElem? (i := 4) rfl))) (mvT hZ (hw _ (List.mem_of_getElem? (i := 5) rfl))) (mvT hZ (hw _ (List.mem_of_getElem? (i := 6) rfl))) (by decide) (backOf (W := 1) (rm1 l Z a0 hw [] c1 h107 n0 O107) hZ (hw _ (List.mem_of_getElem? (i := 6) rfl)) (hw _ (List.mem_of_getElem? (i := 5) rfl)) (by decide) (by decide)) (g := (mkF m 192 #[.val (.int p1), .val (.int p2), .val (.int p3), .val (.int c0), .val (.int c1), .val (.int c2), .val (.int c3), .val (.int ((p3 &&& (2147483647 : Int32)) % (5 : Int32))), .val (.ref b95), .unset, .unset] [(.int c1), (.int (own_bo c0))])) rfl (by rw [hml]; rfl) (argsL := [(.int c1)]) (rest := [(.int (own_bo c0))]) (lenOf pd_16 rfl) rfl (by show 2 * 0 + _ ≤ _; exact Nat.le_of_eq rfl) (hb hby at_192) (fun _ _ => ⟨rfl, eh109, (by decide : 1 + 0 ≤ _), (by decide : 4 + 0 ≤ _)⟩)
    dsimp only [Pt.U, Pt.locs, Pt.cells, Pt.slots] at X111 l111 y111 z111 st111 hQ111
    subst l111 y111 z111
    obtain ⟨rfl, Nq111, eh111⟩ := hQ111
    have N111 := Fr.app N109 Nq111
    have cn112 := fun (t : State) (kt : Steps p.tables e below (T111.setTop (mkF m 198 #[.val (.int p1), .val (.int p2), .val (.int p3), .val (.int c0), .val (.int c1), .val (.int c2), .val (.int c3), .val (.int ((p3 &&& (2147483647 : Int32)) % (5 : Int32))), .val (.ref b95), .unset, .unset] [(.int c2), (.int ((own_bo c0) + (own_bo c1)))])) t) => cn110 t (by
      refine st111 _ ?_
      show Steps p.tables e below (T111.setTop (mkF m 195 #[.val (.int p1), .val (.int p2), .val (.int p3), .val (.int c0), .val (.int c1), .val (.int c2), .val (.int c3), .val (.int ((p3 &&& (2147483647 : Int32)) % (5 : Int32))), .val (.ref b95), .unset, .unset] [(.int (own_bo c1)), (.int (own_bo c0))])) _
      refine XS.iadd X111.here hx rfl (hb hby at_195) rfl ?_
      show Steps p.tables e below (T111.setTop (mkF m 196 #[.val (.int p1), .val (.int p2), .val (.int p3), .val (.int c0), .val (.int c1), .val (.int c2), .val (.int c3), .val (.int ((p3 &&& (2147483647 : Int32)) % (5 : Int32))), .val (.ref b95), .unset, .unset] [(.int ((own_bo c0) + (own_bo c1)))])) _
      refine XS.iload X111.here hx rfl (hb hby at_196) rfl ?_
      show Steps p.tables e below (T111.setTop (mkF m 198 #[.val (.int p1), .val (.int p2), .val (.int p3), .val (.int c0), .val (.int c1), .val (.int c2), .val (.int c3), .val (.int ((p3 &&& (2147483647 : Int32)) % (5 : Int32))), .val (.ref b95), .unset, .unset] [(.int c2), (.int ((own_bo c0) + (own_bo c1)))])) _
      exact kt)
    obtain ⟨_, _, ⟨T113, L113, k113, n113⟩, -, X113, ⟨Lc113, hQ113, l113, y113, z113⟩, st113⟩ := Jvm.LawKit.callS X111 hx (y := (⟨"com/example/idlsmith/idlsmith/javasource/ClassFileModifiedUtf8PinLaw", "bytesOf", "(C)I"⟩ : MethodName)) hown (mvT hZ (hw _ (List.mem_of_getElem? (i := 3) rfl))) (mvT hZ (hw _ (List.mem_of_getElem? (i := 4) rfl))) (mvT hZ (hw _ (List.mem_of_getElem? (i := 5) rfl))) (mvT hZ (hw _ (List.mem_of_getElem? (i := 6) rfl))) (by decide) (backOf (W := 1) (rm1 l Z a0 hw [] c2 h107 n0 O107) hZ (hw _ (List.mem_of_getElem? (i := 6) rfl)) (hw _ (List.mem_of_getElem? (i := 5) rfl)) (by decide) (by decide)) (g := (mkF m 198 #[.val (.int p1), .val (.int p2), .val (.int p3), .val (.int c0), .val (.int c1), .val (.int c2), .val (.int c3), .val (.int ((p3 &&& (2147483647 : Int32)) % (5 : Int32))), .val (.ref b95), .unset, .unset] [(.int c2), (.int ((own_bo c0) + (own_bo c1)))])) rfl (by rw [hml]; rfl) (argsL := [(.int c2)]) (rest := [(.int ((own_bo c0) + (own_bo c1)))]) (lenOf pd_16 rfl) rfl (by show 2 * 0 + _ ≤ _; exact Nat.le_of_eq rfl) (hb hby at_198) (fun _ _ => ⟨rfl, eh111, (by decide : 1 + 0 ≤ _), (by decide : 4 + 0 ≤ _)⟩)
    dsimp only [Pt.U, Pt.locs, Pt.cells, Pt.slots] at X113 l113 y113 z113 st113 hQ113
    subst l113 y113 z113
    obtain ⟨rfl, Nq113, eh113⟩ := hQ113
    have N113 := Fr.app N111 Nq113
    have cn114 := fun (t : State) (kt : Steps p.tables e below (T113.setTop (mkF m 204 #[.val (.int p1), .val (.int p2), .val (.int p3), .val (.int c0), .val (.int c1), .val (.int c2), .val (.int c3), .val (.int ((p3 &&& (2147483647 : Int32)) % (5 : Int32))), .val (.ref b95), .unset, .unset] [(.int c3), (.int (((own_bo c0) + (own_bo c1)) + (own_bo c2)))])) t) => cn112 t (by
      refine st113 _ ?_
      show Steps p.tables e below (T113.setTop (mkF m 201 #[.val (.int p1), .val (.int p2), .val (.int p3), .val (.int c0), .val (.int c1), .val (.int c2), .val (.int c3), .val (.int ((p3 &&& (2147483647 : Int32)) % (5 : Int32))), .val (.ref b95), .unset, .unset] [(.int (own_bo c2)), (.int ((own_bo c0) + (own_bo c1)))])) _
      refine XS.iadd X113.here hx rfl (hb hby at_201) rfl ?_
      show Steps p.tables e below (T113.setTop (mkF m 202 #[.val (.int p1), .val (.int p2), .val (.int p3), .val (.int c0), .val (.int c1), .val (.int c2), .val (.int c3), .val (.int ((p3 &&& (2147483647 : Int32)) % (5 : Int32))), .val (.ref b95), .unset, .unset] [(.int (((own_bo c0) + (own_bo c1)) + (own_bo c2)))])) _
      refine XS.iload X113.here hx rfl (hb hby at_202) rfl ?_
      show Steps p.tables e below (T113.setTop (mkF m 204 #[.val (.int p1), .val (.int p2), .val (.int p3), .val (.int c0), .val (.int c1), .val (.int c2), .val (.int c3), .val (.int ((p3 &&& (2147483647 : Int32)) % (5 : Int32))), .val (.ref b95), .unset, .unset] [(.int c3), (.int (((own_bo c0) + (own_bo c1)) + (own_bo c2)))])) _
      exact kt)
    obtain ⟨_, _, ⟨T115, L115, k115, n115⟩, -, X115, ⟨Lc115, hQ115, l115, y115, z115⟩, st115⟩ := Jvm.LawKit.callS X113 hx (y := (⟨"com/example/idlsmith/idlsmith/javasource/ClassFileModifiedUtf8PinLaw", "bytesOf", "(C)I"⟩ : MethodName)) hown (mvT hZ (hw _ (List.mem_of_getElem? (i := 3) rfl))) (mvT hZ (hw _ (List.mem_of_getElem? (i := 4) rfl))) (mvT hZ (hw _ (List.mem_of_getElem? (i := 5) rfl))) (mvT hZ (hw _ (List.mem_of_getElem? (i := 6) rfl))) (by decide) (backOf (W := 1) (rm1 l Z a0 hw [] c3 h107 n0 O107) hZ (hw _ (List.mem_of_getElem? (i := 6) rfl)) (hw _ (List.mem_of_getElem? (i := 5) rfl)) (by decide) (by decide)) (g := (mkF m 204 #[.val (.int p1), .val (.int p2), .val (.int p3), .val (.int c0), .val (.int c1), .val (.int c2), .val (.int c3), .val (.int ((p3 &&& (2147483647 : Int32)) % (5 : Int32))), .val (.ref b95), .unset, .unset] [(.int c3), (.int (((own_bo c0) + (own_bo c1)) + (own_bo c2)))])) rfl (by rw [hml]; rfl) (argsL := [(.int c3)]) (rest := [(.int (((own_bo c0) + (own_bo c1)) + (own_bo c2)))]) (lenOf pd_16 rfl) rfl (by show 2 * 0 + _ ≤ _; exact Nat.le_of_eq rfl) (hb hby at_204) (fun _ _ => ⟨rfl, eh113, (by decide : 1 + 0 ≤ _), (by decide : 4 + 0 ≤ _)⟩)
    dsimp only [Pt.U, Pt.locs, Pt.cells, Pt.slots] at X115 l115 y115 z115 st115 hQ115
    subst l115 y115 z115
    obtain ⟨rfl, Nq115, eh115⟩ := hQ115
    have N115 := Fr.app N113 Nq115
    have cn116 := fun (t : State) (kt : Steps p.tables e below (T115.setTop (mkF m 210 #[.val (.int p1), .val (.int p2), .val (.int p3), .val (.int c0), .val (.int c1), .val (.int c2), .val (.int c3), .val (.int ((p3 &&& (2147483647 : Int32)) % (5 : Int32))), .val (.ref b95), .val (.int ((((own_bo c0) + (own_bo c1)) + (own_bo c2)) + (own_bo c3))), .unset] [])) t) => cn114 t (by
      refine st115 _ ?_
      show Steps p.tables e below (T115.setTop (mkF m 207 #[.val (.int p1), .val (.int p2), .val (.int p3), .val (.int c0), .val (.int c1), .val (.int c2), .val (.int c3), .val (.int ((p3 &&& (2147483647 : Int32)) % (5 : Int32))), .val (.ref b95), .unset, .unset] [(.int (own_bo c3)), (.int (((own_bo c0) + (own_bo c1)) + (own_bo c2)))])) _
      refine XS.iadd X115.here hx rfl (hb hby at_207) rfl ?_
      show Steps p.tables e below (T115.setTop (mkF m 208 #[.val (.int p1), .val (.int p2), .val (.int p3), .val (.int c0), .val (.int c1), .val (.int c2), .val (.int c3), .val (.int ((p3 &&& (2147483647 : Int32)) % (5 : Int32))), .val (.ref b95), .unset, .unset] [(.int ((((own_bo c0) + (own_bo c1)) + (own_bo c2)) + (own_bo c3)))])) _
      refine XS.istore X115.here hx rfl (hb hby at_208) rfl (l' := #[.val (.int p1), .val (.int p2), .val (.int p3), .val (.int c0), .val (.int c1), .val (.int c2), .val (.int c3), .val (.int ((p3 &&& (2147483647 : Int32)) % (5 : Int32))), .val (.ref b95), .val (.int ((((own_bo c0) + (own_bo c1)) + (own_bo c2)) + (own_bo c3))), .unset]) rfl ?_
      show Steps p.tables e below (T115.setTop (mkF m 210 #[.val (.int p1), .val (.int p2), .val (.int p3), .val (.int c0), .val (.int c1), .val (.int c2), .val (.int c3), .val (.int ((p3 &&& (2147483647 : Int32)) % (5 : Int32))), .val (.ref b95), .val (.int ((((own_bo c0) + (own_bo c1)) + (own_bo c2)) + (own_bo c3))), .unset] [])) _
      exact kt)
    obtain ⟨T117, h117, X117, e117, E117, A117, D117, U117, st117⟩ := newO X115 hx hZ hown (hw _ (List.mem_of_getElem? (i := 7) rfl)) (hw _ (List.mem_of_getElem? (i := 8) rfl)) (hw _ (List.mem_of_getElem? (i := 9) rfl)) eh115 (g := (mkF m 210 #[.val (.int p1), .val (.int p2), .val (.int p3), .val (.int c0), .val (.int c1), .val (.int c2), .val (.int c3), .val (.int ((p3 &&& (2147483647 : Int32)) % (5 : Int32))), .val (.ref b95), .val (.int ((((own_bo c0) + (own_bo c1)) + (own_bo c2)) + (own_bo c3))), .unset] [])) rfl (hb hby at_210) (by decide) (by decide)
    obtain ⟨b117, g117⟩ : ∃ z, z = h107.size := ⟨_, rfl⟩
    rw [← g117] at A117 D117 U117 st117
    have ne_b95_b117 : b95 ≠ b117 := Nat.ne_of_lt (Nat.lt_of_lt_of_le V107.lt (Nat.le_of_eq g117.symm))
    have sz_b117 : h0.size ≤ b117 := Nat.le_trans K107.1 (Nat.le_of_eq g117.symm)
    have g_b117 : n0 ≤ b117 := Nat.le_trans (O0.1 ▸ O0.2.1) sz_b117
    have V107_e117 := V107.ext E117
    have O117 := O107.ext E117
    have K117 : Keep h0 h117 [] := K107.ext E117
    have hk := Nat.le_trans hk E117.1
    have Fcoder_117 : Fld Z h117 b117 "java/lang/String" "coder" "B" (.int (0 : Int32)) := D117 (Or.inr (hw _ (List.mem_of_getElem? (i := 33) rfl))) (ty := .byte) (by decide)
    have Fvalue_117 : Fld Z h117 b117 "java/lang/String" "value" "[B" .null := D117 (Or.inr (hw _ (List.mem_of_getElem? (i := 35) rfl))) (ty := (.array .byte)) (by decide)
    have cn118 := fun (t : State) (kt : Steps p.tables e below (T117.setTop (mkF m 216 #[.val (.int p1), .val (.int p2), .val (.int p3), .val (.int c0), .val (.int c1), .val (.int c2), .val (.int c3), .val (.int ((p3 &&& (2147483647 : Int32)) % (5 : Int32))), .val (.ref b95), .val (.int ((((own_bo c0) + (own_bo c1)) + (own_bo c2)) + (own_bo c3))), .unset] [(.ref b95), (.ref b117), (.ref b117)])) t) => cn116 t (by
      refine st117 _ ?_
      show Steps p.tables e below (T117.setTop (mkF m 213 #[.val (.int p1), .val (.int p2), .val (.int p3), .val (.int c0), .val (.int c1), .val (.int c2), .val (.int c3), .val (.int ((p3 &&& (2147483647 : Int32)) % (5 : Int32))), .val (.ref b95), .val (.int ((((own_bo c0) + (own_bo c1)) + (own_bo c2)) + (own_bo c3))), .unset] [(.ref b117)])) _
      refine XS.dup X117.here hx rfl (hb hby at_213) rfl rfl ?_
      show Steps p.tables e below (T117.setTop (mkF m 214 #[.val (.int p1), .val (.int p2), .val (.int p3), .val (.int c0), .val (.int c1), .val (.int c2), .val (.int c3), .val (.int ((p3 &&& (2147483647 : Int32)) % (5 : Int32))), .val (.ref b95), .val (.int ((((own_bo c0) + (own_bo c1)) + (own_bo c2)) + (own_bo c3))), .unset] [(.ref b117), (.ref b117)])) _
      refine XS.aload X117.here hx rfl (hb hby at_214) rfl rfl ?_
      show Steps p.tables e below (T117.setTop (mkF m 216 #[.val (.int p1), .val (.int p2), .val (.int p3), .val (.int c0), .val (.int c1), .val (.int c2), .val (.int c3), .val (.int ((p3 &&& (2147483647 : Int32)) % (5 : Int32))), .val (.ref b95), .val (.int ((((own_bo c0) + (own_bo c1)) + (own_bo c2)) + (own_bo c3))), .unset] [(.ref b95), (.ref b117), (.ref b117)])) _
      exact kt)
    have AFc := (AF.of_arv (n := 4) V107_e117 rfl).congr (fun j _ => own_getD [c0, c1, c2, c3] j)
    obtain ⟨_, _, ⟨T119, L119, k119, n119⟩, -, X119, ⟨Lc119, hQ119, l119, y119, z119⟩, st119⟩ := X117.specialBack hx (y := (⟨"java/lang/String", "<init>", "([C)V"⟩ : MethodName)) rfl hown (mvT hZ (hw _ (List.mem_of_getElem? (i := 10) rfl))) (mvT hZ (hw _ (List.mem_of_getElem? (i := 11) rfl))) (mvT hZ (hw _ (List.mem_of_getElem? (i := 12) rfl))) (by decide) (backOf (W := 1) (rm3s l Z a0 hw [] b117 b95 k95 [c0, c1, c2, c3] co vf h117 n0 O117 g_b117 A117 Fvalue_117 Fcoder_117 (Ne.symm ne_b95_b117) (by simp) (by simp) (own_u1 hc0 (own_u1 hc1 (own_u1 hc2 (own_u1 hc3 own_u0)))) AFc SWh) hZ (hw _ (List.mem_of_getElem? (i := 12) rfl)) (hw _ (List.mem_of_getElem? (i := 9) rfl)) (by decide) (by decide)) (g := (mkF m 216 #[.val (.int p1), .val (.int p2), .val (.int p3), .val (.int c0), .val (.int c1), .val (.int c2), .val (.int c3), .val (.int ((p3 &&& (2147483647 : Int32)) % (5 : Int32))), .val (.ref b95), .val (.int ((((own_bo c0) + (own_bo c1)) + (own_bo c2)) + (own_bo c3))), .unset] [(.ref b95), (.ref b117), (.ref b117)])) rfl (by rw [hml]; rfl) (Steps.refl _) (a := b117) (argsL := [(.ref b95)]) (rest := [(.ref b117)]) (lenOf pd_17 rfl) rfl (by show 2 * 0 + _ ≤ _; exact Nat.le_of_eq rfl) (hb hby at_216) (fun _ _ => ⟨rfl, e117, (by decide : 2 + 2 ≤ _), (by decide : 8 + 12 ≤ _)⟩)
    dsimp only [Pt.U, Pt.locs, Pt.cells, Pt.slots] at X119 l119 y119 z119 st119 hQ119
    subst l119 y119 z119
    obtain ⟨rfl, Nq119, Kq119, b119x, kb119, fb119, cd119, SS119⟩ := hQ119
    have N119 := Fr.app N115 Nq119
    have K119 := Kq119
    have A117_e119 := A117.keep K119
    have AFc_e119 := AFc.keep K119 (ninS ne_b95_b117 nin0)
    have O119 := O117.keep K119 (allS g_b117 all0)
    have KK119 : Keep h0 T119.heap [] := K117.trans K119 (allS (Or.inr sz_b117) all0)
    have hk := Nat.le_trans hk K119.1
    have cn120 := fun (t : State) (kt : Steps p.tables e below (T119.setTop (mkF m 223 #[.val (.int p1), .val (.int p2), .val (.int p3), .val (.int c0), .val (.int c1), .val (.int c2), .val (.int c3), .val (.int ((p3 &&& (2147483647 : Int32)) % (5 : Int32))), .val (.ref b95), .val (.int ((((own_bo c0) + (own_bo c1)) + (own_bo c2)) + (own_bo c3))), .val (.ref b117)] [(.ref b117)])) t) => cn118 t (by
      refine st119.trans ?_
      show Steps p.tables e below (T119.setTop (mkF m 219 #[.val (.int p1), .val (.int p2), .val (.int p3), .val (.int c0), .val (.int c1), .val (.int c2), .val (.int c3), .val (.int ((p3 &&& (2147483647 : Int32)) % (5 : Int32))), .val (.ref b95), .val (.int ((((own_bo c0) + (own_bo c1)) + (own_bo c2)) + (own_bo c3))), .unset] [(.ref b117)])) _
      refine XS.astore X119.here hx rfl (hb hby at_219) rfl rfl (l' := #[.val (.int p1), .val (.int p2), .val (.int p3), .val (.int c0), .val (.int c1), .val (.int c2), .val (.int c3), .val (.int ((p3 &&& (2147483647 : Int32)) % (5 : Int32))), .val (.ref b95), .val (.int ((((own_bo c0) + (own_bo c1)) + (own_bo c2)) + (own_bo c3))), .val (.ref b117)]) rfl ?_
      show Steps p.tables e below (T119.setTop (mkF m 221 #[.val (.int p1), .val (.int p2), .val (.int p3), .val (.int c0), .val (.int c1), .val (.int c2), .val (.int c3), .val (.int ((p3 &&& (2147483647 : Int32)) % (5 : Int32))), .val (.ref b95), .val (.int ((((own_bo c0) + (own_bo c1)) + (own_bo c2)) + (own_bo c3))), .val (.ref b117)] [])) _
      refine XS.aload X119.here hx rfl (hb hby at_221) rfl rfl ?_
      show Steps p.tables e below (T119.setTop (mkF m 223 #[.val (.int p1), .val (.int p2), .val (.int p3), .val (.int c0), .val (.int c1), .val (.int c2), .val (.int c3), .val (.int ((p3 &&& (2147483647 : Int32)) % (5 : Int32))), .val (.ref b95), .val (.int ((((own_bo c0) + (own_bo c1)) + (own_bo c2)) + (own_bo c3))), .val (.ref b117)] [(.ref b117)])) _
      exact kt)
    obtain ⟨_, _, ⟨T121, L121, k121, n121⟩, -, X121, ⟨Lc121, hQ121, l121, y121, z121⟩, st121⟩ := Jvm.LawKit.callS X119 hx (y := (⟨"com/example/idlsmith/idlsmith/javasource/ClassFile", "modifiedUtf8", "(Ljava/lang/String;)I"⟩ : MethodName)) hown (mvT hZ (hw _ (List.mem_of_getElem? (i := 36) rfl))) (mvT hZ (hw _ (List.mem_of_getElem? (i := 37) rfl))) (mvT hZ (hw _ (List.mem_of_getElem? (i := 38) rfl))) (mvT hZ (hw _ (List.mem_of_getElem? (i := 39) rfl))) (by decide) (backOf (W := 0) (rm8 l Z a0 hw [] b117 b119x [c0, c1, c2, c3] kb119 fb119 cd119 co vf T119.heap n0 O119 (by simp) (own_u1 hc0 (own_u1 hc1 (own_u1 hc2 (own_u1 hc3 own_u0)))) SS119 SWh) hZ (hw _ (List.mem_of_getElem? (i := 39) rfl)) (hw _ (List.mem_of_getElem? (i := 38) rfl)) (by decide) (by decide)) (g := (mkF m 223 #[.val (.int p1), .val (.int p2), .val (.int p3), .val (.int c0), .val (.int c1), .val (.int c2), .val (.int c3), .val (.int ((p3 &&& (2147483647 : Int32)) % (5 : Int32))), .val (.ref b95), .val (.int ((((own_bo c0) + (own_bo c1)) + (own_bo c2)) + (own_bo c3))), .val (.ref b117)] [(.ref b117)])) rfl (by rw [hml]; rfl) (argsL := [(.ref b117)]) (rest := []) (lenOf pd_18 rfl) rfl (by show 2 * 0 + _ ≤ _; exact Nat.le_of_eq rfl) (hb hby at_223) (fun _ _ => ⟨rfl, rfl, (by decide : 4 + 0 ≤ _), (by decide : 20 + 0 ≤ _)⟩)
    dsimp only [Pt.U, Pt.locs, Pt.cells, Pt.slots] at X121 l121 y121 z121 st121 hQ121
    subst l121 y121 z121
    obtain ⟨rfl, Nq121, eh121⟩ := hQ121
    have N121 := Fr.app N119 Nq121
    have cn122 := fun (t : State) (kt : Steps p.tables e below (T121.setTop (mkF m 228 #[.val (.int p1), .val (.int p2), .val (.int p3), .val (.int c0), .val (.int c1), .val (.int c2), .val (.int c3), .val (.int ((p3 &&& (2147483647 : Int32)) % (5 : Int32))), .val (.ref b95), .val (.int ((((own_bo c0) + (own_bo c1)) + (own_bo c2)) + (own_bo c3))), .val (.ref b117)] [(.int ((((own_bo c0) + (own_bo c1)) + (own_bo c2)) + (own_bo c3))), (.int (own_sum [c0, c1, c2, c3] [c0, c1, c2, c3].length))])) t) => cn120 t (by
      refine st121 _ ?_
      show Steps p.tables e below (T121.setTop (mkF m 226 #[.val (.int p1), .val (.int p2), .val (.int p3), .val (.int c0), .val (.int c1), .val (.int c2), .val (.int c3), .val (.int ((p3 &&& (2147483647 : Int32)) % (5 : Int32))), .val (.ref b95), .val (.int ((((own_bo c0) + (own_bo c1)) + (own_bo c2)) + (own_bo c3))), .val (.ref b117)] [(.int (own_sum [c0, c1, c2, c3] [c0, c1, c2, c3].length))])) _
      refine XS.iload X121.here hx rfl (hb hby at_226) rfl ?_
      show Steps p.tables e below (T121.setTop (mkF m 228 #[.val (.int p1), .val (.int p2), .val (.int p3), .val (.int c0), .val (.int c1), .val (.int c2), .val (.int c3), .val (.int ((p3 &&& (2147483647 : Int32)) % (5 : Int32))), .val (.ref b95), .val (.int ((((own_bo c0) + (own_bo c1)) + (own_bo c2)) + (own_bo c3))), .val (.ref b117)] [(.int ((((own_bo c0) + (own_bo c1)) + (own_bo c2)) + (own_bo c3))), (.int (own_sum [c0, c1, c2, c3] [c0, c1, c2, c3].length))])) _
      exact kt)
    have cn123 := fun (t : State) (kt : Steps p.tables e below (T121.setTop (mkF m 236 #[.val (.int p1), .val (.int p2), .val (.int p3), .val (.int c0), .val (.int c1), .val (.int c2), .val (.int c3), .val (.int ((p3 &&& (2147483647 : Int32)) % (5 : Int32))), .val (.ref b95), .val (.int ((((own_bo c0) + (own_bo c1)) + (own_bo c2)) + (own_bo c3))), .val (.ref b117)] [(.int (1 : Int32))])) t) => cn122 t (by
      refine XS.icmpNo X121.here hx rfl (hb hby at_228) rfl (teq own_fin4).2 ?_
      show Steps p.tables e below (T121.setTop (mkF m 231 #[.val (.int p1), .val (.int p2), .val (.int p3), .val (.int c0), .val (.int c1), .val (.int c2), .val (.int c3), .val (.int ((p3 &&& (2147483647 : Int32)) % (5 : Int32))), .val (.ref b95), .val (.int ((((own_bo c0) + (own_bo c1)) + (own_bo c2)) + (own_bo c3))), .val (.ref b117)] [])) _
      refine XS.iconst X121.here hx rfl (hb hby at_231) ?_
      show Steps p.tables e below (T121.setTop (mkF m 232 #[.val (.int p1), .val (.int p2), .val (.int p3), .val (.int c0), .val (.int c1), .val (.int c2), .val (.int c3), .val (.int ((p3 &&& (2147483647 : Int32)) % (5 : Int32))), .val (.ref b95), .val (.int ((((own_bo c0) + (own_bo c1)) + (own_bo c2)) + (own_bo c3))), .val (.ref b117)] [(.int (1 : Int32))])) _
      refine XS.goto X121.here hx rfl (pc0 := 232) (pc' := 236) rfl (hb hby at_232) (by decide) (by decide) ?_
      show Steps p.tables e below (T121.setTop (mkF m 236 #[.val (.int p1), .val (.int p2), .val (.int p3), .val (.int c0), .val (.int c1), .val (.int c2), .val (.int c3), .val (.int ((p3 &&& (2147483647 : Int32)) % (5 : Int32))), .val (.ref b95), .val (.int ((((own_bo c0) + (own_bo c1)) + (own_bo c2)) + (own_bo c3))), .val (.ref b117)] [(.int (1 : Int32))])) _
      exact kt)
    obtain ⟨frs, hr, hrun, hended, hRW⟩ := X121.leaveW hS (by rw [eh121]; exact hk) (v := some (.int (1 : Int32))) (fun h => by rw [Bd.returns] at h; cases h)
    refine ⟨_, _, cn123 _ ?_, hrun, hended, _, _, rfl, ?_, hRW.1, hRW.2.1, hRW.2.2.1, hRW.2.2.2.mono (by decide) (by decide)⟩
    · exact retN X121 hx (t := .boolean) Bd.returns (by simp) (hb hby at_236) hr
    · show Q0 n0 _ T121.heap _
      rw [eh121]
      exact ⟨rfl, N121⟩

set_option maxRecDepth 65536 in
set_option maxHeartbeats 40000000 in
theorem comes_1 {Post : Tables → Env → Array Value → State → Outcome → State → Prop} (hpost : ∀ tb e args s v u, (limb_1_1.after args s (.returned v) u = true ∧ limb_1_2.after args s (.returned v) u = true ∧ True) → ReturnedEndW s (.returned v) u (Jvm.fieldLocs frame_1_writes args s ++ Jvm.arrayLocs frame_1_arrays args s ++ Jvm.staticLocs frame_1_statics s) 24 1152 → Post tb e args s (.returned v) u) :
    ArmFor flags0 classFile x code maxLocals ret World_1 tables_1 room_1 Calls_1 rest_1 Pre_1 Post := by
  intro l hfl _ _ p e ha hc hk s m args below hf hA hF happ hP
  obtain ⟨hcalls, hrest, hpre⟩ := hP
  obtain ⟨-, -, -, hnamed, -, -, -, hat⟩ := (Spec.applies_iff hf).mp happ
  obtain ⟨hg, hn⟩ := and_e (Cond.before_iff.mp (show (Jvm.Cond.and given_1 narrow_1).before args s = true from hpre))
  obtain ⟨q1, q2⟩ := and_e hg
  obtain ⟨q3, q4⟩ := and_e q2
  obtain ⟨q5, q6⟩ := and_e q4
  obtain ⟨w0, w1, w2, rfl⟩ : ∃ w0 w1 w2 : Value, args = #[w0, w1, w2] := by
    have hs : args.size = 3 := by simpa [Cond.value, given_1] using q1
    obtain ⟨L⟩ := args
    match L, hs with
    | [w0, w1, w2], _ => exact ⟨w0, w1, w2, rfl⟩
  have hw := fun d (hd : d ∈ tables_1) => atoms_spec (ws := Jvm.Cond.code x code maxLocals ret :: tables_1) hat d (List.mem_cons_of_mem _ hd)
  have hfit : Fit s := fun {y c} hc i hi => by
    obtain ⟨ha, rfl⟩ := Array.getElem?_eq_some_iff.mp hc
    have q := List.all_eq_true.mp ((Array.all_eq_true_iff_forall_mem.mp hF) _ (Array.getElem_mem ha)) i (List.mem_range.mpr hi)
    simpa [Array.getElem?_eq_getElem hi] using q
  obtain ⟨hsets, hown0⟩ := atoms_of _ (rest_1_c_eq ▸ (show rest_1_c.before _ s = true from hrest))
  have hr0 := Cond.before_iff.mp hown0
  obtain ⟨i0, ei0⟩ := is_v q3
  obtain rfl : w0 = (.int i0) := Option.some.inj ei0
  obtain ⟨i1, ei1⟩ := is_v q5
  obtain rfl : w1 = (.int i1) := Option.some.inj ei1
  obtain ⟨i2, ei2⟩ := is_v q6
  obtain rfl : w2 = (.int i2) := Option.some.inj ei2
  obtain ⟨co, evc⟩ := is_v (Cond.before_iff.mp (hsets _ (List.mem_of_getElem? (i := 1) rfl)))
  have S_CS := Sta.start evc (Or.inl (hsets _ (List.mem_of_getElem? (i := 0) rfl)))
  have hcs : ¬ co = (0 : Int32) := gotF (Cond.eq_ints evc (Term.int_eval 0)) (not_v (Cond.before_iff.mp (hsets _ (List.mem_of_getElem? (i := 2) rfl))))
  obtain ⟨vf, evf, hvf⟩ := isR_v (Cond.before_iff.mp (hsets _ (List.mem_of_getElem? (i := 8) rfl)))
  have S_SI := Sta.start evf (Or.inl (hsets _ (List.mem_of_getElem? (i := 7) rfl)))
  have hcat_vf : vf.category = 1 := by rcases ref_cases hvf with rfl | ⟨r, rfl⟩ <;> rfl
  have S_AD := Sta.start (eqv_i (Term.int_eval 1) (Cond.before_iff.mp (hsets _ (List.mem_of_getElem? (i := 12) rfl)))) (Or.inl (hsets _ (List.mem_of_getElem? (i := 11) rfl)))
  have S_HI := Sta.start (eqv_i (Term.int_eval 0) (Cond.before_iff.mp (hsets _ (List.mem_of_getElem? (i := 15) rfl)))) (Or.inl (hsets _ (List.mem_of_getElem? (i := 14) rfl)))
  have S_LO := Sta.start (eqv_i (Term.int_eval 8) (Cond.before_iff.mp (hsets _ (List.mem_of_getElem? (i := 18) rfl)))) (Or.inl (hsets _ (List.mem_of_getElem? (i := 17) rfl)))
  have SWh : SW s co vf := ⟨S_CS, hcs, S_AD, S_HI, S_LO, S_SI, hcat_vf⟩
  have CH : CHv s consts_1 s.vm s.heap := CHv.start (own_EW hw) (fun p hp => hcalls.1 p hp) (hsets _ (List.mem_of_getElem? (i := 2) rfl)) (hw _ (List.mem_of_getElem? (i := 25) rfl)) (hw _ (List.mem_of_getElem? (i := 8) rfl))
  obtain ⟨n, o, h1, h2, h3, _, L, rfl, ⟨rfl, N⟩, hq⟩ := rm0 l s _ hw tables_1 i0 i1 i2  co vf s.heap s.heap.size (Old.start s)  SWh p e ha hc hk s m _ below hf ((Spec.applies_iff_loose hf).mp happ).1 ⟨rfl, State.Warmed39.refl s, rfl, CH⟩ trivial
  refine ⟨n, _, h1, h2, h3, hpost _ _ _ _ _ _ ⟨Cond.after_iff.mpr rfl, Cond.after_iff.mpr (eq_i res_at (Term.int_eval (1)) rfl), trivial⟩ ⟨hq.1, hq.2.1, hq.2.2.1, (hq.2.2.2.sift fun y hy => Or.inr (N y hy)).mono (by decide) (by decide)⟩⟩
theorem main_1_1 : Claimed_1_1 := comes_1 fun _ _ _ _ _ _ h hF => ⟨h.1, hF⟩
theorem main_1_2 : Claimed_1_2 := comes_1 fun _ _ _ _ _ _ h hF => ⟨h.2.1, hF⟩

end Jvm.Pilot.@@N@@
namespace Jvm.Pilot.@@N@@
open Jvm Jvm.ClassFile Sem Op Lib Jvm.Free Jvm.Stand Jvm.Pilot.@@N@@.Jvm.D
/-! MADE BY PROGRAM (witnessworld.py) out of the Statement's table words and the real class files: 20 classes; the members and pool entries that the words name. The judged class is class 1, her method 2. -/
namespace start1
open Jvm.ClassFile
def u (s : String) : CpInfo := .utf8 (stringToUtf16 s)
/-- a pool by its gaps: so many unusable entries, then the entry; so many at the end -/
def gap : Nat → List CpInfo → List CpInfo
  | 0, r => r
  | n + 1, r => .unusable :: gap n r
def poolList (es : List (Nat × CpInfo)) (last : Nat) : List CpInfo := es.foldr (fun e r => gap e.1 (e.2 :: r)) (gap last [])
def pool (es : List (Nat × CpInfo)) (last : Nat) : Array CpInfo := ⟨poolList es last⟩
def fileOf (pool : Array CpInfo) (this : Nat) (attrs : Array Attribute := #[]) (ms : Array MethodInfo := #[]) (fl : Nat := 33) (sup : Nat := 0) (ifs : Array Nat := #[]) (fds : Array FieldInfo := #[]) : ClassFile where
  minorVersion := 0
  majorVersion := 65
  constantPool := pool
  accessFlags := fl
  thisClass := this
  superClass := sup
  interfaces := ifs
  fields := fds
  methods := ms
  attributes := attrs
def plain (name : String) (sup : Option ClassId) : Class where
  name := name
  kind := .ordinary
  loader := none
  accessFlags := 33
  super := sup
  interfaces := #[]
  cf := none
  fields := #[]
  methods := #[]
  instanceTypes := #[]
  staticTypes := #[]
  resolved := #[]
  callSites := []
  init := .initialized
  statics := none
  mirror := none

def pool0 : Array CpInfo := pool [(5, u "<init>"), (0, u "()V"), (1, .class_ 10), (1, u "java/lang/Object")] 113

def k0c0 : Code := { maxStack := 0, maxLocals := 1, code := object_method_1_code, exceptionTable := #[], attributes := #[] }
def k0m0 : Method := { name := "<init>", desc := "()V", sig := { parameters := [], returnType := none }, accessFlags := 1, code := some k0c0 }
/-- java/lang/Object -/
def k0 : Class := { plain "java/lang/Object" none with
  accessFlags := 33
  interfaces := #[]
  cf := some (fileOf pool0 8 #[] #[{ accessFlags := 1, nameIndex := 5, descriptorIndex := 6, attributes := #[] }] 33 0 #[] #[])
  fields := #[]
  methods := #[k0m0]
  instanceTypes := #[]
  staticTypes := #[]
  resolved := Array.replicate 124 none
  statics := none }

def pool1 : Array CpInfo := pool [(2, .class_ 4), (1, u "java/lang/Object"), (0, u "<init>"), (0, u "()V"), (0, .integer 65535), (0, .integer 2147483647), (0, .methodref 10 11), (0, .class_ 12), (0, .nameAndType 13 14), (0, u "com/example/idlsmith/idlsmith/javasource/ClassFileModifiedUtf8PinLaw"), (0, u "bytesOf"), (0, u "(C)I"), (0, .class_ 16), (0, u "java/lang/String"), (0, .methodref 15 18), (0, .nameAndType 5 19), (0, u "([C)V"), (0, .methodref 21 22), (0, .class_ 23), (0, .nameAndType 24 25), (0, u "com/example/idlsmith/idlsmith/javasource/ClassFile"), (0, u "modifiedUtf8"), (0, u "(Ljava/lang/String;)I"), (3, u "law"), (0, u "(III)Z")] 4

def k1m0 : Method := { name := "<init>", desc := "()V", sig := { parameters := [], returnType := none }, accessFlags := 2, code := none }
def k1c1 : Code := { maxStack := 2, maxLocals := 2, code := method_2_code, exceptionTable := #[], attributes := #[] }
def k1m1 : Method := { name := "bytesOf", desc := "(C)I", sig := { parameters := [.char], returnType := some .int }, accessFlags := 10, code := some k1c1 }
def k1c2 : Code := { maxStack := 4, maxLocals := 11, code := code, exceptionTable := #[], attributes := #[] }
def k1m2 : Method := { name := "law", desc := "(III)Z", sig := { parameters := [.int, .int, .int], returnType := some .boolean }, accessFlags := 9, code := some k1c2 }
/-- com/example/idlsmith/idlsmith/javasource/ClassFileModifiedUtf8PinLaw -/
def k1 : Class := { plain "com/example/idlsmith/idlsmith/javasource/ClassFileModifiedUtf8PinLaw" (some 0) with
  accessFlags := 49
  interfaces := #[]
  cf := some (fileOf pool1 10 #[] #[{ accessFlags := 2, nameIndex := 5, descriptorIndex := 6, attributes := #[] }, { accessFlags := 10, nameIndex := 13, descriptorIndex := 14, attributes := #[] }, { accessFlags := 9, nameIndex := 29, descriptorIndex := 30, attributes := #[] }] 49 2 #[] #[])
  fields := #[]
  methods := #[k1m0, k1m1, k1m2]
  instanceTypes := #[]
  staticTypes := #[]
  resolved := Array.replicate 35 none
  statics := none }

def pool2 : Array CpInfo := pool [(1, .class_ 2), (0, u "java/io/Serializable"), (0, .class_ 4), (0, u "java/lang/Object")] 2

/-- java/io/Serializable -/
def k2 : Class := { plain "java/io/Serializable" (some 0) with
  accessFlags := 1537
  interfaces := #[]
  cf := some (fileOf pool2 1 #[] #[] 1537 3 #[] #[])
  fields := #[]
  methods := #[]
  instanceTypes := #[]
  staticTypes := #[]
  resolved := Array.replicate 7 none
  statics := none }

def pool3 : Array CpInfo := pool [(1, .class_ 2), (0, u "java/lang/Comparable"), (0, .class_ 4), (0, u "java/lang/Object")] 7

/-- java/lang/Comparable -/
def k3 : Class := { plain "java/lang/Comparable" (some 0) with
  accessFlags := 1537
  interfaces := #[]
  cf := some (fileOf pool3 1 #[] #[] 1537 3 #[] #[])
  fields := #[]
  methods := #[]
  instanceTypes := #[]
  staticTypes := #[]
  resolved := Array.replicate 12 none
  statics := none }

def pool4 : Array CpInfo := pool [(2, .class_ 4), (1, u "java/lang/CharSequence"), (42, .class_ 48), (0, u "java/lang/CharSequence$1CodePointIterator"), (10, .class_ 60), (0, u "java/lang/CharSequence$1CharIterator"), (5, .class_ 67), (0, u "java/lang/Object")] 63

/-- java/lang/CharSequence -/
def k4 : Class := { plain "java/lang/CharSequence" (some 0) with
  accessFlags := 1537
  interfaces := #[]
  cf := some (fileOf pool4 2 #[.nestMembers #[47, 59]] #[] 1537 66 #[] #[])
  fields := #[]
  methods := #[]
  instanceTypes := #[]
  staticTypes := #[]
  resolved := Array.replicate 131 none
  statics := none }

def pool5 : Array CpInfo := pool [(1, .class_ 2), (0, u "java/lang/constant/Constable"), (0, .class_ 4), (0, u "java/lang/Object")] 6

/-- java/lang/constant/Constable -/
def k5 : Class := { plain "java/lang/constant/Constable" (some 0) with
  accessFlags := 1537
  interfaces := #[]
  cf := some (fileOf pool5 1 #[] #[] 1537 3 #[] #[])
  fields := #[]
  methods := #[]
  instanceTypes := #[]
  staticTypes := #[]
  resolved := Array.replicate 11 none
  statics := none }

def pool6 : Array CpInfo := pool [(1, .class_ 2), (0, u "java/lang/constant/ConstantDesc"), (0, .class_ 4), (0, u "java/lang/Object")] 32

/-- java/lang/constant/ConstantDesc -/
def k6 : Class := { plain "java/lang/constant/ConstantDesc" (some 0) with
  accessFlags := 1537
  interfaces := #[]
  cf := some (fileOf pool6 1 #[] #[] 1537 3 #[] #[])
  fields := #[]
  methods := #[]
  instanceTypes := #[]
  staticTypes := #[]
  resolved := Array.replicate 37 none
  statics := none }

def pool7 : Array CpInfo := pool [(1, .methodref 2 3), (0, .class_ 4), (0, .nameAndType 5 6), (0, u "java/lang/Object"), (0, u "<init>"), (0, u "()V"), (0, .string 8), (0, u ""), (0, .fieldref 10 11), (0, .class_ 12), (0, .nameAndType 13 14), (0, u "java/lang/String"), (0, u "value"), (0, u "[B"), (0, .fieldref 10 16), (0, .nameAndType 17 18), (0, u "coder"), (0, u "B"), (2, u "hash"), (0, u "I"), (2, u "hashIsZero"), (0, u "Z"), (0, .methodref 10 28), (0, .nameAndType 5 29), (0, u "([CIILjava/lang/Void;)V"), (8, .fieldref 10 39), (0, .nameAndType 40 26), (0, u "COMPACT_STRINGS"), (1, .class_ 44), (1, u "java/lang/StringUTF16"), (0, u "compress"), (1, .methodref 42 48), (0, .nameAndType 49 50), (0, u "coderFromArrayLen"), (0, u "([BI)B"), (56, .class_ 109), (1, u "java/lang/StringLatin1"), (32, u "()Z"), (34, .methodref 42 178), (0, .nameAndType 45 179), (0, u "([CII)[B"), (154, u "()I"), (0, .methodref 10 336), (0, .nameAndType 17 337), (0, u "()B"), (25, u "([BI)C"), (27, u "(II)V"), (35, u "(I)C"), (64, .methodref 10 493), (0, .nameAndType 494 142), (0, u "isLatin1"), (0, .methodref 107 496), (0, .nameAndType 497 363), (0, u "charAt"), (0, .methodref 42 496), (2, u "checkIndex"), (5, u "length"), (67, .class_ 576), (0, u "java/lang/CharSequence"), (22, u "CASE_INSENSITIVE_ORDER"), (0, u "Ljava/util/Comparator;"), (409, u "([C)V"), (42, .fieldref 1054 1055), (0, .class_ 1056), (0, .nameAndType 1057 1058), (0, u "jdk/internal/util/Preconditions"), (0, u "SIOOBE_FORMATTER"), (0, u "Ljava/util/function/BiFunction;"), (0, .methodref 1054 1060), (0, .nameAndType 501 1061), (0, u "(IILjava/util/function/BiFunction;)I"), (39, u "serialPersistentFields"), (0, u "[Ljava/io/ObjectStreamField;"), (0, .class_ 1104), (0, u "java/lang/String$CaseInsensitiveComparator"), (1, .class_ 1107), (0, u "java/io/Serializable"), (0, .class_ 1109), (0, u "java/lang/Comparable"), (0, .class_ 1111), (0, u "java/lang/constant/Constable"), (0, .class_ 1113), (0, u "java/lang/constant/ConstantDesc"), (2, u "serialVersionUID"), (0, u "J"), (3, u "REPL"), (0, u "C"), (2, u "LATIN1"), (1, u "UTF16")] 323

def k7m0 : Method := { name := "<init>", desc := "()V", sig := { parameters := [], returnType := none }, accessFlags := 1, code := none }
def k7c1 : Code := { maxStack := 5, maxLocals := 2, code := jdk_42_method_3_code, exceptionTable := #[], attributes := #[] }
def k7m1 : Method := { name := "<init>", desc := "([C)V", sig := { parameters := [(.array .char)], returnType := none }, accessFlags := 1, code := some k7c1 }
def k7c2 : Code := { maxStack := 2, maxLocals := 1, code := jdk_42_method_54_code, exceptionTable := #[], attributes := #[] }
def k7m2 : Method := { name := "length", desc := "()I", sig := { parameters := [], returnType := some .int }, accessFlags := 1, code := some k7c2 }
def k7c3 : Code := { maxStack := 2, maxLocals := 2, code := jdk_42_method_56_code, exceptionTable := #[], attributes := #[] }
def k7m3 : Method := { name := "charAt", desc := "(I)C", sig := { parameters := [.int], returnType := some .char }, accessFlags := 1, code := some k7c3 }
def k7c4 : Code := { maxStack := 4, maxLocals := 6, code := jdk_42_method_149_code, exceptionTable := #[], attributes := #[] }
def k7m4 : Method := { name := "<init>", desc := "([CIILjava/lang/Void;)V", sig := { parameters := [(.array .char), .int, .int, (.object "java/lang/Void")], returnType := none }, accessFlags := 2, code := some k7c4 }
def k7c5 : Code := { maxStack := 1, maxLocals := 1, code := jdk_42_method_152_code, exceptionTable := #[], attributes := #[] }
def k7m5 : Method := { name := "coder", desc := "()B", sig := { parameters := [], returnType := some .byte }, accessFlags := 0, code := some k7c5 }
def k7c6 : Code := { maxStack := 1, maxLocals := 1, code := jdk_42_method_154_code, exceptionTable := #[], attributes := #[] }
def k7m6 : Method := { name := "isLatin1", desc := "()Z", sig := { parameters := [], returnType := some .boolean }, accessFlags := 0, code := some k7c6 }
def k7c7 : Code := { maxStack := 3, maxLocals := 2, code := jdk_42_method_155_code, exceptionTable := #[], attributes := #[] }
def k7m7 : Method := { name := "checkIndex", desc := "(II)V", sig := { parameters := [.int, .int], returnType := none }, accessFlags := 8, code := some k7c7 }
/-- java/lang/String -/
def k7 : Class := { plain "java/lang/String" (some 0) with
  accessFlags := 49
  interfaces := #[2, 3, 4, 5, 6]
  cf := some (fileOf pool7 10 #[.nestMembers #[1103]] #[{ accessFlags := 1, nameIndex := 5, descriptorIndex := 6, attributes := #[] }, { accessFlags := 1, nameIndex := 5, descriptorIndex := 1010, attributes := #[] }, { accessFlags := 1, nameIndex := 507, descriptorIndex := 334, attributes := #[] }, { accessFlags := 1, nameIndex := 497, descriptorIndex := 427, attributes := #[] }, { accessFlags := 2, nameIndex := 5, descriptorIndex := 29, attributes := #[] }, { accessFlags := 0, nameIndex := 17, descriptorIndex := 337, attributes := #[] }, { accessFlags := 0, nameIndex := 494, descriptorIndex := 142, attributes := #[] }, { accessFlags := 8, nameIndex := 501, descriptorIndex := 391, attributes := #[] }] 49 2 #[1106, 1108, 575, 1110, 1112] #[{ accessFlags := 18, nameIndex := 13, descriptorIndex := 14, attributes := #[] }, { accessFlags := 18, nameIndex := 17, descriptorIndex := 18, attributes := #[] }, { accessFlags := 2, nameIndex := 21, descriptorIndex := 22, attributes := #[] }, { accessFlags := 2, nameIndex := 25, descriptorIndex := 26, attributes := #[] }, { accessFlags := 26, nameIndex := 1116, descriptorIndex := 1117, attributes := #[] }, { accessFlags := 24, nameIndex := 40, descriptorIndex := 26, attributes := #[] }, { accessFlags := 26, nameIndex := 1101, descriptorIndex := 1102, attributes := #[] }, { accessFlags := 26, nameIndex := 1121, descriptorIndex := 1122, attributes := #[] }, { accessFlags := 25, nameIndex := 599, descriptorIndex := 600, attributes := #[] }, { accessFlags := 24, nameIndex := 1125, descriptorIndex := 18, attributes := #[] }, { accessFlags := 24, nameIndex := 1127, descriptorIndex := 18, attributes := #[] }])
  fields := #[{ name := "value", type := (.array .byte), accessFlags := 18, slot := 0, constantValue := 0 }, { name := "coder", type := .byte, accessFlags := 18, slot := 1, constantValue := 0 }, { name := "hash", type := .int, accessFlags := 2, slot := 2, constantValue := 0 }, { name := "hashIsZero", type := .boolean, accessFlags := 2, slot := 3, constantValue := 0 }, { name := "serialVersionUID", type := .long, accessFlags := 26, slot := 0, constantValue := 0 }, { name := "COMPACT_STRINGS", type := .boolean, accessFlags := 24, slot := 1, constantValue := 0 }, { name := "serialPersistentFields", type := (.array (.object "java/io/ObjectStreamField")), accessFlags := 26, slot := 2, constantValue := 0 }, { name := "REPL", type := .char, accessFlags := 26, slot := 3, constantValue := 0 }, { name := "CASE_INSENSITIVE_ORDER", type := (.object "java/util/Comparator"), accessFlags := 25, slot := 4, constantValue := 0 }, { name := "LATIN1", type := .byte, accessFlags := 24, slot := 5, constantValue := 0 }, { name := "UTF16", type := .byte, accessFlags := 24, slot := 6, constantValue := 0 }]
  methods := #[k7m0, k7m1, k7m2, k7m3, k7m4, k7m5, k7m6, k7m7]
  instanceTypes := #[(.array .byte), .byte, .int, .boolean]
  staticTypes := #[.long, .boolean, (.array (.object "java/io/ObjectStreamField")), .char, (.object "java/util/Comparator"), .byte, .byte]
  resolved := Array.replicate 1451 none
  statics := some 0 }

def pool8 : Array CpInfo := pool [(3, .class_ 4), (0, u "java/lang/String"), (1, .class_ 8), (1, u "java/lang/Object"), (0, u "<init>"), (0, u "()V"), (0, .methodref 12 13), (0, .class_ 14), (0, .nameAndType 15 16), (0, u "java/lang/StringUTF16"), (0, u "newBytesLength"), (0, u "(I)I"), (3, .integer 1073741823), (23, .fieldref 12 45), (0, .nameAndType 46 47), (0, u "$assertionsDisabled"), (0, u "Z"), (0, .methodref 12 49), (0, .nameAndType 50 51), (0, u "length"), (0, u "([B)I"), (7, .fieldref 12 60), (0, .nameAndType 61 62), (0, u "HI_BYTE_SHIFT"), (0, u "I"), (0, .fieldref 12 64), (0, .nameAndType 65 62), (0, u "LO_BYTE_SHIFT"), (1, .methodref 12 68), (0, .nameAndType 69 70), (0, u "checkIndex"), (0, u "(I[B)V"), (0, .methodref 12 72), (0, .nameAndType 73 74), (0, u "getChar"), (0, u "([BI)C"), (32, .methodref 12 108), (0, .nameAndType 109 110), (0, u "newBytesFor"), (0, u "(I)[B"), (0, .methodref 12 112), (0, .nameAndType 113 114), (0, u "putChar"), (0, u "([BII)V"), (0, .methodref 12 116), (0, .nameAndType 117 118), (0, u "compress"), (0, u "([CI[BII)I"), (0, .methodref 12 120), (0, .nameAndType 121 122), (0, u "toBytes"), (0, u "([CII)[B"), (138, u "coderFromArrayLen"), (0, u "([BI)B"), (106, .class_ 371), (1, u "java/lang/StringUTF16$LinesSpliterator"), (20, u "charAt"), (21, .methodref 3 415), (0, .nameAndType 69 416), (0, u "(II)V"), (13, u "MAX_LENGTH"), (196, .class_ 628), (0, u "java/lang/StringUTF16$CodePointsSpliterator"), (0, .class_ 630), (0, u "java/lang/StringUTF16$CharsSpliterator")] 4

def k8m0 : Method := { name := "<init>", desc := "()V", sig := { parameters := [], returnType := none }, accessFlags := 0, code := none }
def k8c1 : Code := { maxStack := 1, maxLocals := 1, code := jdk_52_method_2_code, exceptionTable := #[], attributes := #[] }
def k8m1 : Method := { name := "newBytesFor", desc := "(I)[B", sig := { parameters := [.int], returnType := some (.array .byte) }, accessFlags := 9, code := some k8c1 }
def k8c2 : Code := { maxStack := 4, maxLocals := 1, code := jdk_52_method_3_code, exceptionTable := #[], attributes := #[] }
def k8m2 : Method := { name := "newBytesLength", desc := "(I)I", sig := { parameters := [.int], returnType := some .int }, accessFlags := 9, code := some k8c2 }
def k8c3 : Code := { maxStack := 4, maxLocals := 3, code := jdk_52_method_4_code, exceptionTable := #[], attributes := #[] }
def k8m3 : Method := { name := "putChar", desc := "([BII)V", sig := { parameters := [(.array .byte), .int, .int], returnType := none }, accessFlags := 8, code := some k8c3 }
def k8c4 : Code := { maxStack := 3, maxLocals := 2, code := jdk_52_method_5_code, exceptionTable := #[], attributes := #[] }
def k8m4 : Method := { name := "getChar", desc := "([BI)C", sig := { parameters := [(.array .byte), .int], returnType := some .char }, accessFlags := 8, code := some k8c4 }
def k8c5 : Code := { maxStack := 2, maxLocals := 1, code := jdk_52_method_6_code, exceptionTable := #[], attributes := #[] }
def k8m5 : Method := { name := "length", desc := "([B)I", sig := { parameters := [(.array .byte)], returnType := some .int }, accessFlags := 9, code := some k8c5 }
def k8c6 : Code := { maxStack := 4, maxLocals := 5, code := jdk_52_method_14_code, exceptionTable := #[], attributes := #[] }
def k8m6 : Method := { name := "toBytes", desc := "([CII)[B", sig := { parameters := [(.array .char), .int, .int], returnType := some (.array .byte) }, accessFlags := 9, code := some k8c6 }
def k8c7 : Code := { maxStack := 2, maxLocals := 2, code := jdk_52_method_15_code, exceptionTable := #[], attributes := #[] }
def k8m7 : Method := { name := "coderFromArrayLen", desc := "([BI)B", sig := { parameters := [(.array .byte), .int], returnType := some .byte }, accessFlags := 8, code := some k8c7 }
def k8c8 : Code := { maxStack := 5, maxLocals := 6, code := jdk_52_method_16_code, exceptionTable := #[], attributes := #[] }
def k8m8 : Method := { name := "compress", desc := "([CII)[B", sig := { parameters := [(.array .char), .int, .int], returnType := some (.array .byte) }, accessFlags := 9, code := some k8c8 }
def k8c9 : Code := { maxStack := 3, maxLocals := 7, code := jdk_52_method_21_code, exceptionTable := #[], attributes := #[] }
def k8m9 : Method := { name := "compress", desc := "([CI[BII)I", sig := { parameters := [(.array .char), .int, (.array .byte), .int, .int], returnType := some .int }, accessFlags := 9, code := some k8c9 }
def k8c10 : Code := { maxStack := 2, maxLocals := 2, code := jdk_52_method_83_code, exceptionTable := #[], attributes := #[] }
def k8m10 : Method := { name := "charAt", desc := "([BI)C", sig := { parameters := [(.array .byte), .int], returnType := some .char }, accessFlags := 9, code := some k8c10 }
def k8c11 : Code := { maxStack := 2, maxLocals := 2, code := jdk_52_method_91_code, exceptionTable := #[], attributes := #[] }
def k8m11 : Method := { name := "checkIndex", desc := "(I[B)V", sig := { parameters := [.int, (.array .byte)], returnType := none }, accessFlags := 9, code := some k8c11 }
/-- java/lang/StringUTF16 -/
def k8 : Class := { plain "java/lang/StringUTF16" (some 0) with
  accessFlags := 48
  interfaces := #[]
  cf := some (fileOf pool8 12 #[.nestMembers #[627, 629, 369]] #[{ accessFlags := 0, nameIndex := 9, descriptorIndex := 10, attributes := #[] }, { accessFlags := 9, nameIndex := 109, descriptorIndex := 110, attributes := #[] }, { accessFlags := 9, nameIndex := 15, descriptorIndex := 16, attributes := #[] }, { accessFlags := 8, nameIndex := 113, descriptorIndex := 114, attributes := #[] }, { accessFlags := 8, nameIndex := 73, descriptorIndex := 74, attributes := #[] }, { accessFlags := 9, nameIndex := 50, descriptorIndex := 51, attributes := #[] }, { accessFlags := 9, nameIndex := 121, descriptorIndex := 122, attributes := #[] }, { accessFlags := 8, nameIndex := 261, descriptorIndex := 262, attributes := #[] }, { accessFlags := 9, nameIndex := 117, descriptorIndex := 122, attributes := #[] }, { accessFlags := 9, nameIndex := 117, descriptorIndex := 118, attributes := #[] }, { accessFlags := 9, nameIndex := 392, descriptorIndex := 74, attributes := #[] }, { accessFlags := 9, nameIndex := 69, descriptorIndex := 70, attributes := #[] }] 48 6 #[] #[{ accessFlags := 26, nameIndex := 61, descriptorIndex := 62, attributes := #[] }, { accessFlags := 26, nameIndex := 65, descriptorIndex := 62, attributes := #[] }, { accessFlags := 24, nameIndex := 430, descriptorIndex := 62, attributes := #[] }, { accessFlags := 4120, nameIndex := 46, descriptorIndex := 47, attributes := #[] }])
  fields := #[{ name := "HI_BYTE_SHIFT", type := .int, accessFlags := 26, slot := 0, constantValue := 0 }, { name := "LO_BYTE_SHIFT", type := .int, accessFlags := 26, slot := 1, constantValue := 0 }, { name := "MAX_LENGTH", type := .int, accessFlags := 24, slot := 2, constantValue := 0 }, { name := "$assertionsDisabled", type := .boolean, accessFlags := 4120, slot := 3, constantValue := 0 }]
  methods := #[k8m0, k8m1, k8m2, k8m3, k8m4, k8m5, k8m6, k8m7, k8m8, k8m9, k8m10, k8m11]
  instanceTypes := #[]
  staticTypes := #[.int, .int, .int, .boolean]
  resolved := Array.replicate 635 none
  statics := some 1 }

def pool9 : Array CpInfo := pool [(3, .class_ 4), (0, u "com/example/idlsmith/idlsmith/javasource/ClassFile"), (0, .class_ 6), (0, u "com/example/idlsmith/idlsmith/javasource/ClassFile$Constants"), (8, .class_ 17), (1, u "java/lang/String"), (14, .class_ 33), (0, u "java/lang/Object"), (5, u "steps"), (0, u "Ljava/util/List;"), (2, u "methods"), (2, u "parts"), (2, u "nested"), (2, u "kind"), (0, u "Ljava/lang/String;"), (2, u "binaryName"), (2, u "sourceFile"), (2, u "constants"), (0, u "Lcom/example/idlsmith/idlsmith/javasource/ClassFile$Constants;"), (7, u "(Ljava/lang/String;)I"), (16, .class_ 89), (0, u "com/example/idlsmith/idlsmith/javasource/ClassFile$Supertypes"), (54, .class_ 145), (0, u "com/example/idlsmith/idlsmith/javasource/ClassFile$FieldDeclared"), (44, .class_ 191), (0, u "com/example/idlsmith/idlsmith/javasource/ClassFile$MethodDeclared"), (2, .methodref 15 195), (0, .nameAndType 196 197), (0, u "length"), (0, u "()I"), (2, u "OBJECT_DESCRIPTOR_CHARS"), (0, u "I"), (19, .class_ 222), (0, u "com/example/idlsmith/idlsmith/javasource/ClassFile$PassedTo"), (3, .class_ 228), (1, u "com/example/idlsmith/idlsmith/javasource/ClassFile$Bridges"), (5, .class_ 236), (1, u "com/example/idlsmith/idlsmith/javasource/ClassFile$Body"), (2, .class_ 240), (0, u "com/example/idlsmith/idlsmith/javasource/ClassFile$UnknownBridges"), (9, u "sharedBound"), (2, u "builderBound"), (2, u "dynamicBound"), (2, u "tooLong"), (2, u "tooLongOf"), (2, u "tooLongBytes"), (2, u "partPastCodeLimit"), (0, u "Lcom/example/idlsmith/idlsmith/javasource/ClassFile$Code;"), (6, u "exact"), (2, .class_ 281), (1, u "com/example/idlsmith/idlsmith/javasource/ClassFile$Exact"), (6, .class_ 290), (1, u "com/example/idlsmith/idlsmith/javasource/ClassFile$Pool"), (17, .class_ 309), (0, u "com/example/idlsmith/idlsmith/javasource/ClassFile$TypeNamed"), (15, .class_ 326), (0, u "com/example/idlsmith/idlsmith/javasource/ClassFile$MethodCalled"), (2, .class_ 330), (0, u "com/example/idlsmith/idlsmith/javasource/ClassFile$LocalDeclared"), (1, .class_ 333), (0, u "com/example/idlsmith/idlsmith/javasource/ClassFile$FieldAccessed"), (5, .class_ 340), (0, u "com/example/idlsmith/idlsmith/javasource/ClassFile$StringPushed"), (20, .class_ 362), (0, u "com/example/idlsmith/idlsmith/javasource/ClassFile$NumberPushed"), (11, .class_ 375), (0, u "com/example/idlsmith/idlsmith/javasource/ClassFile$Concatenated"), (5, u "concatenated"), (0, u "Z"), (6, u "initializer"), (3, .class_ 395), (1, u "com/example/idlsmith/idlsmith/javasource/ClassFile$Code"), (3, .class_ 400), (0, u "com/example/idlsmith/idlsmith/javasource/ClassFile$Text"), (2, .class_ 405), (1, u "com/example/idlsmith/idlsmith/javasource/ClassFile$Step"), (6, u "jumps"), (13, .class_ 427), (0, u "com/example/idlsmith/idlsmith/javasource/ClassFile$Summary"), (15, .class_ 444), (0, u "com/example/idlsmith/idlsmith/javasource/ClassFile$DistinctBound"), (19, u "Lcom/example/idlsmith/idlsmith/javasource/ClassFile$Exact;"), (25, u "modifiedUtf8"), (75, u "MEMBER_CLASSES"), (0, u "Ljava/util/Map;"), (30, u "MEMBER_CLASS_NAMES"), (0, u "[Ljava/lang/String;"), (32, .methodref 15 633), (0, .nameAndType 634 635), (0, u "charAt"), (0, u "(I)C"), (0, .methodref 3 637), (0, .nameAndType 490 638), (0, u "(C)I"), (26, u "CONSTANT_BYTES"), (0, u "CONSTANTS"), (0, u "CODE_BYTES"), (0, u "SIMPLE"), (1, u "LOCAL"), (1, u "FIRST_LOCAL"), (0, u "CONSTANT"), (1, u "FIELD"), (0, u "TYPE"), (0, u "NEW"), (1, u "INVOKE"), (0, u "INVOKE_INTERFACE"), (1, u "INCREMENT"), (0, u "NEAR"), (3, u "OBJECT"), (0, u "STRING"), (2, u "SIGNATURE"), (1, u "STACK_MAP"), (0, u "STRING_BUILDER"), (2, u "PASSED_TO"), (2, u "CLASS_ENTRIES"), (0, u "STRING_ENTRIES"), (0, u "MEMBER_ENTRIES"), (0, u "REFERENCE_ENTRIES"), (1, u "MEMBER_CLASS_ENTRIES"), (0, u "FIRST_CONCATENATION_BUILDER_ENTRIES"), (1, u "FIRST_CONCATENATION_DYNAMIC_ENTRIES"), (46, .class_ 756), (0, u "com/example/idlsmith/idlsmith/javasource/ClassFile$CodePastLimit"), (0, .class_ 758), (0, u "com/example/idlsmith/idlsmith/javasource/ClassFile$Recount"), (0, .class_ 760), (0, u "com/example/idlsmith/idlsmith/javasource/ClassFile$Kind")] 50

def k9c0 : Code := { maxStack := 3, maxLocals := 3, code := prog_226_method_58_code, exceptionTable := #[], attributes := #[] }
def k9m0 : Method := { name := "modifiedUtf8", desc := "(Ljava/lang/String;)I", sig := { parameters := [(.object "java/lang/String")], returnType := some .int }, accessFlags := 8, code := some k9c0 }
def k9c1 : Code := { maxStack := 2, maxLocals := 1, code := prog_226_method_61_code, exceptionTable := #[], attributes := #[] }
def k9m1 : Method := { name := "modifiedUtf8", desc := "(C)I", sig := { parameters := [.char], returnType := some .int }, accessFlags := 8, code := some k9c1 }
/-- com/example/idlsmith/idlsmith/javasource/ClassFile -/
def k9 : Class := { plain "com/example/idlsmith/idlsmith/javasource/ClassFile" (some 0) with
  accessFlags := 49
  interfaces := #[]
  cf := some (fileOf pool9 3 #[.nestMembers #[279, 374, 361, 339, 332, 325, 308, 239, 221, 329, 190, 144, 399, 88, 403, 443, 755, 426, 757, 226, 393, 288, 5, 759, 234]] #[{ accessFlags := 8, nameIndex := 490, descriptorIndex := 71, attributes := #[] }, { accessFlags := 8, nameIndex := 490, descriptorIndex := 638, attributes := #[] }] 49 32 #[] #[{ accessFlags := 24, nameIndex := 665, descriptorIndex := 201, attributes := #[] }, { accessFlags := 25, nameIndex := 666, descriptorIndex := 201, attributes := #[] }, { accessFlags := 24, nameIndex := 667, descriptorIndex := 201, attributes := #[] }, { accessFlags := 24, nameIndex := 668, descriptorIndex := 201, attributes := #[] }, { accessFlags := 24, nameIndex := 670, descriptorIndex := 201, attributes := #[] }, { accessFlags := 24, nameIndex := 672, descriptorIndex := 201, attributes := #[] }, { accessFlags := 24, nameIndex := 673, descriptorIndex := 201, attributes := #[] }, { accessFlags := 24, nameIndex := 675, descriptorIndex := 201, attributes := #[] }, { accessFlags := 24, nameIndex := 676, descriptorIndex := 201, attributes := #[] }, { accessFlags := 24, nameIndex := 677, descriptorIndex := 201, attributes := #[] }, { accessFlags := 24, nameIndex := 679, descriptorIndex := 201, attributes := #[] }, { accessFlags := 24, nameIndex := 680, descriptorIndex := 201, attributes := #[] }, { accessFlags := 24, nameIndex := 682, descriptorIndex := 201, attributes := #[] }, { accessFlags := 26, nameIndex := 683, descriptorIndex := 201, attributes := #[] }, { accessFlags := 26, nameIndex := 566, descriptorIndex := 567, attributes := #[] }, { accessFlags := 26, nameIndex := 598, descriptorIndex := 599, attributes := #[] }, { accessFlags := 26, nameIndex := 687, descriptorIndex := 53, attributes := #[] }, { accessFlags := 26, nameIndex := 688, descriptorIndex := 53, attributes := #[] }, { accessFlags := 26, nameIndex := 691, descriptorIndex := 53, attributes := #[] }, { accessFlags := 26, nameIndex := 693, descriptorIndex := 53, attributes := #[] }, { accessFlags := 26, nameIndex := 694, descriptorIndex := 53, attributes := #[] }, { accessFlags := 24, nameIndex := 697, descriptorIndex := 53, attributes := #[] }, { accessFlags := 26, nameIndex := 700, descriptorIndex := 201, attributes := #[] }, { accessFlags := 26, nameIndex := 701, descriptorIndex := 201, attributes := #[] }, { accessFlags := 26, nameIndex := 702, descriptorIndex := 201, attributes := #[] }, { accessFlags := 26, nameIndex := 703, descriptorIndex := 201, attributes := #[] }, { accessFlags := 26, nameIndex := 705, descriptorIndex := 201, attributes := #[] }, { accessFlags := 26, nameIndex := 706, descriptorIndex := 201, attributes := #[] }, { accessFlags := 26, nameIndex := 708, descriptorIndex := 201, attributes := #[] }, { accessFlags := 26, nameIndex := 200, descriptorIndex := 201, attributes := #[] }, { accessFlags := 18, nameIndex := 52, descriptorIndex := 53, attributes := #[] }, { accessFlags := 18, nameIndex := 56, descriptorIndex := 53, attributes := #[] }, { accessFlags := 18, nameIndex := 59, descriptorIndex := 53, attributes := #[] }, { accessFlags := 18, nameIndex := 62, descriptorIndex := 63, attributes := #[] }, { accessFlags := 18, nameIndex := 39, descriptorIndex := 40, attributes := #[] }, { accessFlags := 2, nameIndex := 250, descriptorIndex := 201, attributes := #[] }, { accessFlags := 2, nameIndex := 253, descriptorIndex := 201, attributes := #[] }, { accessFlags := 2, nameIndex := 256, descriptorIndex := 201, attributes := #[] }, { accessFlags := 2, nameIndex := 381, descriptorIndex := 382, attributes := #[] }, { accessFlags := 2, nameIndex := 412, descriptorIndex := 382, attributes := #[] }, { accessFlags := 2, nameIndex := 276, descriptorIndex := 464, attributes := #[] }, { accessFlags := 18, nameIndex := 43, descriptorIndex := 40, attributes := #[] }, { accessFlags := 18, nameIndex := 46, descriptorIndex := 40, attributes := #[] }, { accessFlags := 2, nameIndex := 268, descriptorIndex := 269, attributes := #[] }, { accessFlags := 2, nameIndex := 389, descriptorIndex := 269, attributes := #[] }, { accessFlags := 18, nameIndex := 49, descriptorIndex := 40, attributes := #[] }, { accessFlags := 2, nameIndex := 259, descriptorIndex := 53, attributes := #[] }, { accessFlags := 2, nameIndex := 262, descriptorIndex := 53, attributes := #[] }, { accessFlags := 2, nameIndex := 265, descriptorIndex := 201, attributes := #[] }])
  fields := #[{ name := "CONSTANT_BYTES", type := .int, accessFlags := 24, slot := 0, constantValue := 0 }, { name := "CONSTANTS", type := .int, accessFlags := 25, slot := 1, constantValue := 0 }, { name := "CODE_BYTES", type := .int, accessFlags := 24, slot := 2, constantValue := 0 }, { name := "SIMPLE", type := .int, accessFlags := 24, slot := 3, constantValue := 0 }, { name := "LOCAL", type := .int, accessFlags := 24, slot := 4, constantValue := 0 }, { name := "FIRST_LOCAL", type := .int, accessFlags := 24, slot := 5, constantValue := 0 }, { name := "CONSTANT", type := .int, accessFlags := 24, slot := 6, constantValue := 0 }, { name := "FIELD", type := .int, accessFlags := 24, slot := 7, constantValue := 0 }, { name := "TYPE", type := .int, accessFlags := 24, slot := 8, constantValue := 0 }, { name := "NEW", type := .int, accessFlags := 24, slot := 9, constantValue := 0 }, { name := "INVOKE", type := .int, accessFlags := 24, slot := 10, constantValue := 0 }, { name := "INVOKE_INTERFACE", type := .int, accessFlags := 24, slot := 11, constantValue := 0 }, { name := "INCREMENT", type := .int, accessFlags := 24, slot := 12, constantValue := 0 }, { name := "NEAR", type := .int, accessFlags := 26, slot := 13, constantValue := 0 }, { name := "MEMBER_CLASSES", type := (.object "java/util/Map"), accessFlags := 26, slot := 14, constantValue := 0 }, { name := "MEMBER_CLASS_NAMES", type := (.array (.object "java/lang/String")), accessFlags := 26, slot := 15, constantValue := 0 }, { name := "OBJECT", type := (.object "java/lang/String"), accessFlags := 26, slot := 16, constantValue := 0 }, { name := "STRING", type := (.object "java/lang/String"), accessFlags := 26, slot := 17, constantValue := 0 }, { name := "SIGNATURE", type := (.object "java/lang/String"), accessFlags := 26, slot := 18, constantValue := 0 }, { name := "STACK_MAP", type := (.object "java/lang/String"), accessFlags := 26, slot := 19, constantValue := 0 }, { name := "STRING_BUILDER", type := (.object "java/lang/String"), accessFlags := 26, slot := 20, constantValue := 0 }, { name := "PASSED_TO", type := (.object "java/lang/String"), accessFlags := 24, slot := 21, constantValue := 0 }, { name := "CLASS_ENTRIES", type := .int, accessFlags := 26, slot := 22, constantValue := 0 }, { name := "STRING_ENTRIES", type := .int, accessFlags := 26, slot := 23, constantValue := 0 }, { name := "MEMBER_ENTRIES", type := .int, accessFlags := 26, slot := 24, constantValue := 0 }, { name := "REFERENCE_ENTRIES", type := .int, accessFlags := 26, slot := 25, constantValue := 0 }, { name := "MEMBER_CLASS_ENTRIES", type := .int, accessFlags := 26, slot := 26, constantValue := 0 }, { name := "FIRST_CONCATENATION_BUILDER_ENTRIES", type := .int, accessFlags := 26, slot := 27, constantValue := 0 }, { name := "FIRST_CONCATENATION_DYNAMIC_ENTRIES", type := .int, accessFlags := 26, slot := 28, constantValue := 0 }, { name := "OBJECT_DESCRIPTOR_CHARS", type := .int, accessFlags := 26, slot := 29, constantValue := 0 }, { name := "kind", type := (.object "java/lang/String"), accessFlags := 18, slot := 0, constantValue := 0 }, { name := "binaryName", type := (.object "java/lang/String"), accessFlags := 18, slot := 1, constantValue := 0 }, { name := "sourceFile", type := (.object "java/lang/String"), accessFlags := 18, slot := 2, constantValue := 0 }, { name := "constants", type := (.object "com/example/idlsmith/idlsmith/javasource/ClassFile$Constants"), accessFlags := 18, slot := 3, constantValue := 0 }, { name := "steps", type := (.object "java/util/List"), accessFlags := 18, slot := 4, constantValue := 0 }, { name := "sharedBound", type := .int, accessFlags := 2, slot := 5, constantValue := 0 }, { name := "builderBound", type := .int, accessFlags := 2, slot := 6, constantValue := 0 }, { name := "dynamicBound", type := .int, accessFlags := 2, slot := 7, constantValue := 0 }, { name := "concatenated", type := .boolean, accessFlags := 2, slot := 8, constantValue := 0 }, { name := "jumps", type := .boolean, accessFlags := 2, slot := 9, constantValue := 0 }, { name := "exact", type := (.object "com/example/idlsmith/idlsmith/javasource/ClassFile$Exact"), accessFlags := 2, slot := 10, constantValue := 0 }, { name := "methods", type := (.object "java/util/List"), accessFlags := 18, slot := 11, constantValue := 0 }, { name := "parts", type := (.object "java/util/List"), accessFlags := 18, slot := 12, constantValue := 0 }, { name := "partPastCodeLimit", type := (.object "com/example/idlsmith/idlsmith/javasource/ClassFile$Code"), accessFlags := 2, slot := 13, constantValue := 0 }, { name := "initializer", type := (.object "com/example/idlsmith/idlsmith/javasource/ClassFile$Code"), accessFlags := 2, slot := 14, constantValue := 0 }, { name := "nested", type := (.object "java/util/List"), accessFlags := 18, slot := 15, constantValue := 0 }, { name := "tooLong", type := (.object "java/lang/String"), accessFlags := 2, slot := 16, constantValue := 0 }, { name := "tooLongOf", type := (.object "java/lang/String"), accessFlags := 2, slot := 17, constantValue := 0 }, { name := "tooLongBytes", type := .int, accessFlags := 2, slot := 18, constantValue := 0 }]
  methods := #[k9m0, k9m1]
  instanceTypes := #[(.object "java/lang/String"), (.object "java/lang/String"), (.object "java/lang/String"), (.object "com/example/idlsmith/idlsmith/javasource/ClassFile$Constants"), (.object "java/util/List"), .int, .int, .int, .boolean, .boolean, (.object "com/example/idlsmith/idlsmith/javasource/ClassFile$Exact"), (.object "java/util/List"), (.object "java/util/List"), (.object "com/example/idlsmith/idlsmith/javasource/ClassFile$Code"), (.object "com/example/idlsmith/idlsmith/javasource/ClassFile$Code"), (.object "java/util/List"), (.object "java/lang/String"), (.object "java/lang/String"), .int]
  staticTypes := #[.int, .int, .int, .int, .int, .int, .int, .int, .int, .int, .int, .int, .int, .int, (.object "java/util/Map"), (.array (.object "java/lang/String")), (.object "java/lang/String"), (.object "java/lang/String"), (.object "java/lang/String"), (.object "java/lang/String"), (.object "java/lang/String"), (.object "java/lang/String"), .int, .int, .int, .int, .int, .int, .int, .int]
  resolved := Array.replicate 811 none
  statics := none }

def pool10 : Array CpInfo := pool [(1, .class_ 2), (0, u "java/lang/String"), (1, .class_ 6), (1, u "java/lang/Object"), (0, u "<init>"), (0, u "()V"), (0, .methodref 1 10), (0, .nameAndType 11 12), (0, u "checkIndex"), (0, u "(II)V"), (1, .class_ 16), (1, u "java/lang/StringLatin1"), (36, u "([BI)C"), (67, u "$assertionsDisabled"), (0, u "Z"), (98, .class_ 223), (1, u "java/lang/StringLatin1$LinesSpliterator"), (28, u "charAt"), (137, .class_ 391), (0, u "java/lang/StringLatin1$CharsSpliterator")] 3

def k10m0 : Method := { name := "<init>", desc := "()V", sig := { parameters := [], returnType := none }, accessFlags := 0, code := none }
def k10c1 : Code := { maxStack := 2, maxLocals := 2, code := jdk_43_method_2_code, exceptionTable := #[], attributes := #[] }
def k10m1 : Method := { name := "charAt", desc := "([BI)C", sig := { parameters := [(.array .byte), .int], returnType := some .char }, accessFlags := 9, code := some k10c1 }
/-- java/lang/StringLatin1 -/
def k10 : Class := { plain "java/lang/StringLatin1" (some 0) with
  accessFlags := 48
  interfaces := #[]
  cf := some (fileOf pool10 14 #[.nestMembers #[390, 221]] #[{ accessFlags := 0, nameIndex := 7, descriptorIndex := 8, attributes := #[] }, { accessFlags := 9, nameIndex := 252, descriptorIndex := 53, attributes := #[] }] 48 4 #[] #[{ accessFlags := 4120, nameIndex := 121, descriptorIndex := 122, attributes := #[] }])
  fields := #[{ name := "$assertionsDisabled", type := .boolean, accessFlags := 4120, slot := 0, constantValue := 0 }]
  methods := #[k10m0, k10m1]
  instanceTypes := #[]
  staticTypes := #[.boolean]
  resolved := Array.replicate 395 none
  statics := none }

def pool11 : Array CpInfo := pool [(2, .class_ 4), (1, u "java/lang/Object"), (0, u "<init>"), (0, u "()V"), (17, .class_ 26), (1, u "jdk/internal/util/Preconditions"), (6, u "checkIndex"), (21, .class_ 56), (0, u "jdk/internal/util/Preconditions$4"), (57, .class_ 115), (0, u "jdk/internal/util/Preconditions$1"), (7, u "SIOOBE_FORMATTER"), (0, u "Ljava/util/function/BiFunction;"), (0, .class_ 126), (0, u "jdk/internal/util/Preconditions$2"), (3, u "AIOOBE_FORMATTER"), (0, .class_ 132), (0, u "jdk/internal/util/Preconditions$3"), (3, u "IOOBE_FORMATTER"), (41, u "(IILjava/util/function/BiFunction;)I")] 15

def k11m0 : Method := { name := "<init>", desc := "()V", sig := { parameters := [], returnType := none }, accessFlags := 1, code := none }
def k11c1 : Code := { maxStack := 3, maxLocals := 3, code := jdk_41_method_11_code, exceptionTable := #[], attributes := #[] }
def k11m1 : Method := { name := "checkIndex", desc := "(IILjava/util/function/BiFunction;)I", sig := { parameters := [.int, .int, (.object "java/util/function/BiFunction")], returnType := some .int }, accessFlags := 9, code := some k11c1 }
/-- jdk/internal/util/Preconditions -/
def k11 : Class := { plain "jdk/internal/util/Preconditions" (some 0) with
  accessFlags := 33
  interfaces := #[]
  cf := some (fileOf pool11 24 #[.nestMembers #[55, 131, 125, 114]] #[{ accessFlags := 1, nameIndex := 5, descriptorIndex := 6, attributes := #[] }, { accessFlags := 9, nameIndex := 33, descriptorIndex := 178, attributes := #[] }] 33 2 #[] #[{ accessFlags := 25, nameIndex := 123, descriptorIndex := 124, attributes := #[] }, { accessFlags := 25, nameIndex := 130, descriptorIndex := 124, attributes := #[] }, { accessFlags := 25, nameIndex := 136, descriptorIndex := 124, attributes := #[] }])
  fields := #[{ name := "SIOOBE_FORMATTER", type := (.object "java/util/function/BiFunction"), accessFlags := 25, slot := 0, constantValue := 0 }, { name := "AIOOBE_FORMATTER", type := (.object "java/util/function/BiFunction"), accessFlags := 25, slot := 1, constantValue := 0 }, { name := "IOOBE_FORMATTER", type := (.object "java/util/function/BiFunction"), accessFlags := 25, slot := 2, constantValue := 0 }]
  methods := #[k11m0, k11m1]
  instanceTypes := #[]
  staticTypes := #[(.object "java/util/function/BiFunction"), (.object "java/util/function/BiFunction"), (.object "java/util/function/BiFunction")]
  resolved := Array.replicate 194 none
  statics := some 2 }

def pool12 : Array CpInfo := pool [(9, u "<init>"), (6, .class_ 18), (1, u "java/lang/Object"), (0, u "()V"), (1, .class_ 23), (1, u "jdk/internal/util/ArraysSupport"), (0, u "LOG2_ARRAY_LONG_INDEX_SCALE"), (0, u "I"), (2, u "U"), (0, u "Ljdk/internal/misc/Unsafe;"), (8, u "BIG_ENDIAN"), (0, u "Z"), (8, u "LOG2_BYTE_BIT_SIZE"), (4, u "LOG2_ARRAY_INT_INDEX_SCALE"), (54, u "JLA"), (0, u "Ljdk/internal/access/JavaLangAccess;"), (11, u "LOG2_ARRAY_BOOLEAN_INDEX_SCALE"), (9, u "LOG2_ARRAY_BYTE_INDEX_SCALE"), (5, u "LOG2_ARRAY_CHAR_INDEX_SCALE"), (5, u "LOG2_ARRAY_SHORT_INDEX_SCALE"), (18, u "LOG2_ARRAY_FLOAT_INDEX_SCALE"), (24, u "LOG2_ARRAY_DOUBLE_INDEX_SCALE"), (89, u "T_BOOLEAN"), (2, u "T_CHAR"), (1, u "T_FLOAT"), (1, u "T_DOUBLE"), (1, u "T_BYTE"), (1, u "T_SHORT"), (1, u "T_INT"), (1, u "T_LONG"), (1, u "SOFT_MAX_ARRAY_LENGTH")] 83

def k12m0 : Method := { name := "<init>", desc := "()V", sig := { parameters := [], returnType := none }, accessFlags := 2, code := none }
/-- jdk/internal/util/ArraysSupport -/
def k12 : Class := { plain "jdk/internal/util/ArraysSupport" (some 0) with
  accessFlags := 33
  interfaces := #[]
  cf := some (fileOf pool12 21 #[] #[{ accessFlags := 2, nameIndex := 9, descriptorIndex := 19, attributes := #[] }] 33 16 #[] #[{ accessFlags := 24, nameIndex := 28, descriptorIndex := 29, attributes := #[] }, { accessFlags := 26, nameIndex := 38, descriptorIndex := 39, attributes := #[] }, { accessFlags := 25, nameIndex := 121, descriptorIndex := 25, attributes := #[] }, { accessFlags := 25, nameIndex := 131, descriptorIndex := 25, attributes := #[] }, { accessFlags := 25, nameIndex := 137, descriptorIndex := 25, attributes := #[] }, { accessFlags := 25, nameIndex := 143, descriptorIndex := 25, attributes := #[] }, { accessFlags := 25, nameIndex := 53, descriptorIndex := 25, attributes := #[] }, { accessFlags := 25, nameIndex := 24, descriptorIndex := 25, attributes := #[] }, { accessFlags := 25, nameIndex := 162, descriptorIndex := 25, attributes := #[] }, { accessFlags := 25, nameIndex := 187, descriptorIndex := 25, attributes := #[] }, { accessFlags := 26, nameIndex := 48, descriptorIndex := 25, attributes := #[] }, { accessFlags := 25, nameIndex := 277, descriptorIndex := 25, attributes := #[] }, { accessFlags := 25, nameIndex := 280, descriptorIndex := 25, attributes := #[] }, { accessFlags := 25, nameIndex := 282, descriptorIndex := 25, attributes := #[] }, { accessFlags := 25, nameIndex := 284, descriptorIndex := 25, attributes := #[] }, { accessFlags := 25, nameIndex := 286, descriptorIndex := 25, attributes := #[] }, { accessFlags := 25, nameIndex := 288, descriptorIndex := 25, attributes := #[] }, { accessFlags := 25, nameIndex := 290, descriptorIndex := 25, attributes := #[] }, { accessFlags := 25, nameIndex := 292, descriptorIndex := 25, attributes := #[] }, { accessFlags := 26, nameIndex := 108, descriptorIndex := 109, attributes := #[] }, { accessFlags := 25, nameIndex := 294, descriptorIndex := 25, attributes := #[] }])
  fields := #[{ name := "U", type := (.object "jdk/internal/misc/Unsafe"), accessFlags := 24, slot := 0, constantValue := 0 }, { name := "BIG_ENDIAN", type := .boolean, accessFlags := 26, slot := 1, constantValue := 0 }, { name := "LOG2_ARRAY_BOOLEAN_INDEX_SCALE", type := .int, accessFlags := 25, slot := 2, constantValue := 0 }, { name := "LOG2_ARRAY_BYTE_INDEX_SCALE", type := .int, accessFlags := 25, slot := 3, constantValue := 0 }, { name := "LOG2_ARRAY_CHAR_INDEX_SCALE", type := .int, accessFlags := 25, slot := 4, constantValue := 0 }, { name := "LOG2_ARRAY_SHORT_INDEX_SCALE", type := .int, accessFlags := 25, slot := 5, constantValue := 0 }, { name := "LOG2_ARRAY_INT_INDEX_SCALE", type := .int, accessFlags := 25, slot := 6, constantValue := 0 }, { name := "LOG2_ARRAY_LONG_INDEX_SCALE", type := .int, accessFlags := 25, slot := 7, constantValue := 0 }, { name := "LOG2_ARRAY_FLOAT_INDEX_SCALE", type := .int, accessFlags := 25, slot := 8, constantValue := 0 }, { name := "LOG2_ARRAY_DOUBLE_INDEX_SCALE", type := .int, accessFlags := 25, slot := 9, constantValue := 0 }, { name := "LOG2_BYTE_BIT_SIZE", type := .int, accessFlags := 26, slot := 10, constantValue := 0 }, { name := "T_BOOLEAN", type := .int, accessFlags := 25, slot := 11, constantValue := 0 }, { name := "T_CHAR", type := .int, accessFlags := 25, slot := 12, constantValue := 0 }, { name := "T_FLOAT", type := .int, accessFlags := 25, slot := 13, constantValue := 0 }, { name := "T_DOUBLE", type := .int, accessFlags := 25, slot := 14, constantValue := 0 }, { name := "T_BYTE", type := .int, accessFlags := 25, slot := 15, constantValue := 0 }, { name := "T_SHORT", type := .int, accessFlags := 25, slot := 16, constantValue := 0 }, { name := "T_INT", type := .int, accessFlags := 25, slot := 17, constantValue := 0 }, { name := "T_LONG", type := .int, accessFlags := 25, slot := 18, constantValue := 0 }, { name := "JLA", type := (.object "jdk/internal/access/JavaLangAccess"), accessFlags := 26, slot := 19, constantValue := 0 }, { name := "SOFT_MAX_ARRAY_LENGTH", type := .int, accessFlags := 25, slot := 20, constantValue := 0 }]
  methods := #[k12m0]
  instanceTypes := #[]
  staticTypes := #[(.object "jdk/internal/misc/Unsafe"), .boolean, .int, .int, .int, .int, .int, .int, .int, .int, .int, .int, .int, .int, .int, .int, .int, .int, .int, (.object "jdk/internal/access/JavaLangAccess"), .int]
  resolved := Array.replicate 378 none
  statics := none }

def pool13 : Array CpInfo := pool [(1, u "java/lang/Cloneable"), (0, .class_ 1), (0, u "java/lang/Object"), (0, .class_ 3)] 3

/-- java/lang/Cloneable -/
def k13 : Class := { plain "java/lang/Cloneable" (some 0) with
  accessFlags := 1537
  interfaces := #[]
  cf := some (fileOf pool13 2 #[] #[] 1537 4 #[] #[])
  fields := #[]
  methods := #[]
  instanceTypes := #[]
  staticTypes := #[]
  resolved := Array.replicate 8 none
  statics := none }

/-- the primitive byte -/
def k14 : Class := { plain "byte" none with kind := .primitive 'B', accessFlags := 0x411 }
/-- [B -/
def k15 : Class := { plain "[B" (some 0) with kind := .array 14 .byte, interfaces := #[13, 2], accessFlags := 1041 }

/-- the primitive char -/
def k16 : Class := { plain "char" none with kind := .primitive 'C', accessFlags := 0x411 }
/-- [C -/
def k17 : Class := { plain "[C" (some 0) with kind := .array 16 .char, interfaces := #[13, 2], accessFlags := 1041 }

/-- the primitive int -/
def k18 : Class := { plain "int" none with kind := .primitive 'I', accessFlags := 0x411 }
/-- [I -/
def k19 : Class := { plain "[I" (some 0) with kind := .array 18 .int, interfaces := #[13, 2], accessFlags := 1041 }

def heap : Heap := #[{ cls := 7, slots := #[.long 0, .int 1, .null, .int 0, .null, .int 0, .int 0], vm := .statics 7 },
  { cls := 8, slots := #[.int 0, .int 8, .int 0, .int 1], vm := .statics 8 },
  { cls := 11, slots := #[.null, .null, .null], vm := .statics 11 }]
def classes : Array Class := #[k0, k1, k2, k3, k4, k5, k6, k7, k8, k9, k10, k11, k12, k13, k14, k15, k16, k17, k18, k19]
def interned : List (Array UInt16 × Addr) := []
def slotsUsed : Nat := 14
def theMethod : MethodId := ⟨1, 2⟩
def args0 : Array Value := #[.int 1, .int 2, .int 3]
def aboutOver (below : List Frame) : State where
  vm := { classes := classes, interned := interned.toArray }
  heap := heap
  slotsUsed := slotsUsed
  threads := #[{ frames := .invoking theMethod args0 :: below }]
def below0 : List Frame := [.native { method := ⟨0, 0⟩, args := #[] }]
def about1 : State := aboutOver below0
def p0 : Program := .bare "" "" ""
def e0 : Env := launch0.env 0 0 0
theorem w_frames : about1.frames = Frame.invoking theMethod args0 :: below0 := rfl
set_option maxRecDepth 65536 in
theorem w_args : argsFit about1.vm theMethod args0 = true := by decide +kernel
set_option maxRecDepth 65536 in
theorem w_heap : heapFits about1 = true := by decide +kernel
set_option maxRecDepth 65536 in
theorem w_runnable : about1.curStatus? = some .runnable := by decide +kernel
set_option maxRecDepth 65536 in
theorem w_alone : about1.alone = true := by decide +kernel
set_option maxRecDepth 65536 in
theorem w_named : about1.methodNamed? x = some theMethod := by decide +kernel
set_option maxRecDepth 65536 in
theorem w_hears : about1.hears theMethod below0 = true := by decide +kernel
set_option maxRecDepth 65536 in
theorem w_ripe : about1.ripe theMethod args0 below0 = true := by decide +kernel
theorem w_running : about1.status = .running := rfl
set_option maxRecDepth 65536 in
theorem w_room : about1.hasRoom e0.platform room_1 = true :=
  launch0.hasRoom_least _ room_1 (by decide +kernel) (by decide +kernel) (by decide +kernel) (by decide +kernel) (by decide +kernel) (by decide +kernel)
theorem allAtoms_all (ts : List Jvm.Cond) (a : Array Jvm.Value) (st : Jvm.State) : (allAtoms ts).before a st = ts.all (fun c => c.before a st) := by
  induction ts with
  | nil => rfl
  | cons c t ih =>
    show (Jvm.Cond.and c (allAtoms t)).before a st = _
    rw [Jvm.Cond.before_and, ih, List.all_cons]
def words1 : List Jvm.Cond := Jvm.Cond.code x code maxLocals ret :: tables_1
/-- a 'code' word, met by the world's own term for the bytes: nothing is compared byte by byte -/
theorem code_word {y : MethodName} {bytes : ByteArray} {mx : Nat} {rt : Option FieldType} {a : Array Value} {s : State} {m : MethodId} {meth : Method} {c : Code} (h1 : s.methodNamed? y = some m) (h2 : s.vm.method? m = some meth) (h3 : meth.code = some c) (h4 : c.code = bytes)
    (h5 : (c.maxLocals == mx && c.exceptionTable.isEmpty && decide (c.maxStack ≤ mostOperands) && decide (meth.sig.returnType = rt) && !meth.locks && decide (parseMethodDescriptor y.desc = some meth.sig)) = true) : (Jvm.Cond.code y bytes mx rt).before a s = true := by
  simp only [Bool.and_eq_true, beq_iff_eq, Bool.not_eq_true', decide_eq_true_eq] at h5
  obtain ⟨⟨⟨⟨⟨g1, g2⟩, g3⟩, g4⟩, g5⟩, g6⟩ := h5
  simp [Cond.before, Cond.holds, Cond.value, h1, h2, h3, h4, g1, g2, g3, g4, g5, g6]
def isCode : Jvm.Cond → Bool
  | .code _ _ _ _ => true
  | _ => false
theorem all_split {L : List Jvm.Cond} {P : Jvm.Cond → Bool} (h1 : L.all (fun c => isCode c || P c) = true) (h2 : ∀ c ∈ L.filter isCode, P c = true) : L.all P = true := by
  refine List.all_eq_true.mpr fun c hc => ?_
  have h := List.all_eq_true.mp h1 c hc
  rcases Bool.eq_false_or_eq_true (isCode c) with hi | hi
  · exact h2 c (List.mem_filter.mpr ⟨hc, hi⟩)
  · simpa [hi] using h
set_option maxRecDepth 65536 in
theorem w_c0 : (Jvm.Cond.code x code maxLocals ret).before args0 about1 = true := code_word (m := ⟨1, 2⟩) (meth := k1m2) (c := k1c2) (by decide +kernel) rfl rfl rfl (by decide +kernel)
set_option maxRecDepth 65536 in
theorem w_c1 : (Jvm.Cond.code ({ cls := "com/example/idlsmith/idlsmith/javasource/ClassFileModifiedUtf8PinLaw", name := "bytesOf", desc := "(C)I" } : Jvm.MethodName) method_2_code (2 : Nat) (Option.some Jvm.ClassFile.FieldType.int)).before args0 about1 = true := code_word (m := ⟨1, 1⟩) (meth := k1m1) (c := k1c1) (by decide +kernel) rfl rfl rfl (by decide +kernel)
set_option maxRecDepth 65536 in
theorem w_c2 : (Jvm.Cond.code ({ cls := "java/lang/String", name := "<init>", desc := "([C)V" } : Jvm.MethodName) jdk_42_method_3_code (2 : Nat) (Option.none : Option Jvm.ClassFile.FieldType)).before args0 about1 = true := code_word (m := ⟨7, 1⟩) (meth := k7m1) (c := k7c1) (by decide +kernel) rfl rfl rfl (by decide +kernel)
set_option maxRecDepth 65536 in
theorem w_c3 : (Jvm.Cond.code ({ cls := "java/lang/String", name := "<init>", desc := "([CIILjava/lang/Void;)V" } : Jvm.MethodName) jdk_42_method_149_code (6 : Nat) (Option.none : Option Jvm.ClassFile.FieldType)).before args0 about1 = true := code_word (m := ⟨7, 4⟩) (meth := k7m4) (c := k7c4) (by decide +kernel) rfl rfl rfl (by decide +kernel)
set_option maxRecDepth 65536 in
theorem w_c4 : (Jvm.Cond.code ({ cls := "java/lang/Object", name := "<init>", desc := "()V" } : Jvm.MethodName) object_method_1_code (1 : Nat) (Option.none : Option Jvm.ClassFile.FieldType)).before args0 about1 = true := code_word (m := ⟨0, 0⟩) (meth := k0m0) (c := k0c0) (by decide +kernel) rfl rfl rfl (by decide +kernel)
set_option maxRecDepth 65536 in
theorem w_c5 : (Jvm.Cond.code ({ cls := "java/lang/StringUTF16", name := "compress", desc := "([CII)[B" } : Jvm.MethodName) jdk_52_method_16_code (6 : Nat) (Option.some (Jvm.ClassFile.FieldType.array Jvm.ClassFile.FieldType.byte))).before args0 about1 = true := code_word (m := ⟨8, 8⟩) (meth := k8m8) (c := k8c8) (by decide +kernel) rfl rfl rfl (by decide +kernel)
set_option maxRecDepth 65536 in
theorem w_c6 : (Jvm.Cond.code ({ cls := "java/lang/StringUTF16", name := "compress", desc := "([CI[BII)I" } : Jvm.MethodName) jdk_52_method_21_code (7 : Nat) (Option.some Jvm.ClassFile.FieldType.int)).before args0 about1 = true := code_word (m := ⟨8, 9⟩) (meth := k8m9) (c := k8c9) (by decide +kernel) rfl rfl rfl (by decide +kernel)
set_option maxRecDepth 65536 in
theorem w_c7 : (Jvm.Cond.code ({ cls := "java/lang/StringUTF16", name := "coderFromArrayLen", desc := "([BI)B" } : Jvm.MethodName) jdk_52_method_15_code (2 : Nat) (Option.some Jvm.ClassFile.FieldType.byte)).before args0 about1 = true := code_word (m := ⟨8, 7⟩) (meth := k8m7) (c := k8c7) (by decide +kernel) rfl rfl rfl (by decide +kernel)
set_option maxRecDepth 65536 in
theorem w_c8 : (Jvm.Cond.code ({ cls := "com/example/idlsmith/idlsmith/javasource/ClassFile", name := "modifiedUtf8", desc := "(Ljava/lang/String;)I" } : Jvm.MethodName) prog_226_method_58_code (3 : Nat) (Option.some Jvm.ClassFile.FieldType.int)).before args0 about1 = true := code_word (m := ⟨9, 0⟩) (meth := k9m0) (c := k9c0) (by decide +kernel) rfl rfl rfl (by decide +kernel)
set_option maxRecDepth 65536 in
theorem w_c9 : (Jvm.Cond.code ({ cls := "java/lang/String", name := "length", desc := "()I" } : Jvm.MethodName) jdk_42_method_54_code (1 : Nat) (Option.some Jvm.ClassFile.FieldType.int)).before args0 about1 = true := code_word (m := ⟨7, 2⟩) (meth := k7m2) (c := k7c2) (by decide +kernel) rfl rfl rfl (by decide +kernel)
set_option maxRecDepth 65536 in
theorem w_c10 : (Jvm.Cond.code ({ cls := "java/lang/String", name := "coder", desc := "()B" } : Jvm.MethodName) jdk_42_method_152_code (1 : Nat) (Option.some Jvm.ClassFile.FieldType.byte)).before args0 about1 = true := code_word (m := ⟨7, 5⟩) (meth := k7m5) (c := k7c5) (by decide +kernel) rfl rfl rfl (by decide +kernel)
set_option maxRecDepth 65536 in
theorem w_c11 : (Jvm.Cond.code ({ cls := "java/lang/String", name := "charAt", desc := "(I)C" } : Jvm.MethodName) jdk_42_method_56_code (2 : Nat) (Option.some Jvm.ClassFile.FieldType.char)).before args0 about1 = true := code_word (m := ⟨7, 3⟩) (meth := k7m3) (c := k7c3) (by decide +kernel) rfl rfl rfl (by decide +kernel)
set_option maxRecDepth 65536 in
theorem w_c12 : (Jvm.Cond.code ({ cls := "java/lang/String", name := "isLatin1", desc := "()Z" } : Jvm.MethodName) jdk_42_method_154_code (1 : Nat) (Option.some Jvm.ClassFile.FieldType.boolean)).before args0 about1 = true := code_word (m := ⟨7, 6⟩) (meth := k7m6) (c := k7c6) (by decide +kernel) rfl rfl rfl (by decide +kernel)
set_option maxRecDepth 65536 in
theorem w_c13 : (Jvm.Cond.code ({ cls := "java/lang/StringLatin1", name := "charAt", desc := "([BI)C" } : Jvm.MethodName) jdk_43_method_2_code (2 : Nat) (Option.some Jvm.ClassFile.FieldType.char)).before args0 about1 = true := code_word (m := ⟨10, 1⟩) (meth := k10m1) (c := k10c1) (by decide +kernel) rfl rfl rfl (by decide +kernel)
set_option maxRecDepth 65536 in
theorem w_c14 : (Jvm.Cond.code ({ cls := "java/lang/String", name := "checkIndex", desc := "(II)V" } : Jvm.MethodName) jdk_42_method_155_code (2 : Nat) (Option.none : Option Jvm.ClassFile.FieldType)).before args0 about1 = true := code_word (m := ⟨7, 7⟩) (meth := k7m7) (c := k7c7) (by decide +kernel) rfl rfl rfl (by decide +kernel)
set_option maxRecDepth 65536 in
theorem w_c15 : (Jvm.Cond.code ({ cls := "jdk/internal/util/Preconditions", name := "checkIndex", desc := "(IILjava/util/function/BiFunction;)I" } : Jvm.MethodName) jdk_41_method_11_code (3 : Nat) (Option.some Jvm.ClassFile.FieldType.int)).before args0 about1 = true := code_word (m := ⟨11, 1⟩) (meth := k11m1) (c := k11c1) (by decide +kernel) rfl rfl rfl (by decide +kernel)
set_option maxRecDepth 65536 in
theorem w_c16 : (Jvm.Cond.code ({ cls := "com/example/idlsmith/idlsmith/javasource/ClassFile", name := "modifiedUtf8", desc := "(C)I" } : Jvm.MethodName) prog_226_method_61_code (1 : Nat) (Option.some Jvm.ClassFile.FieldType.int)).before args0 about1 = true := code_word (m := ⟨9, 1⟩) (meth := k9m1) (c := k9c1) (by decide +kernel) rfl rfl rfl (by decide +kernel)
set_option maxRecDepth 65536 in
theorem w_c17 : (Jvm.Cond.code ({ cls := "java/lang/StringUTF16", name := "toBytes", desc := "([CII)[B" } : Jvm.MethodName) jdk_52_method_14_code (5 : Nat) (Option.some (Jvm.ClassFile.FieldType.array Jvm.ClassFile.FieldType.byte))).before args0 about1 = true := code_word (m := ⟨8, 6⟩) (meth := k8m6) (c := k8c6) (by decide +kernel) rfl rfl rfl (by decide +kernel)
set_option maxRecDepth 65536 in
theorem w_c18 : (Jvm.Cond.code ({ cls := "java/lang/StringUTF16", name := "newBytesFor", desc := "(I)[B" } : Jvm.MethodName) jdk_52_method_2_code (1 : Nat) (Option.some (Jvm.ClassFile.FieldType.array Jvm.ClassFile.FieldType.byte))).before args0 about1 = true := code_word (m := ⟨8, 1⟩) (meth := k8m1) (c := k8c1) (by decide +kernel) rfl rfl rfl (by decide +kernel)
set_option maxRecDepth 65536 in
theorem w_c19 : (Jvm.Cond.code ({ cls := "java/lang/StringUTF16", name := "newBytesLength", desc := "(I)I" } : Jvm.MethodName) jdk_52_method_3_code (1 : Nat) (Option.some Jvm.ClassFile.FieldType.int)).before args0 about1 = true := code_word (m := ⟨8, 2⟩) (meth := k8m2) (c := k8c2) (by decide +kernel) rfl rfl rfl (by decide +kernel)
set_option maxRecDepth 65536 in
theorem w_c20 : (Jvm.Cond.code ({ cls := "java/lang/StringUTF16", name := "putChar", desc := "([BII)V" } : Jvm.MethodName) jdk_52_method_4_code (3 : Nat) (Option.none : Option Jvm.ClassFile.FieldType)).before args0 about1 = true := code_word (m := ⟨8, 3⟩) (meth := k8m3) (c := k8c3) (by decide +kernel) rfl rfl rfl (by decide +kernel)
set_option maxRecDepth 65536 in
theorem w_c21 : (Jvm.Cond.code ({ cls := "java/lang/StringUTF16", name := "getChar", desc := "([BI)C" } : Jvm.MethodName) jdk_52_method_5_code (2 : Nat) (Option.some Jvm.ClassFile.FieldType.char)).before args0 about1 = true := code_word (m := ⟨8, 4⟩) (meth := k8m4) (c := k8c4) (by decide +kernel) rfl rfl rfl (by decide +kernel)
set_option maxRecDepth 65536 in
theorem w_c22 : (Jvm.Cond.code ({ cls := "java/lang/StringUTF16", name := "charAt", desc := "([BI)C" } : Jvm.MethodName) jdk_52_method_83_code (2 : Nat) (Option.some Jvm.ClassFile.FieldType.char)).before args0 about1 = true := code_word (m := ⟨8, 10⟩) (meth := k8m10) (c := k8c10) (by decide +kernel) rfl rfl rfl (by decide +kernel)
set_option maxRecDepth 65536 in
theorem w_c23 : (Jvm.Cond.code ({ cls := "java/lang/StringUTF16", name := "checkIndex", desc := "(I[B)V" } : Jvm.MethodName) jdk_52_method_91_code (2 : Nat) (Option.none : Option Jvm.ClassFile.FieldType)).before args0 about1 = true := code_word (m := ⟨8, 11⟩) (meth := k8m11) (c := k8c11) (by decide +kernel) rfl rfl rfl (by decide +kernel)
set_option maxRecDepth 65536 in
theorem w_c24 : (Jvm.Cond.code ({ cls := "java/lang/StringUTF16", name := "length", desc := "([B)I" } : Jvm.MethodName) jdk_52_method_6_code (1 : Nat) (Option.some Jvm.ClassFile.FieldType.int)).before args0 about1 = true := code_word (m := ⟨8, 5⟩) (meth := k8m5) (c := k8c5) (by decide +kernel) rfl rfl rfl (by decide +kernel)
def codes1 : List Jvm.Cond := [Jvm.Cond.code x code maxLocals ret, Jvm.Cond.code ({ cls := "com/example/idlsmith/idlsmith/javasource/ClassFileModifiedUtf8PinLaw", name := "bytesOf", desc := "(C)I" } : Jvm.MethodName) method_2_code (2 : Nat) (Option.some Jvm.ClassFile.FieldType.int), Jvm.Cond.code ({ cls := "java/lang/String", name := "<init>", desc := "([C)V" } : Jvm.MethodName) jdk_42_method_3_code (2 : Nat) (Option.none : Option Jvm.ClassFile.FieldType), Jvm.Cond.code ({ cls := "java/lang/String", name := "<init>", desc := "([CIILjava/lang/Void;)V" } : Jvm.MethodName) jdk_42_method_149_code (6 : Nat) (Option.none : Option Jvm.ClassFile.FieldType), Jvm.Cond.code ({ cls := "java/lang/Object", name := "<init>", desc := "()V" } : Jvm.MethodName) object_method_1_code (1 : Nat) (Option.none : Option Jvm.ClassFile.FieldType), Jvm.Cond.code ({ cls := "java/lang/StringUTF16", name := "compress", desc := "([CII)[B" } : Jvm.MethodName) jdk_52_method_16_code (6 : Nat) (Option.some (Jvm.ClassFile.FieldType.array Jvm.ClassFile.FieldType.byte)), Jvm.Cond.code ({ cls := "java/lang/StringUTF16", name := "compress", desc := "([CI[BII)I" } : Jvm.MethodName) jdk_52_method_21_code (7 : Nat) (Option.some Jvm.ClassFile.FieldType.int), Jvm.Cond.code ({ cls := "java/lang/StringUTF16", name := "coderFromArrayLen", desc := "([BI)B" } : Jvm.MethodName) jdk_52_method_15_code (2 : Nat) (Option.some Jvm.ClassFile.FieldType.byte), Jvm.Cond.code ({ cls := "com/example/idlsmith/idlsmith/javasource/ClassFile", name := "modifiedUtf8", desc := "(Ljava/lang/String;)I" } : Jvm.MethodName) prog_226_method_58_code (3 : Nat) (Option.some Jvm.ClassFile.FieldType.int), Jvm.Cond.code ({ cls := "java/lang/String", name := "length", desc := "()I" } : Jvm.MethodName) jdk_42_method_54_code (1 : Nat) (Option.some Jvm.ClassFile.FieldType.int), Jvm.Cond.code ({ cls := "java/lang/String", name := "coder", desc := "()B" } : Jvm.MethodName) jdk_42_method_152_code (1 : Nat) (Option.some Jvm.ClassFile.FieldType.byte), Jvm.Cond.code ({ cls := "java/lang/String", name := "charAt", desc := "(I)C" } : Jvm.MethodName) jdk_42_method_56_code (2 : Nat) (Option.some Jvm.ClassFile.FieldType.char), Jvm.Cond.code ({ cls := "java/lang/String", name := "isLatin1", desc := "()Z" } : Jvm.MethodName) jdk_42_method_154_code (1 : Nat) (Option.some Jvm.ClassFile.FieldType.boolean), Jvm.Cond.code ({ cls := "java/lang/StringLatin1", name := "charAt", desc := "([BI)C" } : Jvm.MethodName) jdk_43_method_2_code (2 : Nat) (Option.some Jvm.ClassFile.FieldType.char), Jvm.Cond.code ({ cls := "java/lang/String", name := "checkIndex", desc := "(II)V" } : Jvm.MethodName) jdk_42_method_155_code (2 : Nat) (Option.none : Option Jvm.ClassFile.FieldType), Jvm.Cond.code ({ cls := "jdk/internal/util/Preconditions", name := "checkIndex", desc := "(IILjava/util/function/BiFunction;)I" } : Jvm.MethodName) jdk_41_method_11_code (3 : Nat) (Option.some Jvm.ClassFile.FieldType.int), Jvm.Cond.code ({ cls := "com/example/idlsmith/idlsmith/javasource/ClassFile", name := "modifiedUtf8", desc := "(C)I" } : Jvm.MethodName) prog_226_method_61_code (1 : Nat) (Option.some Jvm.ClassFile.FieldType.int), Jvm.Cond.code ({ cls := "java/lang/StringUTF16", name := "toBytes", desc := "([CII)[B" } : Jvm.MethodName) jdk_52_method_14_code (5 : Nat) (Option.some (Jvm.ClassFile.FieldType.array Jvm.ClassFile.FieldType.byte)), Jvm.Cond.code ({ cls := "java/lang/StringUTF16", name := "newBytesFor", desc := "(I)[B" } : Jvm.MethodName) jdk_52_method_2_code (1 : Nat) (Option.some (Jvm.ClassFile.FieldType.array Jvm.ClassFile.FieldType.byte)), Jvm.Cond.code ({ cls := "java/lang/StringUTF16", name := "newBytesLength", desc := "(I)I" } : Jvm.MethodName) jdk_52_method_3_code (1 : Nat) (Option.some Jvm.ClassFile.FieldType.int), Jvm.Cond.code ({ cls := "java/lang/StringUTF16", name := "putChar", desc := "([BII)V" } : Jvm.MethodName) jdk_52_method_4_code (3 : Nat) (Option.none : Option Jvm.ClassFile.FieldType), Jvm.Cond.code ({ cls := "java/lang/StringUTF16", name := "getChar", desc := "([BI)C" } : Jvm.MethodName) jdk_52_method_5_code (2 : Nat) (Option.some Jvm.ClassFile.FieldType.char), Jvm.Cond.code ({ cls := "java/lang/StringUTF16", name := "charAt", desc := "([BI)C" } : Jvm.MethodName) jdk_52_method_83_code (2 : Nat) (Option.some Jvm.ClassFile.FieldType.char), Jvm.Cond.code ({ cls := "java/lang/StringUTF16", name := "checkIndex", desc := "(I[B)V" } : Jvm.MethodName) jdk_52_method_91_code (2 : Nat) (Option.none : Option Jvm.ClassFile.FieldType), Jvm.Cond.code ({ cls := "java/lang/StringUTF16", name := "length", desc := "([B)I" } : Jvm.MethodName) jdk_52_method_6_code (1 : Nat) (Option.some Jvm.ClassFile.FieldType.int)]
set_option maxRecDepth 65536 in
theorem codes_eq : words1.filter isCode = codes1 := rfl
theorem w_codes : ∀ c ∈ words1.filter isCode, c.before args0 about1 = true := by
  rw [codes_eq]
  intro c hc
  simp only [codes1, List.mem_cons, List.not_mem_nil, or_false] at hc
  rcases hc with rfl | rfl | rfl | rfl | rfl | rfl | rfl | rfl | rfl | rfl | rfl | rfl | rfl | rfl | rfl | rfl | rfl | rfl | rfl | rfl | rfl | rfl | rfl | rfl | rfl
  · exact w_c0
  · exact w_c1
  · exact w_c2
  · exact w_c3
  · exact w_c4
  · exact w_c5
  · exact w_c6
  · exact w_c7
  · exact w_c8
  · exact w_c9
  · exact w_c10
  · exact w_c11
  · exact w_c12
  · exact w_c13
  · exact w_c14
  · exact w_c15
  · exact w_c16
  · exact w_c17
  · exact w_c18
  · exact w_c19
  · exact w_c20
  · exact w_c21
  · exact w_c22
  · exact w_c23
  · exact w_c24
set_option maxRecDepth 65536 in
theorem w_t1 : (words1.take 24).all (fun c => isCode c || c.before args0 about1) = true := by decide +kernel
set_option maxRecDepth 65536 in
theorem w_t2 : ((words1.drop 24).take 24).all (fun c => isCode c || c.before args0 about1) = true := by decide +kernel
set_option maxRecDepth 65536 in
theorem w_t3 : (((words1.drop 24).drop 24).take 24).all (fun c => isCode c || c.before args0 about1) = true := by decide +kernel
set_option maxRecDepth 65536 in
theorem w_t4 : ((((words1.drop 24).drop 24).drop 24).take 24).all (fun c => isCode c || c.before args0 about1) = true := by decide +kernel
set_option maxRecDepth 65536 in
theorem w_t5 : ((((words1.drop 24).drop 24).drop 24).drop 24).all (fun c => isCode c || c.before args0 about1) = true := by decide +kernel
theorem w_tables : (allAtoms (Jvm.Cond.code x code maxLocals ret :: tables_1)).before args0 about1 = true := by
  rw [allAtoms_all]
  show words1.all (fun c => c.before args0 about1) = true
  refine all_split ?_ w_codes
  rw [← List.take_append_drop 24 words1, List.all_append, w_t1, ← List.take_append_drop 24 (words1.drop 24), List.all_append, w_t2, ← List.take_append_drop 24 ((words1.drop 24).drop 24), List.all_append, w_t3, ← List.take_append_drop 24 (((words1.drop 24).drop 24).drop 24), List.all_append, w_t4, w_t5]
  rfl
set_option maxRecDepth 65536 in
theorem w_rest : rest_1_c.before args0 about1 = true := by decide +kernel
set_option maxRecDepth 65536 in
theorem w_case : (Jvm.Cond.and given_1 narrow_1).before args0 about1 = true := by decide +kernel
set_option maxRecDepth 65536 in
theorem w_consts : constsHeld consts_1 about1 := Jvm.Lit.constsHeldB_iff.mp (by decide +kernel)
theorem w_applies : (headSpec (Jvm.Cond.code x code maxLocals ret :: tables_1) room_1).applies x e0.platform about1 = true :=
  (Spec.applies_iff w_frames).mpr ⟨w_running, w_runnable, w_alone, w_named, w_hears, w_ripe, w_room, w_tables⟩
theorem atStart : AtStart classFile x code maxLocals ret World_1 tables_1 room_1 Calls_1 rest_1 Pre_1 launch0 p0 e0 about1 theMethod args0 below0 :=
  ⟨lists_1, trivial, launch0.admits_env _ _ _, launch0.least_env, fairChoices_fair.cas, fairChoices_fair.clock, w_frames, w_args, w_heap, w_applies, ⟨w_consts, trivial⟩, w_rest, w_case⟩
end start1
theorem witness_1 : WitnessClaimed_1 := ⟨start1.p0, start1.e0, start1.about1, start1.theMethod, start1.args0, start1.below0, start1.atStart⟩
end Jvm.Pilot.@@N@@
