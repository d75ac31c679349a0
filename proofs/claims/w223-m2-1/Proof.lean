import JvmDerived
import JvmDerived.Pilot.@@N@@Statement
import JvmDerived.Pilot.@@N@@Code
set_option linter.unusedVariables false
set_option linter.unusedSimpArgs false

namespace Jvm.RoadKit
open Sem ClassFile Op Lib Jvm.Stand Jvm.Free Jvm.LawKit
section New
variable {p : Program} {l : Launch} {e : Env} {R : Room} {s : State} {m : MethodId} {args : Array Value} {below : List Frame} {meth : Method} {c : Code} {T : State} {locs : List Loc} {cells slots : Nat}
theorem retI (X : Stand p l e R s m args below meth c T locs cells slots) (hx : p.tables.exec = Jvm.exec) {pc : Nat} {Ls : Array Slot} {z : Int32} {rest : List Value} (hret : meth.sig.returnType = some .int) (hd : decode c.code pc = .ok (.ireturn, 1)) {fs : List Frame}
    (hl : ∀ (f : JFrame) (acts : List Action), f.method = m → f.locked = none → f.entered = [] → (doReturn e (T.setTop f) acts (some (.int z))).1 = T.setFrames fs) : Steps p.tables e below (T.setTop (mkF m pc Ls (.int z :: rest))) (T.setFrames fs) := by
  have hm' : T.vm.method? m = some meth := X.method'
  have hn : narrow .int (.int z) = .int z := rfl
  show Steps p.tables e below (T.setTop { method := m, pc := pc, locals := Ls, stack := _ :: rest, locked := none }) _
  jvm_step X.here [X.here.top, hx, hd, hm', hret, hn]
  first | (intro acts; rw [hl _ acts rfl rfl rfl]) | rw [hl _ _ rfl rfl rfl]
  exact Steps.refl _
end New
end Jvm.RoadKit

namespace Jvm.Pilot.@@N@@
open Jvm Jvm.ClassFile Sem Op Lib Jvm.Free Jvm.Stand Jvm.LawKit Jvm.RoadKit Bundle Jvm.Pilot.@@N@@.Jvm.D

theorem own_eqfld {args : Array Value} {s : State} {t : Term} {C n d : String} {k : Int32} {x : Addr} (h : (Jvm.Cond.eq (Term.field t C n d) (Term.int k)).value args s none s [] = some true) (ht : t.eval args s none [] s = some (.ref x)) : s.fieldOf? x C n d = some (.int k) := (fld_at ht).symm.trans (eqv_i (F := Term.int k) (y := k) rfl h)

theorem own_wS {a0 : Array Value} {Z : State} (hw : ∀ d ∈ tables_1, d.before a0 Z = true) : ∀ a ∈ Bundle.stringAtoms, a.before a0 Z = true := fun d hd => hw d ((by decide +kernel : ∀ d ∈ Bundle.stringAtoms, d ∈ tables_1) d hd)

def OB (Z : State) (h : Heap) (a : Addr) (b : Value) (y n c : Int64) : Prop := Exa Z h a "com/example/palamedes/palamedes/core/ReadingBudget" ∧ Fld Z h a "com/example/palamedes/palamedes/core/ReadingBudget" "bounds" "Lcom/example/palamedes/palamedes/core/ReadingBounds;" b ∧ Fld Z h a "com/example/palamedes/palamedes/core/ReadingBudget" "bytes" "J" (.long y) ∧ Fld Z h a "com/example/palamedes/palamedes/core/ReadingBudget" "aliasNodes" "J" (.long n) ∧ Fld Z h a "com/example/palamedes/palamedes/core/ReadingBudget" "aliasCharacters" "J" (.long c)
def own_rem (x : Int32) (t : Int64) : Int64 := (x &&& (2147483647 : Int32)).toInt64 - ((x &&& (2147483647 : Int32)).toInt64 / t) * t
theorem own_rem_spec (x : Int32) (t : Int64) (d : Int) (ht : t.toInt = d) (hd : 0 < d) : 0 ≤ (own_rem x t).toInt ∧ (own_rem x t).toInt < d := by
  have h1 := (c_and x 2147483647 (by decide)).1
  have h2 : (x &&& (2147483647 : Int32)).toInt64.toInt = (x &&& (2147483647 : Int32)).toInt := c_i2l _
  have h3 := (c_lrem (x &&& (2147483647 : Int32)).toInt64 t d ht).1 (by omega)
  unfold own_rem
  rw [h3]
  exact ⟨Int.emod_nonneg _ (by omega), Int.emod_lt_of_pos _ hd⟩
theorem own_T : (4194304 : Int32).toInt64 = (4194304 : Int64) := by decide
theorem own_Tv : (4194304 : Int64).toInt = 4194304 := by decide
theorem own_n {z : Int64} (h0 : 0 ≤ z.toInt) (h1 : z.toInt ≤ 4194304) : z.toInt32.toInt = z.toInt := Jvm.Free.XT.narrowInt ⟨by omega, by omega⟩
theorem own_a (x : Int32) : 0 ≤ (own_rem x ((4194304 : Int64) + (1 : Int64))).toInt32.toInt ∧ (own_rem x ((4194304 : Int64) + (1 : Int64))).toInt32.toInt ≤ 4194304 := by
  have h := own_rem_spec x ((4194304 : Int64) + (1 : Int64)) 4194305 (by decide) (by decide)
  rw [own_n h.1 (by omega)]
  omega
theorem own_h (x : Int32) : 0 ≤ (own_rem x ((4194304 : Int64) + (1 : Int64))).toInt ∧ (own_rem x ((4194304 : Int64) + (1 : Int64))).toInt ≤ 4194304 := by
  have h := own_rem_spec x ((4194304 : Int64) + (1 : Int64)) 4194305 (by decide) (by decide)
  omega
theorem own_nd (x : Int32) : 0 ≤ ((x &&& (2147483647 : Int32)) % (100001 : Int32)).toInt64.toInt ∧ ((x &&& (2147483647 : Int32)) % (100001 : Int32)).toInt64.toInt ≤ 100000 := by
  have h1 := (c_and x 2147483647 (by decide)).1
  have h2 := (c_irem (x &&& (2147483647 : Int32)) 100001 100001 (by decide)).1 h1
  rw [c_i2l]
  omega
theorem own_left {a : Int32} (h0 : 0 ≤ a.toInt) (h1 : a.toInt ≤ 4194304) : ((4194304 : Int64) - a.toInt64).toInt = 4194304 - a.toInt := by
  have e := c_i2l a
  have q := c_lsub (4194304 : Int64) a.toInt64
  have r := rng64 ((4194304 : Int64) - a.toInt64)
  have t := own_Tv
  omega
theorem own_left1 {a : Int32} (h0 : 0 ≤ a.toInt) (h1 : a.toInt ≤ 4194304) : (((4194304 : Int64) - a.toInt64) + (1 : Int64)).toInt = 4194305 - a.toInt := by
  have e := own_left h0 h1
  have q := c_ladd ((4194304 : Int64) - a.toInt64) (1 : Int64)
  have r := rng64 (((4194304 : Int64) - a.toInt64) + (1 : Int64))
  have t : (1 : Int64).toInt = 1 := by decide
  omega
theorem own_nz {a : Int32} (h0 : 0 ≤ a.toInt) (h1 : a.toInt ≤ 4194304) : (((4194304 : Int64) - a.toInt64) + (1 : Int64)) ≠ 0 := fun h => by
  have e := own_left1 h0 h1
  rw [h] at e
  have t : (0 : Int64).toInt = 0 := by decide
  omega
theorem own_c (y : Int32) {a : Int32} (h0 : 0 ≤ a.toInt) (h1 : a.toInt ≤ 4194304) : 0 ≤ (own_rem y (((4194304 : Int64) - a.toInt64) + (1 : Int64))).toInt32.toInt ∧ (own_rem y (((4194304 : Int64) - a.toInt64) + (1 : Int64))).toInt32.toInt ≤ 4194304 - a.toInt := by
  have h := own_rem_spec y (((4194304 : Int64) - a.toInt64) + (1 : Int64)) _ (own_left1 h0 h1) (by omega)
  rw [own_n h.1 (by omega)]
  omega
theorem own_z {x : Int64} : (0 : Int64) + x = x := Int64.zero_add x
theorem own_le1 {a : Int32} (h0 : 0 ≤ a.toInt) (h1 : a.toInt ≤ 4194304) : ¬ ((4194304 : Int32).toInt64 - (0 : Int64)) < a.toInt64 := by
  rw [Int64.lt_iff_toInt_lt, c_i2l, show ((4194304 : Int32).toInt64 - (0 : Int64)).toInt = 4194304 from by decide]
  omega
theorem own_le2 {a c : Int32} (h0 : 0 ≤ a.toInt) (h1 : a.toInt ≤ 4194304) (h2 : c.toInt ≤ 4194304 - a.toInt) : ¬ ((4194304 : Int32).toInt64 - ((0 : Int64) + a.toInt64)) < c.toInt64 := by
  rw [own_T, own_z, Int64.lt_iff_toInt_lt, c_i2l, own_left h0 h1]
  omega
theorem own_le3 {n : Int64} (h1 : n.toInt ≤ 100000) : ¬ ((100000 : Int32).toInt64 - (0 : Int64)) < n := by
  rw [Int64.lt_iff_toInt_lt, show ((100000 : Int32).toInt64 - (0 : Int64)).toInt = 100000 from by decide]
  omega
theorem own_le4 {n : Int64} (h1 : n.toInt ≤ 4194304) : ¬ ((4194304 : Int32).toInt64 - (0 : Int64)) < n := by
  rw [Int64.lt_iff_toInt_lt, show ((4194304 : Int32).toInt64 - (0 : Int64)).toInt = 4194304 from by decide]
  omega
theorem own_e0 : ((4194304 : Int32).toInt64 - (0 : Int64)) = (4194304 : Int64) := by decide
theorem own_e1 {a : Int32} : ((4194304 : Int32).toInt64 - ((0 : Int64) + a.toInt64)) = ((4194304 : Int64) - a.toInt64) := by rw [own_T, own_z]
theorem own_e3 {a c : Int32} : ((4194304 : Int32).toInt64 - (((0 : Int64) + a.toInt64) + c.toInt64)) = (((4194304 : Int64) - a.toInt64) - c.toInt64) := by
  rw [own_T, own_z, Int64.sub_sub]

theorem d2_0 : decode prog_25_method_2_code 0 = .ok (.aload_n 0, 1) := by decide +kernel
theorem d2_1 : decode prog_25_method_2_code 1 = .ok (.invokespecial 13, 3) := by decide +kernel
theorem d2_4 : decode prog_25_method_2_code 4 = .ok (.aload_n 0, 1) := by decide +kernel
theorem d2_5 : decode prog_25_method_2_code 5 = .ok (.aload_n 1, 1) := by decide +kernel
theorem d2_6 : decode prog_25_method_2_code 6 = .ok (.putfield 18, 3) := by decide +kernel
theorem d2_9 : decode prog_25_method_2_code 9 = .ok (.return_, 1) := by decide +kernel
theorem pn_com_example_palamedes_palamedes_core_ReadingBudget : plainName "com/example/palamedes/palamedes/core/ReadingBudget" = true := by first | (simp [plainName, overriddenIn]; done) | decide +kernel
theorem ef_2 (m : MethodId) (x0 : Addr) (x1 : Addr) : entryFrame m #[(.ref x0), (.ref x1)] 2 = mkF m 0 #[.val (.ref x0), .val (.ref x1)] [] := by first | (simp [entryFrame, mkF, argsToLocals, Value.category]; done) | rfl
def QK (Z : State) (a1 : Addr) (b : Value) (y n c : Int64) (h0 : Heap) (n0 : Nat) (v : Option Value) (h : Heap) (L : List Loc) : Prop := v = none ∧ Fr n0 L ∧ Keep h0 h [a1] ∧ OB Z h a1 b y n c
set_option maxRecDepth 65536 in
set_option maxHeartbeats 40000000 in
theorem rm2 (l : Launch) (Z : State) (a0 : Array Value) (hw : ∀ d ∈ tables_1, d.before a0 Z = true) (ws : List Jvm.Cond) (a1 b : Addr) (y n c : Int64) (h0 : Heap) (n0 : Nat) (O0 : Old Z n0 h0) (g_a1 : n0 ≤ a1) (B : OB Z h0 a1 .null y n c) :
    MetFree l (⟨"com/example/palamedes/palamedes/core/ReadingBudget", "<init>", "(Lcom/example/palamedes/palamedes/core/ReadingBounds;)V"⟩ : MethodName) (head1 (Jvm.Cond.code (⟨"com/example/palamedes/palamedes/core/ReadingBudget", "<init>", "(Lcom/example/palamedes/palamedes/core/ReadingBounds;)V"⟩ : MethodName) prog_25_method_2_code 2 none :: ws) ({ frames := 1, cells := 0, slots := 0, locals := 12 } : Room)) (fun a U => a = #[(.ref a1), (.ref b)] ∧ Z.Warmed39 U.vm ∧ U.heap = h0) (fun _ _ _ _ _ => True) (fun _ U o U' => ∃ v L, o = .returned v ∧ QK Z a1 (.ref b) y n c h0 n0 v U'.heap L ∧ FrameEnd U o U' L ({ frames := 1, cells := 0, slots := 0, locals := 12 } : Room).cells ({ frames := 1, cells := 0, slots := 0, locals := 12 } : Room).slots) := by
  refine MetFree.of_bodySF (plainFor_of_name pn_com_example_palamedes_palamedes_core_ReadingBudget) hisR ?_
  intro p e s m args below meth kode s₁ Bd hml0 hP hK
  obtain ⟨rfl, hZ, hh⟩ := hP
  have hx := Bd.exec
  have hby := Bd.bytes
  have hml : kode.maxLocals = 2 := hml0
  have hown : s.vm.findClass "com/example/palamedes/palamedes/core/ReadingBudget" = some m.cls := findClass_of_methodNamed Bd.named
  have hnm := (name_of_methodNamed Bd.named Bd.method).1
  have X0 : Stand p l e ({ frames := 1, cells := 0, slots := 0, locals := 12 } : Room) s m #[(.ref a1), (.ref b)] below meth kode s₁ [] 0 0 := Stand.of_body Bd
  have e0 : s₁.heap = h0 := by rw [← hh, Bd.state]; rfl
  have N0 := Fr.nil n0
  have pre0 : ∀ t, Steps p.tables e below (s₁.setTop (mkF m 0 #[.val (.ref a1), .val (.ref b)] [])) t → Steps p.tables e below (s₁.setTop (entryFrame m #[(.ref a1), (.ref b)] 2)) t := fun t k => castTop (ef_2 m a1 b) k
  obtain ⟨E_a1, Fbounds_a1, Fbytes_a1, FaliasNodes_a1, FaliasCharacters_a1⟩ := B
  have k1 := fun (t : State) (kt : Steps p.tables e below (s₁.setTop (mkF m 1 #[.val (.ref a1), .val (.ref b)] [(.ref a1)])) t) => pre0 t (by
    refine XS.aloadN X0.here hx rfl (hb hby d2_0) rfl rfl ?_
    show Steps p.tables e below (s₁.setTop (mkF m 1 #[.val (.ref a1), .val (.ref b)] [(.ref a1)])) _
    exact kt)
  obtain ⟨T2, X2, e2, st2⟩ := initO X0 hx hZ hown (hw _ (List.mem_of_getElem? (i := 13) rfl)) (hw _ (List.mem_of_getElem? (i := 14) rfl)) (hw _ (List.mem_of_getElem? (i := 15) rfl)) e0 (g := (mkF m 1 #[.val (.ref a1), .val (.ref b)] [(.ref a1)])) rfl (by rw [hml]; rfl) rfl (hb hby d2_1) (by decide) (W := 0) (by show 2 * 0 + _ ≤ _; exact Nat.le_of_eq rfl) (by decide)
  have k3 := fun (t : State) (kt : Steps p.tables e below (T2.setTop (mkF m 6 #[.val (.ref a1), .val (.ref b)] [(.ref b), (.ref a1)])) t) => k1 t (by
    refine st2 _ ?_
    show Steps p.tables e below (T2.setTop (mkF m 4 #[.val (.ref a1), .val (.ref b)] [])) _
    refine XS.aloadN X2.here hx rfl (hb hby d2_4) rfl rfl ?_
    show Steps p.tables e below (T2.setTop (mkF m 5 #[.val (.ref a1), .val (.ref b)] [(.ref a1)])) _
    refine XS.aloadN X2.here hx rfl (hb hby d2_5) rfl rfl ?_
    show Steps p.tables e below (T2.setTop (mkF m 6 #[.val (.ref a1), .val (.ref b)] [(.ref b), (.ref a1)])) _
    exact kt)
  obtain ⟨T4, h4, X4, e4, W4, st4⟩ := putF X2 hx hZ hown (host := "") (Or.inl (hw _ (List.mem_of_getElem? (i := 16) rfl))) Via.refl e2 Fbounds_a1 E_a1 (Or.inr ⟨(hw _ (List.mem_of_getElem? (i := 17) rfl)), rfl, hnm⟩) (hw _ (List.mem_of_getElem? (i := 2) rfl)) (ty := (.object "com/example/palamedes/palamedes/core/ReadingBounds")) (by decide) rfl rfl (g := (mkF m 6 #[.val (.ref a1), .val (.ref b)] [(.ref b), (.ref a1)])) rfl rfl (hb hby d2_6)
  have E_a1_e4 := E_a1.wr W4
  have Fbytes_a1_e4 := Fbytes_a1.other W4 (Or.inr (slot_ne (Or.inl (hw _ (List.mem_of_getElem? (i := 31) rfl))) (Or.inr (hw _ (List.mem_of_getElem? (i := 17) rfl))) (by decide) (t := .long) (t' := (.object "com/example/palamedes/palamedes/core/ReadingBounds")) (by decide) (by decide)))
  have FaliasNodes_a1_e4 := FaliasNodes_a1.other W4 (Or.inr (slot_ne (Or.inl (hw _ (List.mem_of_getElem? (i := 61) rfl))) (Or.inr (hw _ (List.mem_of_getElem? (i := 17) rfl))) (by decide) (t := .long) (t' := (.object "com/example/palamedes/palamedes/core/ReadingBounds")) (by decide) (by decide)))
  have FaliasCharacters_a1_e4 := FaliasCharacters_a1.other W4 (Or.inr (slot_ne (Or.inl (hw _ (List.mem_of_getElem? (i := 68) rfl))) (Or.inr (hw _ (List.mem_of_getElem? (i := 17) rfl))) (by decide) (t := .long) (t' := (.object "com/example/palamedes/palamedes/core/ReadingBounds")) (by decide) (by decide)))
  have N4 := Fr.snoc X4 N0 g_a1
  have O4 := O0.wr W4 g_a1
  have K4 : Keep h0 h4 [a1] := (Keep.refl h0 [a1]).wr W4 (Or.inl (List.mem_of_getElem? (i := 0) rfl))
  have Fbounds_4 := Fbounds_a1.same W4
  have k5 := fun (t : State) (kt : Steps p.tables e below (T4.setTop (mkF m 9 #[.val (.ref a1), .val (.ref b)] [])) t) => k3 t (by
    refine st4 _ ?_
    show Steps p.tables e below (T4.setTop (mkF m 9 #[.val (.ref a1), .val (.ref b)] [])) _
    exact kt)
  obtain ⟨frs, hr, hrun, hended, hW, hsame⟩ := X4.leave (v := none) (fun _ => rfl)
  refine ⟨_, _, k5 _ ?_, hrun, hended, _, _, rfl, ?_, ⟨_, rfl⟩, hW, hsame.mono (by decide) (by decide)⟩
  · exact X4.returnOut hx Bd.returns (hb hby d2_9) hr
  · show QK Z a1 (.ref b) y n c h0 n0 _ T4.heap _
    rw [e4]
    exact ⟨rfl, N4, K4, ⟨E_a1_e4, Fbounds_4, Fbytes_a1_e4, FaliasNodes_a1_e4, FaliasCharacters_a1_e4⟩⟩

theorem d1_0 : decode prog_25_method_1_code 0 = .ok (.aload_n 0, 1) := by decide +kernel
theorem d1_1 : decode prog_25_method_1_code 1 = .ok (.getstatic 1, 3) := by decide +kernel
theorem d1_4 : decode prog_25_method_1_code 4 = .ok (.invokespecial 7, 3) := by decide +kernel
theorem d1_7 : decode prog_25_method_1_code 7 = .ok (.return_, 1) := by decide +kernel
theorem pd_0 : parseMethodDescriptor "(Lcom/example/palamedes/palamedes/core/ReadingBounds;)V" = some ⟨[(.object "com/example/palamedes/palamedes/core/ReadingBounds")], none⟩ := by decide +kernel
theorem ef_1 (m : MethodId) (x0 : Addr) : entryFrame m #[(.ref x0)] 1 = mkF m 0 #[.val (.ref x0)] [] := by first | (simp [entryFrame, mkF, argsToLocals, Value.category]; done) | rfl
set_option maxRecDepth 65536 in
set_option maxHeartbeats 40000000 in
theorem rm1 (l : Launch) (Z : State) (a0 : Array Value) (hw : ∀ d ∈ tables_1, d.before a0 Z = true) (ws : List Jvm.Cond) (a1 b : Addr) (y n c : Int64) (h0 : Heap) (n0 : Nat) (O0 : Old Z n0 h0) (g_a1 : n0 ≤ a1) (B : OB Z h0 a1 .null y n c) (S_D : Sta Z Z.heap "com/example/palamedes/palamedes/core/ReadingBounds" "DEFAULTS" "Lcom/example/palamedes/palamedes/core/ReadingBounds;" (.ref b)) :
    MetFree l (⟨"com/example/palamedes/palamedes/core/ReadingBudget", "<init>", "()V"⟩ : MethodName) (head1 (Jvm.Cond.code (⟨"com/example/palamedes/palamedes/core/ReadingBudget", "<init>", "()V"⟩ : MethodName) prog_25_method_1_code 1 none :: ws) ({ frames := 2, cells := 0, slots := 0, locals := 25 } : Room)) (fun a U => a = #[(.ref a1)] ∧ Z.Warmed39 U.vm ∧ U.heap = h0) (fun _ _ _ _ _ => True) (fun _ U o U' => ∃ v L, o = .returned v ∧ QK Z a1 (.ref b) y n c h0 n0 v U'.heap L ∧ FrameEnd U o U' L ({ frames := 2, cells := 0, slots := 0, locals := 25 } : Room).cells ({ frames := 2, cells := 0, slots := 0, locals := 25 } : Room).slots) := by
  refine MetFree.of_bodySF (plainFor_of_name pn_com_example_palamedes_palamedes_core_ReadingBudget) hisR ?_
  intro p e s m args below meth kode s₁ Bd hml0 hP hK
  obtain ⟨rfl, hZ, hh⟩ := hP
  have hx := Bd.exec
  have hby := Bd.bytes
  have hml : kode.maxLocals = 1 := hml0
  have hown : s.vm.findClass "com/example/palamedes/palamedes/core/ReadingBudget" = some m.cls := findClass_of_methodNamed Bd.named
  have hnm := (name_of_methodNamed Bd.named Bd.method).1
  have X0 : Stand p l e ({ frames := 2, cells := 0, slots := 0, locals := 25 } : Room) s m #[(.ref a1)] below meth kode s₁ [] 0 0 := Stand.of_body Bd
  have e0 : s₁.heap = h0 := by rw [← hh, Bd.state]; rfl
  have N0 := Fr.nil n0
  have pre0 : ∀ t, Steps p.tables e below (s₁.setTop (mkF m 0 #[.val (.ref a1)] [])) t → Steps p.tables e below (s₁.setTop (entryFrame m #[(.ref a1)] 1)) t := fun t k => castTop (ef_1 m a1) k
  obtain ⟨E_a1, Fbounds_a1, Fbytes_a1, FaliasNodes_a1, FaliasCharacters_a1⟩ := B
  have k1 := fun (t : State) (kt : Steps p.tables e below (s₁.setTop (mkF m 1 #[.val (.ref a1)] [(.ref a1)])) t) => pre0 t (by
    refine XS.aloadN X0.here hx rfl (hb hby d1_0) rfl rfl ?_
    show Steps p.tables e below (s₁.setTop (mkF m 1 #[.val (.ref a1)] [(.ref a1)])) _
    exact kt)
  obtain ⟨T2, X2, e2, st2⟩ := getS2 X0 hx hZ hown (host := "") (Or.inl (hw _ (List.mem_of_getElem? (i := 7) rfl))) Via.refl e0 (S_D.ext O0.2) (g := (mkF m 1 #[.val (.ref a1)] [(.ref a1)])) rfl (hb hby d1_1)
  have k3 := fun (t : State) (kt : Steps p.tables e below (T2.setTop (mkF m 4 #[.val (.ref a1)] [(.ref b), (.ref a1)])) t) => k1 t (by
    refine st2 _ ?_
    show Steps p.tables e below (T2.setTop (mkF m 4 #[.val (.ref a1)] [(.ref b), (.ref a1)])) _
    exact kt)
  obtain ⟨_, _, ⟨T4, L4, k4, n4⟩, -, X4, ⟨Lc4, hQ4, l4, y4, z4⟩, st4⟩ := X2.specialBack hx (y := (⟨"com/example/palamedes/palamedes/core/ReadingBudget", "<init>", "(Lcom/example/palamedes/palamedes/core/ReadingBounds;)V"⟩ : MethodName)) rfl hown (mvT hZ (hw _ (List.mem_of_getElem? (i := 10) rfl))) (mvT hZ (hw _ (List.mem_of_getElem? (i := 11) rfl))) (mvT hZ (hw _ (List.mem_of_getElem? (i := 12) rfl))) (by decide) (backOf (W := 0) (rm2 l Z a0 hw [] a1 b y n c h0 n0 O0 g_a1 ⟨E_a1, Fbounds_a1, Fbytes_a1, FaliasNodes_a1, FaliasCharacters_a1⟩) hZ (hw _ (List.mem_of_getElem? (i := 12) rfl)) (hw _ (List.mem_of_getElem? (i := 3) rfl)) (by decide) (by decide)) (g := (mkF m 4 #[.val (.ref a1)] [(.ref b), (.ref a1)])) rfl (by rw [hml]; rfl) (Steps.refl _) (a := a1) (argsL := [(.ref b)]) (rest := []) (lenOf pd_0 rfl) rfl (by show 2 * 0 + _ ≤ _; exact Nat.le_of_eq rfl) (hb hby d1_4) (fun _ _ => ⟨rfl, e2, (by decide : 0 + 0 ≤ _), (by decide : 0 + 0 ≤ _)⟩)
  dsimp only [Pt.U, Pt.locs, Pt.cells, Pt.slots] at X4 l4 y4 z4 st4 hQ4
  subst l4 y4 z4
  obtain ⟨rfl, Nq4, Kq4, Bq4⟩ := hQ4
  have N4 := Fr.app N0 Nq4
  obtain ⟨E_a1_4, Fbounds_a1_4, Fbytes_a1_4, FaliasNodes_a1_4, FaliasCharacters_a1_4⟩ := Bq4
  have K4 := Kq4
  have E_a1_e4 := E_a1.keep K4
  have O4 := O0.keep K4 (allS g_a1 all0)
  have KK4 : Keep h0 T4.heap [a1] := (Keep.refl h0 [a1]).trans K4 (allS (Or.inl (List.mem_of_getElem? (i := 0) rfl)) all0)
  have k5 := fun (t : State) (kt : Steps p.tables e below (T4.setTop (mkF m 7 #[.val (.ref a1)] [])) t) => k3 t (by
    refine st4.trans ?_
    show Steps p.tables e below (T4.setTop (mkF m 7 #[.val (.ref a1)] [])) _
    exact kt)
  obtain ⟨frs, hr, hrun, hended, hW, hsame⟩ := X4.leave (v := none) (fun _ => rfl)
  refine ⟨_, _, k5 _ ?_, hrun, hended, _, _, rfl, ?_, ⟨_, rfl⟩, hW, hsame.mono (by decide) (by decide)⟩
  · exact X4.returnOut hx Bd.returns (hb hby d1_7) hr
  · show QK Z a1 (.ref b) y n c h0 n0 _ T4.heap _
    exact ⟨rfl, N4, KK4, ⟨E_a1_4, Fbounds_a1_4, Fbytes_a1_4, FaliasNodes_a1_4, FaliasCharacters_a1_4⟩⟩

def QI (x : Int32) (h0 : Heap) (n0 : Nat) (v : Option Value) (h : Heap) (L : List Loc) : Prop := v = some (.int x) ∧ Fr n0 L ∧ h = h0
def QJ (x : Int64) (h0 : Heap) (n0 : Nat) (v : Option Value) (h : Heap) (L : List Loc) : Prop := v = some (.long x) ∧ Fr n0 L ∧ h = h0

theorem d5_0 : decode prog_24_method_5_code 0 = .ok (.aload_n 0, 1) := by decide +kernel
theorem d5_1 : decode prog_24_method_5_code 1 = .ok (.getfield 9, 3) := by decide +kernel
theorem d5_4 : decode prog_24_method_5_code 4 = .ok (.ireturn, 1) := by decide +kernel
theorem pn_com_example_palamedes_palamedes_core_ReadingBounds : plainName "com/example/palamedes/palamedes/core/ReadingBounds" = true := by first | (simp [plainName, overriddenIn]; done) | decide +kernel
theorem ef_5 (m : MethodId) (x0 : Addr) : entryFrame m #[(.ref x0)] 1 = mkF m 0 #[.val (.ref x0)] [] := by first | (simp [entryFrame, mkF, argsToLocals, Value.category]; done) | rfl
set_option maxRecDepth 65536 in
set_option maxHeartbeats 40000000 in
theorem rm5 (l : Launch) (Z : State) (a0 : Array Value) (hw : ∀ d ∈ tables_1, d.before a0 Z = true) (ws : List Jvm.Cond) (a1 : Addr) (x : Int32) (h0 : Heap) (n0 : Nat) (O0 : Old Z n0 h0) (F1 : Fld Z h0 a1 "com/example/palamedes/palamedes/core/ReadingBounds" "fileSize" "I" (.int x)) :
    MetFree l (⟨"com/example/palamedes/palamedes/core/ReadingBounds", "fileSize", "()I"⟩ : MethodName) (head1 (Jvm.Cond.code (⟨"com/example/palamedes/palamedes/core/ReadingBounds", "fileSize", "()I"⟩ : MethodName) prog_24_method_5_code 1 (some .int) :: ws) ({ frames := 0, cells := 0, slots := 0, locals := 0 } : Room)) (fun a U => a = #[(.ref a1)] ∧ Z.Warmed39 U.vm ∧ U.heap = h0) (fun _ _ _ _ _ => True) (fun _ U o U' => ∃ v L, o = .returned v ∧ QI x h0 n0 v U'.heap L ∧ FrameEnd U o U' L ({ frames := 0, cells := 0, slots := 0, locals := 0 } : Room).cells ({ frames := 0, cells := 0, slots := 0, locals := 0 } : Room).slots) := by
  refine MetFree.of_bodySF (plainFor_of_name pn_com_example_palamedes_palamedes_core_ReadingBounds) hisR ?_
  intro p e s m args below meth kode s₁ Bd hml0 hP hK
  obtain ⟨rfl, hZ, hh⟩ := hP
  have hx := Bd.exec
  have hby := Bd.bytes
  have hml : kode.maxLocals = 1 := hml0
  have hown : s.vm.findClass "com/example/palamedes/palamedes/core/ReadingBounds" = some m.cls := findClass_of_methodNamed Bd.named
  have hnm := (name_of_methodNamed Bd.named Bd.method).1
  have X0 : Stand p l e ({ frames := 0, cells := 0, slots := 0, locals := 0 } : Room) s m #[(.ref a1)] below meth kode s₁ [] 0 0 := Stand.of_body Bd
  have e0 : s₁.heap = h0 := by rw [← hh, Bd.state]; rfl
  have N0 := Fr.nil n0
  have pre0 : ∀ t, Steps p.tables e below (s₁.setTop (mkF m 0 #[.val (.ref a1)] [])) t → Steps p.tables e below (s₁.setTop (entryFrame m #[(.ref a1)] 1)) t := fun t k => castTop (ef_5 m a1) k
  have k1 := fun (t : State) (kt : Steps p.tables e below (s₁.setTop (mkF m 1 #[.val (.ref a1)] [(.ref a1)])) t) => pre0 t (by
    refine XS.aloadN X0.here hx rfl (hb hby d5_0) rfl rfl ?_
    show Steps p.tables e below (s₁.setTop (mkF m 1 #[.val (.ref a1)] [(.ref a1)])) _
    exact kt)
  obtain ⟨T2, X2, e2, st2⟩ := getF X0 hx hZ hown (host := "") (Or.inl (hw _ (List.mem_of_getElem? (i := 28) rfl))) Via.refl e0 F1 (g := (mkF m 1 #[.val (.ref a1)] [(.ref a1)])) rfl rfl (hb hby d5_1)
  have k3 := fun (t : State) (kt : Steps p.tables e below (T2.setTop (mkF m 4 #[.val (.ref a1)] [(.int x)])) t) => k1 t (by
    refine st2 _ ?_
    show Steps p.tables e below (T2.setTop (mkF m 4 #[.val (.ref a1)] [(.int x)])) _
    exact kt)
  obtain ⟨frs, hr, hrun, hended, hW, hsame⟩ := X2.leave (v := some (.int x)) (fun h => by rw [Bd.returns] at h; cases h)
  refine ⟨_, _, k3 _ ?_, hrun, hended, _, _, rfl, ?_, ⟨_, rfl⟩, hW, hsame.mono (by decide) (by decide)⟩
  · exact retI X2 hx Bd.returns (hb hby d5_4) hr
  · show QI x h0 n0 _ T2.heap _
    rw [e2]
    exact ⟨rfl, N0, rfl⟩

theorem d8_0 : decode prog_24_method_7_code 0 = .ok (.aload_n 0, 1) := by decide +kernel
theorem d8_1 : decode prog_24_method_7_code 1 = .ok (.getfield 18, 3) := by decide +kernel
theorem d8_4 : decode prog_24_method_7_code 4 = .ok (.ireturn, 1) := by decide +kernel
theorem ef_8 (m : MethodId) (x0 : Addr) : entryFrame m #[(.ref x0)] 1 = mkF m 0 #[.val (.ref x0)] [] := by first | (simp [entryFrame, mkF, argsToLocals, Value.category]; done) | rfl
set_option maxRecDepth 65536 in
set_option maxHeartbeats 40000000 in
theorem rm8 (l : Launch) (Z : State) (a0 : Array Value) (hw : ∀ d ∈ tables_1, d.before a0 Z = true) (ws : List Jvm.Cond) (a1 : Addr) (x : Int32) (h0 : Heap) (n0 : Nat) (O0 : Old Z n0 h0) (F1 : Fld Z h0 a1 "com/example/palamedes/palamedes/core/ReadingBounds" "aliasNodes" "I" (.int x)) :
    MetFree l (⟨"com/example/palamedes/palamedes/core/ReadingBounds", "aliasNodes", "()I"⟩ : MethodName) (head1 (Jvm.Cond.code (⟨"com/example/palamedes/palamedes/core/ReadingBounds", "aliasNodes", "()I"⟩ : MethodName) prog_24_method_7_code 1 (some .int) :: ws) ({ frames := 0, cells := 0, slots := 0, locals := 0 } : Room)) (fun a U => a = #[(.ref a1)] ∧ Z.Warmed39 U.vm ∧ U.heap = h0) (fun _ _ _ _ _ => True) (fun _ U o U' => ∃ v L, o = .returned v ∧ QI x h0 n0 v U'.heap L ∧ FrameEnd U o U' L ({ frames := 0, cells := 0, slots := 0, locals := 0 } : Room).cells ({ frames := 0, cells := 0, slots := 0, locals := 0 } : Room).slots) := by
  refine MetFree.of_bodySF (plainFor_of_name pn_com_example_palamedes_palamedes_core_ReadingBounds) hisR ?_
  intro p e s m args below meth kode s₁ Bd hml0 hP hK
  obtain ⟨rfl, hZ, hh⟩ := hP
  have hx := Bd.exec
  have hby := Bd.bytes
  have hml : kode.maxLocals = 1 := hml0
  have hown : s.vm.findClass "com/example/palamedes/palamedes/core/ReadingBounds" = some m.cls := findClass_of_methodNamed Bd.named
  have hnm := (name_of_methodNamed Bd.named Bd.method).1
  have X0 : Stand p l e ({ frames := 0, cells := 0, slots := 0, locals := 0 } : Room) s m #[(.ref a1)] below meth kode s₁ [] 0 0 := Stand.of_body Bd
  have e0 : s₁.heap = h0 := by rw [← hh, Bd.state]; rfl
  have N0 := Fr.nil n0
  have pre0 : ∀ t, Steps p.tables e below (s₁.setTop (mkF m 0 #[.val (.ref a1)] [])) t → Steps p.tables e below (s₁.setTop (entryFrame m #[(.ref a1)] 1)) t := fun t k => castTop (ef_8 m a1) k
  have k1 := fun (t : State) (kt : Steps p.tables e below (s₁.setTop (mkF m 1 #[.val (.ref a1)] [(.ref a1)])) t) => pre0 t (by
    refine XS.aloadN X0.here hx rfl (hb hby d8_0) rfl rfl ?_
    show Steps p.tables e below (s₁.setTop (mkF m 1 #[.val (.ref a1)] [(.ref a1)])) _
    exact kt)
  obtain ⟨T2, X2, e2, st2⟩ := getF X0 hx hZ hown (host := "") (Or.inl (hw _ (List.mem_of_getElem? (i := 58) rfl))) Via.refl e0 F1 (g := (mkF m 1 #[.val (.ref a1)] [(.ref a1)])) rfl rfl (hb hby d8_1)
  have k3 := fun (t : State) (kt : Steps p.tables e below (T2.setTop (mkF m 4 #[.val (.ref a1)] [(.int x)])) t) => k1 t (by
    refine st2 _ ?_
    show Steps p.tables e below (T2.setTop (mkF m 4 #[.val (.ref a1)] [(.int x)])) _
    exact kt)
  obtain ⟨frs, hr, hrun, hended, hW, hsame⟩ := X2.leave (v := some (.int x)) (fun h => by rw [Bd.returns] at h; cases h)
  refine ⟨_, _, k3 _ ?_, hrun, hended, _, _, rfl, ?_, ⟨_, rfl⟩, hW, hsame.mono (by decide) (by decide)⟩
  · exact retI X2 hx Bd.returns (hb hby d8_4) hr
  · show QI x h0 n0 _ T2.heap _
    rw [e2]
    exact ⟨rfl, N0, rfl⟩

theorem d9_0 : decode prog_24_method_8_code 0 = .ok (.aload_n 0, 1) := by decide +kernel
theorem d9_1 : decode prog_24_method_8_code 1 = .ok (.getfield 9, 3) := by decide +kernel
theorem d9_4 : decode prog_24_method_8_code 4 = .ok (.ireturn, 1) := by decide +kernel
theorem ef_9 (m : MethodId) (x0 : Addr) : entryFrame m #[(.ref x0)] 1 = mkF m 0 #[.val (.ref x0)] [] := by first | (simp [entryFrame, mkF, argsToLocals, Value.category]; done) | rfl
set_option maxRecDepth 65536 in
set_option maxHeartbeats 40000000 in
theorem rm9 (l : Launch) (Z : State) (a0 : Array Value) (hw : ∀ d ∈ tables_1, d.before a0 Z = true) (ws : List Jvm.Cond) (a1 : Addr) (x : Int32) (h0 : Heap) (n0 : Nat) (O0 : Old Z n0 h0) (F1 : Fld Z h0 a1 "com/example/palamedes/palamedes/core/ReadingBounds" "fileSize" "I" (.int x)) :
    MetFree l (⟨"com/example/palamedes/palamedes/core/ReadingBounds", "aliasCharacters", "()I"⟩ : MethodName) (head1 (Jvm.Cond.code (⟨"com/example/palamedes/palamedes/core/ReadingBounds", "aliasCharacters", "()I"⟩ : MethodName) prog_24_method_8_code 1 (some .int) :: ws) ({ frames := 0, cells := 0, slots := 0, locals := 0 } : Room)) (fun a U => a = #[(.ref a1)] ∧ Z.Warmed39 U.vm ∧ U.heap = h0) (fun _ _ _ _ _ => True) (fun _ U o U' => ∃ v L, o = .returned v ∧ QI x h0 n0 v U'.heap L ∧ FrameEnd U o U' L ({ frames := 0, cells := 0, slots := 0, locals := 0 } : Room).cells ({ frames := 0, cells := 0, slots := 0, locals := 0 } : Room).slots) := by
  refine MetFree.of_bodySF (plainFor_of_name pn_com_example_palamedes_palamedes_core_ReadingBounds) hisR ?_
  intro p e s m args below meth kode s₁ Bd hml0 hP hK
  obtain ⟨rfl, hZ, hh⟩ := hP
  have hx := Bd.exec
  have hby := Bd.bytes
  have hml : kode.maxLocals = 1 := hml0
  have hown : s.vm.findClass "com/example/palamedes/palamedes/core/ReadingBounds" = some m.cls := findClass_of_methodNamed Bd.named
  have hnm := (name_of_methodNamed Bd.named Bd.method).1
  have X0 : Stand p l e ({ frames := 0, cells := 0, slots := 0, locals := 0 } : Room) s m #[(.ref a1)] below meth kode s₁ [] 0 0 := Stand.of_body Bd
  have e0 : s₁.heap = h0 := by rw [← hh, Bd.state]; rfl
  have N0 := Fr.nil n0
  have pre0 : ∀ t, Steps p.tables e below (s₁.setTop (mkF m 0 #[.val (.ref a1)] [])) t → Steps p.tables e below (s₁.setTop (entryFrame m #[(.ref a1)] 1)) t := fun t k => castTop (ef_9 m a1) k
  have k1 := fun (t : State) (kt : Steps p.tables e below (s₁.setTop (mkF m 1 #[.val (.ref a1)] [(.ref a1)])) t) => pre0 t (by
    refine XS.aloadN X0.here hx rfl (hb hby d9_0) rfl rfl ?_
    show Steps p.tables e below (s₁.setTop (mkF m 1 #[.val (.ref a1)] [(.ref a1)])) _
    exact kt)
  obtain ⟨T2, X2, e2, st2⟩ := getF X0 hx hZ hown (host := "") (Or.inl (hw _ (List.mem_of_getElem? (i := 28) rfl))) Via.refl e0 F1 (g := (mkF m 1 #[.val (.ref a1)] [(.ref a1)])) rfl rfl (hb hby d9_1)
  have k3 := fun (t : State) (kt : Steps p.tables e below (T2.setTop (mkF m 4 #[.val (.ref a1)] [(.int x)])) t) => k1 t (by
    refine st2 _ ?_
    show Steps p.tables e below (T2.setTop (mkF m 4 #[.val (.ref a1)] [(.int x)])) _
    exact kt)
  obtain ⟨frs, hr, hrun, hended, hW, hsame⟩ := X2.leave (v := some (.int x)) (fun h => by rw [Bd.returns] at h; cases h)
  refine ⟨_, _, k3 _ ?_, hrun, hended, _, _, rfl, ?_, ⟨_, rfl⟩, hW, hsame.mono (by decide) (by decide)⟩
  · exact retI X2 hx Bd.returns (hb hby d9_4) hr
  · show QI x h0 n0 _ T2.heap _
    rw [e2]
    exact ⟨rfl, N0, rfl⟩

theorem d4_0 : decode prog_25_method_5_code 0 = .ok (.aload_n 0, 1) := by decide +kernel
theorem d4_1 : decode prog_25_method_5_code 1 = .ok (.getfield 18, 3) := by decide +kernel
theorem d4_4 : decode prog_25_method_5_code 4 = .ok (.invokevirtual 43, 3) := by decide +kernel
theorem d4_7 : decode prog_25_method_5_code 7 = .ok (.i2l, 1) := by decide +kernel
theorem d4_8 : decode prog_25_method_5_code 8 = .ok (.aload_n 0, 1) := by decide +kernel
theorem d4_9 : decode prog_25_method_5_code 9 = .ok (.getfield 47, 3) := by decide +kernel
theorem d4_12 : decode prog_25_method_5_code 12 = .ok (.lsub, 1) := by decide +kernel
theorem d4_13 : decode prog_25_method_5_code 13 = .ok (.lreturn, 1) := by decide +kernel
theorem pd_1 : parseMethodDescriptor "()I" = some ⟨[], some .int⟩ := by decide +kernel
theorem ef_4 (m : MethodId) (x0 : Addr) : entryFrame m #[(.ref x0)] 1 = mkF m 0 #[.val (.ref x0)] [] := by first | (simp [entryFrame, mkF, argsToLocals, Value.category]; done) | rfl
set_option maxRecDepth 65536 in
set_option maxHeartbeats 40000000 in
theorem rm4 (l : Launch) (Z : State) (a0 : Array Value) (hw : ∀ d ∈ tables_1, d.before a0 Z = true) (ws : List Jvm.Cond) (a1 b : Addr) (y n c : Int64) (fs an : Int32) (h0 : Heap) (n0 : Nat) (O0 : Old Z n0 h0) (B : OB Z h0 a1 (.ref b) y n c) (E_b : Exa Z Z.heap b "com/example/palamedes/palamedes/core/ReadingBounds") (FfileSize_b : Fld Z Z.heap b "com/example/palamedes/palamedes/core/ReadingBounds" "fileSize" "I" (.int fs)) (FaliasNodes_b : Fld Z Z.heap b "com/example/palamedes/palamedes/core/ReadingBounds" "aliasNodes" "I" (.int an)) :
    MetFree l (⟨"com/example/palamedes/palamedes/core/ReadingBudget", "bytesLeft", "()J"⟩ : MethodName) (head1 (Jvm.Cond.code (⟨"com/example/palamedes/palamedes/core/ReadingBudget", "bytesLeft", "()J"⟩ : MethodName) prog_25_method_5_code 1 (some .long) :: ws) ({ frames := 1, cells := 0, slots := 0, locals := 12 } : Room)) (fun a U => a = #[(.ref a1)] ∧ Z.Warmed39 U.vm ∧ U.heap = h0) (fun _ _ _ _ _ => True) (fun _ U o U' => ∃ v L, o = .returned v ∧ QJ (fs.toInt64 - y) h0 n0 v U'.heap L ∧ FrameEnd U o U' L ({ frames := 1, cells := 0, slots := 0, locals := 12 } : Room).cells ({ frames := 1, cells := 0, slots := 0, locals := 12 } : Room).slots) := by
  refine MetFree.of_bodySF (plainFor_of_name pn_com_example_palamedes_palamedes_core_ReadingBudget) hisR ?_
  intro p e s m args below meth kode s₁ Bd hml0 hP hK
  obtain ⟨rfl, hZ, hh⟩ := hP
  have hx := Bd.exec
  have hby := Bd.bytes
  have hml : kode.maxLocals = 1 := hml0
  have hown : s.vm.findClass "com/example/palamedes/palamedes/core/ReadingBudget" = some m.cls := findClass_of_methodNamed Bd.named
  have hnm := (name_of_methodNamed Bd.named Bd.method).1
  have X0 : Stand p l e ({ frames := 1, cells := 0, slots := 0, locals := 12 } : Room) s m #[(.ref a1)] below meth kode s₁ [] 0 0 := Stand.of_body Bd
  have e0 : s₁.heap = h0 := by rw [← hh, Bd.state]; rfl
  have N0 := Fr.nil n0
  have pre0 : ∀ t, Steps p.tables e below (s₁.setTop (mkF m 0 #[.val (.ref a1)] [])) t → Steps p.tables e below (s₁.setTop (entryFrame m #[(.ref a1)] 1)) t := fun t k => castTop (ef_4 m a1) k
  obtain ⟨E_a1, Fbounds_a1, Fbytes_a1, FaliasNodes_a1, FaliasCharacters_a1⟩ := B
  have k1 := fun (t : State) (kt : Steps p.tables e below (s₁.setTop (mkF m 1 #[.val (.ref a1)] [(.ref a1)])) t) => pre0 t (by
    refine XS.aloadN X0.here hx rfl (hb hby d4_0) rfl rfl ?_
    show Steps p.tables e below (s₁.setTop (mkF m 1 #[.val (.ref a1)] [(.ref a1)])) _
    exact kt)
  obtain ⟨T2, X2, e2, st2⟩ := getF X0 hx hZ hown (host := "") (Or.inl (hw _ (List.mem_of_getElem? (i := 16) rfl))) Via.refl e0 Fbounds_a1 (g := (mkF m 1 #[.val (.ref a1)] [(.ref a1)])) rfl rfl (hb hby d4_1)
  have k3 := fun (t : State) (kt : Steps p.tables e below (T2.setTop (mkF m 4 #[.val (.ref a1)] [(.ref b)])) t) => k1 t (by
    refine st2 _ ?_
    show Steps p.tables e below (T2.setTop (mkF m 4 #[.val (.ref a1)] [(.ref b)])) _
    exact kt)
  obtain ⟨cq4, kq4, q4a, q4b, q4c⟩ := isOf hZ e2 (E_b.ext O0.2)
  obtain ⟨_, _, ⟨T4, L4, k4, n4⟩, -, X4, ⟨Lc4, hQ4, l4, y4, z4⟩, st4⟩ := X2.virtualBack hx (y := (⟨"com/example/palamedes/palamedes/core/ReadingBounds", "fileSize", "()I"⟩ : MethodName)) (z := (⟨"com/example/palamedes/palamedes/core/ReadingBounds", "fileSize", "()I"⟩ : MethodName)) hown (mvT hZ (hw _ (List.mem_of_getElem? (i := 23) rfl))) (mvT hZ (hw _ (List.mem_of_getElem? (i := 24) rfl))) (notFace_of_selects (args := #[]) (mvT hZ (hw _ (List.mem_of_getElem? (i := 26) rfl)))) (mvT hZ (hw _ (List.mem_of_getElem? (i := 26) rfl))) (mvT hZ (hw _ (List.mem_of_getElem? (i := 25) rfl))) (by decide) (backOf (W := 0) (rm5 l Z a0 hw [] b fs h0 n0 O0 (FfileSize_b.ext O0.2)) hZ (hw _ (List.mem_of_getElem? (i := 27) rfl)) (hw _ (List.mem_of_getElem? (i := 8) rfl)) (by decide) (by decide)) q4a q4c (g := (mkF m 4 #[.val (.ref a1)] [(.ref b)])) rfl (by rw [hml]; rfl) (Steps.refl _) (argsL := []) (rest := []) (lenOf pd_1 rfl) rfl (by show 2 * 0 + _ ≤ _; exact Nat.le_of_eq rfl) (hb hby d4_4) (fun _ _ => ⟨rfl, e2, (by decide : 0 + 0 ≤ _), (by decide : 0 + 0 ≤ _)⟩)
  dsimp only [Pt.U, Pt.locs, Pt.cells, Pt.slots] at X4 l4 y4 z4 st4 hQ4
  subst l4 y4 z4
  obtain ⟨rfl, Nq4, eh4⟩ := hQ4
  have N4 := Fr.app N0 Nq4
  have k5 := fun (t : State) (kt : Steps p.tables e below (T4.setTop (mkF m 9 #[.val (.ref a1)] [(.ref a1), (.long (fs.toInt64))])) t) => k3 t (by
    refine st4.trans ?_
    show Steps p.tables e below (T4.setTop (mkF m 7 #[.val (.ref a1)] [(.int fs)])) _
    refine XS.i2l X4.here hx rfl (hb hby d4_7) rfl ?_
    show Steps p.tables e below (T4.setTop (mkF m 8 #[.val (.ref a1)] [(.long (fs.toInt64))])) _
    refine XS.aloadN X4.here hx rfl (hb hby d4_8) rfl rfl ?_
    show Steps p.tables e below (T4.setTop (mkF m 9 #[.val (.ref a1)] [(.ref a1), (.long (fs.toInt64))])) _
    exact kt)
  obtain ⟨T6, X6, e6, st6⟩ := getF X4 hx hZ hown (host := "") (Or.inl (hw _ (List.mem_of_getElem? (i := 30) rfl))) Via.refl eh4 Fbytes_a1 (g := (mkF m 9 #[.val (.ref a1)] [(.ref a1), (.long (fs.toInt64))])) rfl rfl (hb hby d4_9)
  have k7 := fun (t : State) (kt : Steps p.tables e below (T6.setTop (mkF m 13 #[.val (.ref a1)] [(.long ((fs.toInt64) - y))])) t) => k5 t (by
    refine st6 _ ?_
    show Steps p.tables e below (T6.setTop (mkF m 12 #[.val (.ref a1)] [(.long y), (.long (fs.toInt64))])) _
    refine XS.lsub X6.here hx rfl (hb hby d4_12) rfl ?_
    show Steps p.tables e below (T6.setTop (mkF m 13 #[.val (.ref a1)] [(.long ((fs.toInt64) - y))])) _
    exact kt)
  obtain ⟨frs, hr, hrun, hended, hW, hsame⟩ := X6.leave (v := some (.long ((fs.toInt64) - y))) (fun h => by rw [Bd.returns] at h; cases h)
  refine ⟨_, _, k7 _ ?_, hrun, hended, _, _, rfl, ?_, ⟨_, rfl⟩, hW, hsame.mono (by decide) (by decide)⟩
  · jvm_step X6.here [X6.here.top, hx, (hb hby d4_13), X6.method', Bd.returns, narrow]
    first | (intro acts; rw [hr _ acts rfl rfl rfl]) | rw [hr _ _ rfl rfl rfl]
    exact Steps.refl _
  · show QJ (fs.toInt64 - y) h0 n0 _ T6.heap _
    rw [e6]
    exact ⟨rfl, N4, rfl⟩

theorem d6_0 : decode prog_25_method_6_code 0 = .ok (.iload_n 2, 1) := by decide +kernel
theorem d6_1 : decode prog_25_method_6_code 1 = .ok (.i2l, 1) := by decide +kernel
theorem d6_2 : decode prog_25_method_6_code 2 = .ok (.aload_n 0, 1) := by decide +kernel
theorem d6_3 : decode prog_25_method_6_code 3 = .ok (.invokevirtual 51, 3) := by decide +kernel
theorem d6_6 : decode prog_25_method_6_code 6 = .ok (.lcmp, 1) := by decide +kernel
theorem d6_7 : decode prog_25_method_6_code 7 = .ok (.ifCond .le 26, 3) := by decide +kernel
theorem d6_33 : decode prog_25_method_6_code 33 = .ok (.aload_n 0, 1) := by decide +kernel
theorem d6_34 : decode prog_25_method_6_code 34 = .ok (.dup, 1) := by decide +kernel
theorem d6_35 : decode prog_25_method_6_code 35 = .ok (.getfield 47, 3) := by decide +kernel
theorem d6_38 : decode prog_25_method_6_code 38 = .ok (.iload_n 2, 1) := by decide +kernel
theorem d6_39 : decode prog_25_method_6_code 39 = .ok (.i2l, 1) := by decide +kernel
theorem d6_40 : decode prog_25_method_6_code 40 = .ok (.ladd, 1) := by decide +kernel
theorem d6_41 : decode prog_25_method_6_code 41 = .ok (.putfield 47, 3) := by decide +kernel
theorem d6_44 : decode prog_25_method_6_code 44 = .ok (.return_, 1) := by decide +kernel
theorem pd_2 : parseMethodDescriptor "()J" = some ⟨[], some .long⟩ := by decide +kernel
theorem ef_6 (m : MethodId) (x0 : Addr) (x1 : Addr) (x2 : Int32) : entryFrame m #[(.ref x0), (.ref x1), (.int x2)] 3 = mkF m 0 #[.val (.ref x0), .val (.ref x1), .val (.int x2)] [] := by first | (simp [entryFrame, mkF, argsToLocals, Value.category]; done) | rfl
set_option maxRecDepth 65536 in
set_option maxHeartbeats 40000000 in
theorem rm6 (l : Launch) (Z : State) (a0 : Array Value) (hw : ∀ d ∈ tables_1, d.before a0 Z = true) (ws : List Jvm.Cond) (a2 : Addr) (p3 : Int32) (a1 b : Addr) (y n c : Int64) (fs an : Int32) (h0 : Heap) (n0 : Nat) (O0 : Old Z n0 h0) (g_a1 : n0 ≤ a1) (B : OB Z h0 a1 (.ref b) y n c) (hle : ¬ (fs.toInt64 - y) < p3.toInt64) (E_b : Exa Z Z.heap b "com/example/palamedes/palamedes/core/ReadingBounds") (FfileSize_b : Fld Z Z.heap b "com/example/palamedes/palamedes/core/ReadingBounds" "fileSize" "I" (.int fs)) (FaliasNodes_b : Fld Z Z.heap b "com/example/palamedes/palamedes/core/ReadingBounds" "aliasNodes" "I" (.int an)) :
    MetFree l (⟨"com/example/palamedes/palamedes/core/ReadingBudget", "takeBytes", "(Ljava/lang/String;I)V"⟩ : MethodName) (head1 (Jvm.Cond.code (⟨"com/example/palamedes/palamedes/core/ReadingBudget", "takeBytes", "(Ljava/lang/String;I)V"⟩ : MethodName) prog_25_method_6_code 3 none :: ws) ({ frames := 2, cells := 0, slots := 0, locals := 26 } : Room)) (fun a U => a = #[(.ref a1), (.ref a2), (.int p3)] ∧ Z.Warmed39 U.vm ∧ U.heap = h0) (fun _ _ _ _ _ => True) (fun _ U o U' => ∃ v L, o = .returned v ∧ QK Z a1 (.ref b) (y + p3.toInt64) n c h0 n0 v U'.heap L ∧ FrameEnd U o U' L ({ frames := 2, cells := 0, slots := 0, locals := 26 } : Room).cells ({ frames := 2, cells := 0, slots := 0, locals := 26 } : Room).slots) := by
  refine MetFree.of_bodySF (plainFor_of_name pn_com_example_palamedes_palamedes_core_ReadingBudget) hisR ?_
  intro p e s m args below meth kode s₁ Bd hml0 hP hK
  obtain ⟨rfl, hZ, hh⟩ := hP
  have hx := Bd.exec
  have hby := Bd.bytes
  have hml : kode.maxLocals = 3 := hml0
  have hown : s.vm.findClass "com/example/palamedes/palamedes/core/ReadingBudget" = some m.cls := findClass_of_methodNamed Bd.named
  have hnm := (name_of_methodNamed Bd.named Bd.method).1
  have X0 : Stand p l e ({ frames := 2, cells := 0, slots := 0, locals := 26 } : Room) s m #[(.ref a1), (.ref a2), (.int p3)] below meth kode s₁ [] 0 0 := Stand.of_body Bd
  have e0 : s₁.heap = h0 := by rw [← hh, Bd.state]; rfl
  have N0 := Fr.nil n0
  have pre0 : ∀ t, Steps p.tables e below (s₁.setTop (mkF m 0 #[.val (.ref a1), .val (.ref a2), .val (.int p3)] [])) t → Steps p.tables e below (s₁.setTop (entryFrame m #[(.ref a1), (.ref a2), (.int p3)] 3)) t := fun t k => castTop (ef_6 m a1 a2 p3) k
  obtain ⟨E_a1, Fbounds_a1, Fbytes_a1, FaliasNodes_a1, FaliasCharacters_a1⟩ := B
  have k1 := fun (t : State) (kt : Steps p.tables e below (s₁.setTop (mkF m 3 #[.val (.ref a1), .val (.ref a2), .val (.int p3)] [(.ref a1), (.long (p3.toInt64))])) t) => pre0 t (by
    refine XS.iloadN X0.here hx rfl (hb hby d6_0) rfl ?_
    show Steps p.tables e below (s₁.setTop (mkF m 1 #[.val (.ref a1), .val (.ref a2), .val (.int p3)] [(.int p3)])) _
    refine XS.i2l X0.here hx rfl (hb hby d6_1) rfl ?_
    show Steps p.tables e below (s₁.setTop (mkF m 2 #[.val (.ref a1), .val (.ref a2), .val (.int p3)] [(.long (p3.toInt64))])) _
    refine XS.aloadN X0.here hx rfl (hb hby d6_2) rfl rfl ?_
    show Steps p.tables e below (s₁.setTop (mkF m 3 #[.val (.ref a1), .val (.ref a2), .val (.int p3)] [(.ref a1), (.long (p3.toInt64))])) _
    exact kt)
  obtain ⟨cq2, kq2, q2a, q2b, q2c⟩ := isOf hZ e0 E_a1
  obtain ⟨_, _, ⟨T2, L2, k2, n2⟩, -, X2, ⟨Lc2, hQ2, l2, y2, z2⟩, st2⟩ := X0.virtualBack hx (y := (⟨"com/example/palamedes/palamedes/core/ReadingBudget", "bytesLeft", "()J"⟩ : MethodName)) (z := (⟨"com/example/palamedes/palamedes/core/ReadingBudget", "bytesLeft", "()J"⟩ : MethodName)) hown (mvT hZ (hw _ (List.mem_of_getElem? (i := 46) rfl))) (mvT hZ (hw _ (List.mem_of_getElem? (i := 19) rfl))) (notFace_of_selects (args := #[]) (mvT hZ (hw _ (List.mem_of_getElem? (i := 21) rfl)))) (mvT hZ (hw _ (List.mem_of_getElem? (i := 21) rfl))) (mvT hZ (hw _ (List.mem_of_getElem? (i := 20) rfl))) (by decide) (backOf (W := 2) (rm4 l Z a0 hw [] a1 b y n c fs an h0 n0 O0 ⟨E_a1, Fbounds_a1, Fbytes_a1, FaliasNodes_a1, FaliasCharacters_a1⟩ E_b FfileSize_b FaliasNodes_b) hZ (hw _ (List.mem_of_getElem? (i := 22) rfl)) (hw _ (List.mem_of_getElem? (i := 3) rfl)) (by decide) (by decide)) q2a q2c (g := (mkF m 3 #[.val (.ref a1), .val (.ref a2), .val (.int p3)] [(.ref a1), (.long (p3.toInt64))])) rfl (by rw [hml]; rfl) (Steps.refl _) (argsL := []) (rest := [(.long (p3.toInt64))]) (lenOf pd_2 rfl) rfl (by show 2 * 0 + _ ≤ _; exact Nat.le_of_eq rfl) (hb hby d6_3) (fun _ _ => ⟨rfl, e0, (by decide : 0 + 0 ≤ _), (by decide : 0 + 0 ≤ _)⟩)
  dsimp only [Pt.U, Pt.locs, Pt.cells, Pt.slots] at X2 l2 y2 z2 st2 hQ2
  subst l2 y2 z2
  obtain ⟨rfl, Nq2, eh2⟩ := hQ2
  have N2 := Fr.app N0 Nq2
  have k3 := fun (t : State) (kt : Steps p.tables e below (T2.setTop (mkF m 7 #[.val (.ref a1), .val (.ref a2), .val (.int p3)] [(.int (lcmpW (p3.toInt64) ((fs.toInt64) - y)))])) t) => k1 t (by
    refine st2.trans ?_
    show Steps p.tables e below (T2.setTop (mkF m 6 #[.val (.ref a1), .val (.ref a2), .val (.int p3)] [(.long ((fs.toInt64) - y)), (.long (p3.toInt64))])) _
    refine XS.lcmp X2.here hx rfl (hb hby d6_6) rfl ?_
    show Steps p.tables e below (T2.setTop (mkF m 7 #[.val (.ref a1), .val (.ref a2), .val (.int p3)] [(.int (lcmpW (p3.toInt64) ((fs.toInt64) - y)))])) _
    exact kt)
  have k4 := fun (t : State) (kt : Steps p.tables e below (T2.setTop (mkF m 35 #[.val (.ref a1), .val (.ref a2), .val (.int p3)] [(.ref a1), (.ref a1)])) t) => k3 t (by
    refine XS.ifYes X2.here hx rfl (pc0 := 7) (pc' := 33) rfl (hb hby d6_7) rfl ((if0 _ _).trans (flt (fun q => hle ((lw_gt (p3.toInt64) ((fs.toInt64) - y)).mp q))).2.2.2) (by decide) (by decide) ?_
    show Steps p.tables e below (T2.setTop (mkF m 33 #[.val (.ref a1), .val (.ref a2), .val (.int p3)] [])) _
    refine XS.aloadN X2.here hx rfl (hb hby d6_33) rfl rfl ?_
    show Steps p.tables e below (T2.setTop (mkF m 34 #[.val (.ref a1), .val (.ref a2), .val (.int p3)] [(.ref a1)])) _
    refine XS.dup X2.here hx rfl (hb hby d6_34) rfl rfl ?_
    show Steps p.tables e below (T2.setTop (mkF m 35 #[.val (.ref a1), .val (.ref a2), .val (.int p3)] [(.ref a1), (.ref a1)])) _
    exact kt)
  obtain ⟨T5, X5, e5, st5⟩ := getF X2 hx hZ hown (host := "") (Or.inl (hw _ (List.mem_of_getElem? (i := 30) rfl))) Via.refl eh2 Fbytes_a1 (g := (mkF m 35 #[.val (.ref a1), .val (.ref a2), .val (.int p3)] [(.ref a1), (.ref a1)])) rfl rfl (hb hby d6_35)
  have k6 := fun (t : State) (kt : Steps p.tables e below (T5.setTop (mkF m 41 #[.val (.ref a1), .val (.ref a2), .val (.int p3)] [(.long (y + (p3.toInt64))), (.ref a1)])) t) => k4 t (by
    refine st5 _ ?_
    show Steps p.tables e below (T5.setTop (mkF m 38 #[.val (.ref a1), .val (.ref a2), .val (.int p3)] [(.long y), (.ref a1)])) _
    refine XS.iloadN X5.here hx rfl (hb hby d6_38) rfl ?_
    show Steps p.tables e below (T5.setTop (mkF m 39 #[.val (.ref a1), .val (.ref a2), .val (.int p3)] [(.int p3), (.long y), (.ref a1)])) _
    refine XS.i2l X5.here hx rfl (hb hby d6_39) rfl ?_
    show Steps p.tables e below (T5.setTop (mkF m 40 #[.val (.ref a1), .val (.ref a2), .val (.int p3)] [(.long (p3.toInt64)), (.long y), (.ref a1)])) _
    refine XS.ladd X5.here hx rfl (hb hby d6_40) rfl ?_
    show Steps p.tables e below (T5.setTop (mkF m 41 #[.val (.ref a1), .val (.ref a2), .val (.int p3)] [(.long (y + (p3.toInt64))), (.ref a1)])) _
    exact kt)
  obtain ⟨T7, h7, X7, e7, W7, st7⟩ := putF X5 hx hZ hown (host := "") (Or.inl (hw _ (List.mem_of_getElem? (i := 30) rfl))) Via.refl e5 Fbytes_a1 E_a1 (Or.inl (hw _ (List.mem_of_getElem? (i := 31) rfl))) (hw _ (List.mem_of_getElem? (i := 2) rfl)) (ty := .long) (by decide) rfl rfl (g := (mkF m 41 #[.val (.ref a1), .val (.ref a2), .val (.int p3)] [(.long (y + (p3.toInt64))), (.ref a1)])) rfl rfl (hb hby d6_41)
  have E_a1_e7 := E_a1.wr W7
  have Fbounds_a1_e7 := Fbounds_a1.other W7 (Or.inr (slot_ne (Or.inr (hw _ (List.mem_of_getElem? (i := 17) rfl))) (Or.inl (hw _ (List.mem_of_getElem? (i := 31) rfl))) (by decide) (t := (.object "com/example/palamedes/palamedes/core/ReadingBounds")) (t' := .long) (by decide) (by decide)))
  have FaliasNodes_a1_e7 := FaliasNodes_a1.other W7 (Or.inr (slot_ne (Or.inl (hw _ (List.mem_of_getElem? (i := 61) rfl))) (Or.inl (hw _ (List.mem_of_getElem? (i := 31) rfl))) (by decide) (t := .long) (t' := .long) (by decide) (by decide)))
  have FaliasCharacters_a1_e7 := FaliasCharacters_a1.other W7 (Or.inr (slot_ne (Or.inl (hw _ (List.mem_of_getElem? (i := 68) rfl))) (Or.inl (hw _ (List.mem_of_getElem? (i := 31) rfl))) (by decide) (t := .long) (t' := .long) (by decide) (by decide)))
  have N7 := Fr.snoc X7 N2 g_a1
  have O7 := O0.wr W7 g_a1
  have K7 : Keep h0 h7 [a1] := (Keep.refl h0 [a1]).wr W7 (Or.inl (List.mem_of_getElem? (i := 0) rfl))
  have Fbytes_7 := Fbytes_a1.same W7
  have k8 := fun (t : State) (kt : Steps p.tables e below (T7.setTop (mkF m 44 #[.val (.ref a1), .val (.ref a2), .val (.int p3)] [])) t) => k6 t (by
    refine st7 _ ?_
    show Steps p.tables e below (T7.setTop (mkF m 44 #[.val (.ref a1), .val (.ref a2), .val (.int p3)] [])) _
    exact kt)
  obtain ⟨frs, hr, hrun, hended, hW, hsame⟩ := X7.leave (v := none) (fun _ => rfl)
  refine ⟨_, _, k8 _ ?_, hrun, hended, _, _, rfl, ?_, ⟨_, rfl⟩, hW, hsame.mono (by decide) (by decide)⟩
  · exact X7.returnOut hx Bd.returns (hb hby d6_44) hr
  · show QK Z a1 (.ref b) (y + p3.toInt64) n c h0 n0 _ T7.heap _
    rw [e7]
    exact ⟨rfl, N7, K7, ⟨E_a1_e7, Fbounds_a1_e7, Fbytes_7, FaliasNodes_a1_e7, FaliasCharacters_a1_e7⟩⟩

theorem d7_0 : decode prog_25_method_7_code 0 = .ok (.aconst_null, 1) := by decide +kernel
theorem d7_1 : decode prog_25_method_7_code 1 = .ok (.astore 8, 2) := by decide +kernel
theorem d7_3 : decode prog_25_method_7_code 3 = .ok (.lload 4, 2) := by decide +kernel
theorem d7_5 : decode prog_25_method_7_code 5 = .ok (.aload_n 0, 1) := by decide +kernel
theorem d7_6 : decode prog_25_method_7_code 6 = .ok (.getfield 18, 3) := by decide +kernel
theorem d7_9 : decode prog_25_method_7_code 9 = .ok (.invokevirtual 59, 3) := by decide +kernel
theorem d7_12 : decode prog_25_method_7_code 12 = .ok (.i2l, 1) := by decide +kernel
theorem d7_13 : decode prog_25_method_7_code 13 = .ok (.aload_n 0, 1) := by decide +kernel
theorem d7_14 : decode prog_25_method_7_code 14 = .ok (.getfield 62, 3) := by decide +kernel
theorem d7_17 : decode prog_25_method_7_code 17 = .ok (.lsub, 1) := by decide +kernel
theorem d7_18 : decode prog_25_method_7_code 18 = .ok (.lcmp, 1) := by decide +kernel
theorem d7_19 : decode prog_25_method_7_code 19 = .ok (.ifCond .le 20, 3) := by decide +kernel
theorem d7_39 : decode prog_25_method_7_code 39 = .ok (.lload 6, 2) := by decide +kernel
theorem d7_41 : decode prog_25_method_7_code 41 = .ok (.aload_n 0, 1) := by decide +kernel
theorem d7_42 : decode prog_25_method_7_code 42 = .ok (.getfield 18, 3) := by decide +kernel
theorem d7_45 : decode prog_25_method_7_code 45 = .ok (.invokevirtual 65, 3) := by decide +kernel
theorem d7_48 : decode prog_25_method_7_code 48 = .ok (.i2l, 1) := by decide +kernel
theorem d7_49 : decode prog_25_method_7_code 49 = .ok (.aload_n 0, 1) := by decide +kernel
theorem d7_50 : decode prog_25_method_7_code 50 = .ok (.getfield 68, 3) := by decide +kernel
theorem d7_53 : decode prog_25_method_7_code 53 = .ok (.lsub, 1) := by decide +kernel
theorem d7_54 : decode prog_25_method_7_code 54 = .ok (.lcmp, 1) := by decide +kernel
theorem d7_55 : decode prog_25_method_7_code 55 = .ok (.ifCond .le 17, 3) := by decide +kernel
theorem d7_72 : decode prog_25_method_7_code 72 = .ok (.aload 8, 2) := by decide +kernel
theorem d7_74 : decode prog_25_method_7_code 74 = .ok (.ifnull 23, 3) := by decide +kernel
theorem d7_97 : decode prog_25_method_7_code 97 = .ok (.aload_n 0, 1) := by decide +kernel
theorem d7_98 : decode prog_25_method_7_code 98 = .ok (.dup, 1) := by decide +kernel
theorem d7_99 : decode prog_25_method_7_code 99 = .ok (.getfield 62, 3) := by decide +kernel
theorem d7_102 : decode prog_25_method_7_code 102 = .ok (.lload 4, 2) := by decide +kernel
theorem d7_104 : decode prog_25_method_7_code 104 = .ok (.ladd, 1) := by decide +kernel
theorem d7_105 : decode prog_25_method_7_code 105 = .ok (.putfield 62, 3) := by decide +kernel
theorem d7_108 : decode prog_25_method_7_code 108 = .ok (.aload_n 0, 1) := by decide +kernel
theorem d7_109 : decode prog_25_method_7_code 109 = .ok (.dup, 1) := by decide +kernel
theorem d7_110 : decode prog_25_method_7_code 110 = .ok (.getfield 68, 3) := by decide +kernel
theorem d7_113 : decode prog_25_method_7_code 113 = .ok (.lload 6, 2) := by decide +kernel
theorem d7_115 : decode prog_25_method_7_code 115 = .ok (.ladd, 1) := by decide +kernel
theorem d7_116 : decode prog_25_method_7_code 116 = .ok (.putfield 68, 3) := by decide +kernel
theorem d7_119 : decode prog_25_method_7_code 119 = .ok (.return_, 1) := by decide +kernel
theorem ef_7 (m : MethodId) (x0 : Addr) (x1 : Addr) (x2 : Int32) (x3 : Int32) (x4 : Int64) (x5 : Int64) : entryFrame m #[(.ref x0), (.ref x1), (.int x2), (.int x3), (.long x4), (.long x5)] 9 = mkF m 0 #[.val (.ref x0), .val (.ref x1), .val (.int x2), .val (.int x3), .val (.long x4), .second, .val (.long x5), .second, .unset] [] := by first | (simp [entryFrame, mkF, argsToLocals, Value.category]; done) | rfl
set_option maxRecDepth 65536 in
set_option maxHeartbeats 40000000 in
theorem rm7 (l : Launch) (Z : State) (a0 : Array Value) (hw : ∀ d ∈ tables_1, d.before a0 Z = true) (ws : List Jvm.Cond) (a2 : Addr) (p3 p4 : Int32) (q5 q6 : Int64) (a1 b : Addr) (y n c : Int64) (fs an : Int32) (h0 : Heap) (n0 : Nat) (O0 : Old Z n0 h0) (g_a1 : n0 ≤ a1) (B : OB Z h0 a1 (.ref b) y n c) (hle19 : ¬ (an.toInt64 - n) < q5) (hle55 : ¬ (fs.toInt64 - c) < q6) (E_b : Exa Z Z.heap b "com/example/palamedes/palamedes/core/ReadingBounds") (FfileSize_b : Fld Z Z.heap b "com/example/palamedes/palamedes/core/ReadingBounds" "fileSize" "I" (.int fs)) (FaliasNodes_b : Fld Z Z.heap b "com/example/palamedes/palamedes/core/ReadingBounds" "aliasNodes" "I" (.int an)) :
    MetFree l (⟨"com/example/palamedes/palamedes/core/ReadingBudget", "takeAlias", "(Ljava/lang/String;IIJJ)V"⟩ : MethodName) (head1 (Jvm.Cond.code (⟨"com/example/palamedes/palamedes/core/ReadingBudget", "takeAlias", "(Ljava/lang/String;IIJJ)V"⟩ : MethodName) prog_25_method_7_code 9 none :: ws) ({ frames := 1, cells := 0, slots := 0, locals := 14 } : Room)) (fun a U => a = #[(.ref a1), (.ref a2), (.int p3), (.int p4), (.long q5), (.long q6)] ∧ Z.Warmed39 U.vm ∧ U.heap = h0) (fun _ _ _ _ _ => True) (fun _ U o U' => ∃ v L, o = .returned v ∧ QK Z a1 (.ref b) y (n + q5) (c + q6) h0 n0 v U'.heap L ∧ FrameEnd U o U' L ({ frames := 1, cells := 0, slots := 0, locals := 14 } : Room).cells ({ frames := 1, cells := 0, slots := 0, locals := 14 } : Room).slots) := by
  refine MetFree.of_bodySF (plainFor_of_name pn_com_example_palamedes_palamedes_core_ReadingBudget) hisR ?_
  intro p e s m args below meth kode s₁ Bd hml0 hP hK
  obtain ⟨rfl, hZ, hh⟩ := hP
  have hx := Bd.exec
  have hby := Bd.bytes
  have hml : kode.maxLocals = 9 := hml0
  have hown : s.vm.findClass "com/example/palamedes/palamedes/core/ReadingBudget" = some m.cls := findClass_of_methodNamed Bd.named
  have hnm := (name_of_methodNamed Bd.named Bd.method).1
  have X0 : Stand p l e ({ frames := 1, cells := 0, slots := 0, locals := 14 } : Room) s m #[(.ref a1), (.ref a2), (.int p3), (.int p4), (.long q5), (.long q6)] below meth kode s₁ [] 0 0 := Stand.of_body Bd
  have e0 : s₁.heap = h0 := by rw [← hh, Bd.state]; rfl
  have N0 := Fr.nil n0
  have pre0 : ∀ t, Steps p.tables e below (s₁.setTop (mkF m 0 #[.val (.ref a1), .val (.ref a2), .val (.int p3), .val (.int p4), .val (.long q5), .second, .val (.long q6), .second, .unset] [])) t → Steps p.tables e below (s₁.setTop (entryFrame m #[(.ref a1), (.ref a2), (.int p3), (.int p4), (.long q5), (.long q6)] 9)) t := fun t k => castTop (ef_7 m a1 a2 p3 p4 q5 q6) k
  obtain ⟨E_a1, Fbounds_a1, Fbytes_a1, FaliasNodes_a1, FaliasCharacters_a1⟩ := B
  have k1 := fun (t : State) (kt : Steps p.tables e below (s₁.setTop (mkF m 6 #[.val (.ref a1), .val (.ref a2), .val (.int p3), .val (.int p4), .val (.long q5), .second, .val (.long q6), .second, .val .null] [(.ref a1), (.long q5)])) t) => pre0 t (by
    refine XS.aconstNull X0.here hx rfl (hb hby d7_0) ?_
    show Steps p.tables e below (s₁.setTop (mkF m 1 #[.val (.ref a1), .val (.ref a2), .val (.int p3), .val (.int p4), .val (.long q5), .second, .val (.long q6), .second, .unset] [.null])) _
    refine XS.astore X0.here hx rfl (hb hby d7_1) rfl rfl (l' := #[.val (.ref a1), .val (.ref a2), .val (.int p3), .val (.int p4), .val (.long q5), .second, .val (.long q6), .second, .val .null]) rfl ?_
    show Steps p.tables e below (s₁.setTop (mkF m 3 #[.val (.ref a1), .val (.ref a2), .val (.int p3), .val (.int p4), .val (.long q5), .second, .val (.long q6), .second, .val .null] [])) _
    refine XS.lload X0.here hx rfl (hb hby d7_3) rfl ?_
    show Steps p.tables e below (s₁.setTop (mkF m 5 #[.val (.ref a1), .val (.ref a2), .val (.int p3), .val (.int p4), .val (.long q5), .second, .val (.long q6), .second, .val .null] [(.long q5)])) _
    refine XS.aloadN X0.here hx rfl (hb hby d7_5) rfl rfl ?_
    show Steps p.tables e below (s₁.setTop (mkF m 6 #[.val (.ref a1), .val (.ref a2), .val (.int p3), .val (.int p4), .val (.long q5), .second, .val (.long q6), .second, .val .null] [(.ref a1), (.long q5)])) _
    exact kt)
  obtain ⟨T2, X2, e2, st2⟩ := getF X0 hx hZ hown (host := "") (Or.inl (hw _ (List.mem_of_getElem? (i := 16) rfl))) Via.refl e0 Fbounds_a1 (g := (mkF m 6 #[.val (.ref a1), .val (.ref a2), .val (.int p3), .val (.int p4), .val (.long q5), .second, .val (.long q6), .second, .val .null] [(.ref a1), (.long q5)])) rfl rfl (hb hby d7_6)
  have k3 := fun (t : State) (kt : Steps p.tables e below (T2.setTop (mkF m 9 #[.val (.ref a1), .val (.ref a2), .val (.int p3), .val (.int p4), .val (.long q5), .second, .val (.long q6), .second, .val .null] [(.ref b), (.long q5)])) t) => k1 t (by
    refine st2 _ ?_
    show Steps p.tables e below (T2.setTop (mkF m 9 #[.val (.ref a1), .val (.ref a2), .val (.int p3), .val (.int p4), .val (.long q5), .second, .val (.long q6), .second, .val .null] [(.ref b), (.long q5)])) _
    exact kt)
  obtain ⟨cq4, kq4, q4a, q4b, q4c⟩ := isOf hZ e2 (E_b.ext O0.2)
  obtain ⟨_, _, ⟨T4, L4, k4, n4⟩, -, X4, ⟨Lc4, hQ4, l4, y4, z4⟩, st4⟩ := X2.virtualBack hx (y := (⟨"com/example/palamedes/palamedes/core/ReadingBounds", "aliasNodes", "()I"⟩ : MethodName)) (z := (⟨"com/example/palamedes/palamedes/core/ReadingBounds", "aliasNodes", "()I"⟩ : MethodName)) hown (mvT hZ (hw _ (List.mem_of_getElem? (i := 53) rfl))) (mvT hZ (hw _ (List.mem_of_getElem? (i := 54) rfl))) (notFace_of_selects (args := #[]) (mvT hZ (hw _ (List.mem_of_getElem? (i := 56) rfl)))) (mvT hZ (hw _ (List.mem_of_getElem? (i := 56) rfl))) (mvT hZ (hw _ (List.mem_of_getElem? (i := 55) rfl))) (by decide) (backOf (W := 2) (rm8 l Z a0 hw [] b an h0 n0 O0 (FaliasNodes_b.ext O0.2)) hZ (hw _ (List.mem_of_getElem? (i := 57) rfl)) (hw _ (List.mem_of_getElem? (i := 8) rfl)) (by decide) (by decide)) q4a q4c (g := (mkF m 9 #[.val (.ref a1), .val (.ref a2), .val (.int p3), .val (.int p4), .val (.long q5), .second, .val (.long q6), .second, .val .null] [(.ref b), (.long q5)])) rfl (by rw [hml]; rfl) (Steps.refl _) (argsL := []) (rest := [(.long q5)]) (lenOf pd_1 rfl) rfl (by show 2 * 0 + _ ≤ _; exact Nat.le_of_eq rfl) (hb hby d7_9) (fun _ _ => ⟨rfl, e2, (by decide : 0 + 0 ≤ _), (by decide : 0 + 0 ≤ _)⟩)
  dsimp only [Pt.U, Pt.locs, Pt.cells, Pt.slots] at X4 l4 y4 z4 st4 hQ4
  subst l4 y4 z4
  obtain ⟨rfl, Nq4, eh4⟩ := hQ4
  have N4 := Fr.app N0 Nq4
  have k5 := fun (t : State) (kt : Steps p.tables e below (T4.setTop (mkF m 14 #[.val (.ref a1), .val (.ref a2), .val (.int p3), .val (.int p4), .val (.long q5), .second, .val (.long q6), .second, .val .null] [(.ref a1), (.long (an.toInt64)), (.long q5)])) t) => k3 t (by
    refine st4.trans ?_
    show Steps p.tables e below (T4.setTop (mkF m 12 #[.val (.ref a1), .val (.ref a2), .val (.int p3), .val (.int p4), .val (.long q5), .second, .val (.long q6), .second, .val .null] [(.int an), (.long q5)])) _
    refine XS.i2l X4.here hx rfl (hb hby d7_12) rfl ?_
    show Steps p.tables e below (T4.setTop (mkF m 13 #[.val (.ref a1), .val (.ref a2), .val (.int p3), .val (.int p4), .val (.long q5), .second, .val (.long q6), .second, .val .null] [(.long (an.toInt64)), (.long q5)])) _
    refine XS.aloadN X4.here hx rfl (hb hby d7_13) rfl rfl ?_
    show Steps p.tables e below (T4.setTop (mkF m 14 #[.val (.ref a1), .val (.ref a2), .val (.int p3), .val (.int p4), .val (.long q5), .second, .val (.long q6), .second, .val .null] [(.ref a1), (.long (an.toInt64)), (.long q5)])) _
    exact kt)
  obtain ⟨T6, X6, e6, st6⟩ := getF X4 hx hZ hown (host := "") (Or.inl (hw _ (List.mem_of_getElem? (i := 60) rfl))) Via.refl eh4 FaliasNodes_a1 (g := (mkF m 14 #[.val (.ref a1), .val (.ref a2), .val (.int p3), .val (.int p4), .val (.long q5), .second, .val (.long q6), .second, .val .null] [(.ref a1), (.long (an.toInt64)), (.long q5)])) rfl rfl (hb hby d7_14)
  have k7 := fun (t : State) (kt : Steps p.tables e below (T6.setTop (mkF m 19 #[.val (.ref a1), .val (.ref a2), .val (.int p3), .val (.int p4), .val (.long q5), .second, .val (.long q6), .second, .val .null] [(.int (lcmpW q5 ((an.toInt64) - n)))])) t) => k5 t (by
    refine st6 _ ?_
    show Steps p.tables e below (T6.setTop (mkF m 17 #[.val (.ref a1), .val (.ref a2), .val (.int p3), .val (.int p4), .val (.long q5), .second, .val (.long q6), .second, .val .null] [(.long n), (.long (an.toInt64)), (.long q5)])) _
    refine XS.lsub X6.here hx rfl (hb hby d7_17) rfl ?_
    show Steps p.tables e below (T6.setTop (mkF m 18 #[.val (.ref a1), .val (.ref a2), .val (.int p3), .val (.int p4), .val (.long q5), .second, .val (.long q6), .second, .val .null] [(.long ((an.toInt64) - n)), (.long q5)])) _
    refine XS.lcmp X6.here hx rfl (hb hby d7_18) rfl ?_
    show Steps p.tables e below (T6.setTop (mkF m 19 #[.val (.ref a1), .val (.ref a2), .val (.int p3), .val (.int p4), .val (.long q5), .second, .val (.long q6), .second, .val .null] [(.int (lcmpW q5 ((an.toInt64) - n)))])) _
    exact kt)
  have k8 := fun (t : State) (kt : Steps p.tables e below (T6.setTop (mkF m 42 #[.val (.ref a1), .val (.ref a2), .val (.int p3), .val (.int p4), .val (.long q5), .second, .val (.long q6), .second, .val .null] [(.ref a1), (.long q6)])) t) => k7 t (by
    refine XS.ifYes X6.here hx rfl (pc0 := 19) (pc' := 39) rfl (hb hby d7_19) rfl ((if0 _ _).trans (flt (fun q => hle19 ((lw_gt q5 ((an.toInt64) - n)).mp q))).2.2.2) (by decide) (by decide) ?_
    show Steps p.tables e below (T6.setTop (mkF m 39 #[.val (.ref a1), .val (.ref a2), .val (.int p3), .val (.int p4), .val (.long q5), .second, .val (.long q6), .second, .val .null] [])) _
    refine XS.lload X6.here hx rfl (hb hby d7_39) rfl ?_
    show Steps p.tables e below (T6.setTop (mkF m 41 #[.val (.ref a1), .val (.ref a2), .val (.int p3), .val (.int p4), .val (.long q5), .second, .val (.long q6), .second, .val .null] [(.long q6)])) _
    refine XS.aloadN X6.here hx rfl (hb hby d7_41) rfl rfl ?_
    show Steps p.tables e below (T6.setTop (mkF m 42 #[.val (.ref a1), .val (.ref a2), .val (.int p3), .val (.int p4), .val (.long q5), .second, .val (.long q6), .second, .val .null] [(.ref a1), (.long q6)])) _
    exact kt)
  obtain ⟨T9, X9, e9, st9⟩ := getF X6 hx hZ hown (host := "") (Or.inl (hw _ (List.mem_of_getElem? (i := 16) rfl))) Via.refl e6 Fbounds_a1 (g := (mkF m 42 #[.val (.ref a1), .val (.ref a2), .val (.int p3), .val (.int p4), .val (.long q5), .second, .val (.long q6), .second, .val .null] [(.ref a1), (.long q6)])) rfl rfl (hb hby d7_42)
  have k10 := fun (t : State) (kt : Steps p.tables e below (T9.setTop (mkF m 45 #[.val (.ref a1), .val (.ref a2), .val (.int p3), .val (.int p4), .val (.long q5), .second, .val (.long q6), .second, .val .null] [(.ref b), (.long q6)])) t) => k8 t (by
    refine st9 _ ?_
    show Steps p.tables e below (T9.setTop (mkF m 45 #[.val (.ref a1), .val (.ref a2), .val (.int p3), .val (.int p4), .val (.long q5), .second, .val (.long q6), .second, .val .null] [(.ref b), (.long q6)])) _
    exact kt)
  obtain ⟨cq11, kq11, q11a, q11b, q11c⟩ := isOf hZ e9 (E_b.ext O0.2)
  obtain ⟨_, _, ⟨T11, L11, k11, n11⟩, -, X11, ⟨Lc11, hQ11, l11, y11, z11⟩, st11⟩ := X9.virtualBack hx (y := (⟨"com/example/palamedes/palamedes/core/ReadingBounds", "aliasCharacters", "()I"⟩ : MethodName)) (z := (⟨"com/example/palamedes/palamedes/core/ReadingBounds", "aliasCharacters", "()I"⟩ : MethodName)) hown (mvT hZ (hw _ (List.mem_of_getElem? (i := 62) rfl))) (mvT hZ (hw _ (List.mem_of_getElem? (i := 63) rfl))) (notFace_of_selects (args := #[]) (mvT hZ (hw _ (List.mem_of_getElem? (i := 65) rfl)))) (mvT hZ (hw _ (List.mem_of_getElem? (i := 65) rfl))) (mvT hZ (hw _ (List.mem_of_getElem? (i := 64) rfl))) (by decide) (backOf (W := 2) (rm9 l Z a0 hw [] b fs h0 n0 O0 (FfileSize_b.ext O0.2)) hZ (hw _ (List.mem_of_getElem? (i := 66) rfl)) (hw _ (List.mem_of_getElem? (i := 8) rfl)) (by decide) (by decide)) q11a q11c (g := (mkF m 45 #[.val (.ref a1), .val (.ref a2), .val (.int p3), .val (.int p4), .val (.long q5), .second, .val (.long q6), .second, .val .null] [(.ref b), (.long q6)])) rfl (by rw [hml]; rfl) (Steps.refl _) (argsL := []) (rest := [(.long q6)]) (lenOf pd_1 rfl) rfl (by show 2 * 0 + _ ≤ _; exact Nat.le_of_eq rfl) (hb hby d7_45) (fun _ _ => ⟨rfl, e9, (by decide : 0 + 0 ≤ _), (by decide : 0 + 0 ≤ _)⟩)
  dsimp only [Pt.U, Pt.locs, Pt.cells, Pt.slots] at X11 l11 y11 z11 st11 hQ11
  subst l11 y11 z11
  obtain ⟨rfl, Nq11, eh11⟩ := hQ11
  have N11 := Fr.app N4 Nq11
  have k12 := fun (t : State) (kt : Steps p.tables e below (T11.setTop (mkF m 50 #[.val (.ref a1), .val (.ref a2), .val (.int p3), .val (.int p4), .val (.long q5), .second, .val (.long q6), .second, .val .null] [(.ref a1), (.long (fs.toInt64)), (.long q6)])) t) => k10 t (by
    refine st11.trans ?_
    show Steps p.tables e below (T11.setTop (mkF m 48 #[.val (.ref a1), .val (.ref a2), .val (.int p3), .val (.int p4), .val (.long q5), .second, .val (.long q6), .second, .val .null] [(.int fs), (.long q6)])) _
    refine XS.i2l X11.here hx rfl (hb hby d7_48) rfl ?_
    show Steps p.tables e below (T11.setTop (mkF m 49 #[.val (.ref a1), .val (.ref a2), .val (.int p3), .val (.int p4), .val (.long q5), .second, .val (.long q6), .second, .val .null] [(.long (fs.toInt64)), (.long q6)])) _
    refine XS.aloadN X11.here hx rfl (hb hby d7_49) rfl rfl ?_
    show Steps p.tables e below (T11.setTop (mkF m 50 #[.val (.ref a1), .val (.ref a2), .val (.int p3), .val (.int p4), .val (.long q5), .second, .val (.long q6), .second, .val .null] [(.ref a1), (.long (fs.toInt64)), (.long q6)])) _
    exact kt)
  obtain ⟨T13, X13, e13, st13⟩ := getF X11 hx hZ hown (host := "") (Or.inl (hw _ (List.mem_of_getElem? (i := 67) rfl))) Via.refl eh11 FaliasCharacters_a1 (g := (mkF m 50 #[.val (.ref a1), .val (.ref a2), .val (.int p3), .val (.int p4), .val (.long q5), .second, .val (.long q6), .second, .val .null] [(.ref a1), (.long (fs.toInt64)), (.long q6)])) rfl rfl (hb hby d7_50)
  have k14 := fun (t : State) (kt : Steps p.tables e below (T13.setTop (mkF m 55 #[.val (.ref a1), .val (.ref a2), .val (.int p3), .val (.int p4), .val (.long q5), .second, .val (.long q6), .second, .val .null] [(.int (lcmpW q6 ((fs.toInt64) - c)))])) t) => k12 t (by
    refine st13 _ ?_
    show Steps p.tables e below (T13.setTop (mkF m 53 #[.val (.ref a1), .val (.ref a2), .val (.int p3), .val (.int p4), .val (.long q5), .second, .val (.long q6), .second, .val .null] [(.long c), (.long (fs.toInt64)), (.long q6)])) _
    refine XS.lsub X13.here hx rfl (hb hby d7_53) rfl ?_
    show Steps p.tables e below (T13.setTop (mkF m 54 #[.val (.ref a1), .val (.ref a2), .val (.int p3), .val (.int p4), .val (.long q5), .second, .val (.long q6), .second, .val .null] [(.long ((fs.toInt64) - c)), (.long q6)])) _
    refine XS.lcmp X13.here hx rfl (hb hby d7_54) rfl ?_
    show Steps p.tables e below (T13.setTop (mkF m 55 #[.val (.ref a1), .val (.ref a2), .val (.int p3), .val (.int p4), .val (.long q5), .second, .val (.long q6), .second, .val .null] [(.int (lcmpW q6 ((fs.toInt64) - c)))])) _
    exact kt)
  have k15 := fun (t : State) (kt : Steps p.tables e below (T13.setTop (mkF m 99 #[.val (.ref a1), .val (.ref a2), .val (.int p3), .val (.int p4), .val (.long q5), .second, .val (.long q6), .second, .val .null] [(.ref a1), (.ref a1)])) t) => k14 t (by
    refine XS.ifYes X13.here hx rfl (pc0 := 55) (pc' := 72) rfl (hb hby d7_55) rfl ((if0 _ _).trans (flt (fun q => hle55 ((lw_gt q6 ((fs.toInt64) - c)).mp q))).2.2.2) (by decide) (by decide) ?_
    show Steps p.tables e below (T13.setTop (mkF m 72 #[.val (.ref a1), .val (.ref a2), .val (.int p3), .val (.int p4), .val (.long q5), .second, .val (.long q6), .second, .val .null] [])) _
    refine XS.aload X13.here hx rfl (hb hby d7_72) rfl rfl ?_
    show Steps p.tables e below (T13.setTop (mkF m 74 #[.val (.ref a1), .val (.ref a2), .val (.int p3), .val (.int p4), .val (.long q5), .second, .val (.long q6), .second, .val .null] [.null])) _
    refine XS.ifnullYes X13.here hx rfl (pc0 := 74) (pc' := 97) rfl (hb hby d7_74) rfl (by decide) (by decide) ?_
    show Steps p.tables e below (T13.setTop (mkF m 97 #[.val (.ref a1), .val (.ref a2), .val (.int p3), .val (.int p4), .val (.long q5), .second, .val (.long q6), .second, .val .null] [])) _
    refine XS.aloadN X13.here hx rfl (hb hby d7_97) rfl rfl ?_
    show Steps p.tables e below (T13.setTop (mkF m 98 #[.val (.ref a1), .val (.ref a2), .val (.int p3), .val (.int p4), .val (.long q5), .second, .val (.long q6), .second, .val .null] [(.ref a1)])) _
    refine XS.dup X13.here hx rfl (hb hby d7_98) rfl rfl ?_
    show Steps p.tables e below (T13.setTop (mkF m 99 #[.val (.ref a1), .val (.ref a2), .val (.int p3), .val (.int p4), .val (.long q5), .second, .val (.long q6), .second, .val .null] [(.ref a1), (.ref a1)])) _
    exact kt)
  obtain ⟨T16, X16, e16, st16⟩ := getF X13 hx hZ hown (host := "") (Or.inl (hw _ (List.mem_of_getElem? (i := 60) rfl))) Via.refl e13 FaliasNodes_a1 (g := (mkF m 99 #[.val (.ref a1), .val (.ref a2), .val (.int p3), .val (.int p4), .val (.long q5), .second, .val (.long q6), .second, .val .null] [(.ref a1), (.ref a1)])) rfl rfl (hb hby d7_99)
  have k17 := fun (t : State) (kt : Steps p.tables e below (T16.setTop (mkF m 105 #[.val (.ref a1), .val (.ref a2), .val (.int p3), .val (.int p4), .val (.long q5), .second, .val (.long q6), .second, .val .null] [(.long (n + q5)), (.ref a1)])) t) => k15 t (by
    refine st16 _ ?_
    show Steps p.tables e below (T16.setTop (mkF m 102 #[.val (.ref a1), .val (.ref a2), .val (.int p3), .val (.int p4), .val (.long q5), .second, .val (.long q6), .second, .val .null] [(.long n), (.ref a1)])) _
    refine XS.lload X16.here hx rfl (hb hby d7_102) rfl ?_
    show Steps p.tables e below (T16.setTop (mkF m 104 #[.val (.ref a1), .val (.ref a2), .val (.int p3), .val (.int p4), .val (.long q5), .second, .val (.long q6), .second, .val .null] [(.long q5), (.long n), (.ref a1)])) _
    refine XS.ladd X16.here hx rfl (hb hby d7_104) rfl ?_
    show Steps p.tables e below (T16.setTop (mkF m 105 #[.val (.ref a1), .val (.ref a2), .val (.int p3), .val (.int p4), .val (.long q5), .second, .val (.long q6), .second, .val .null] [(.long (n + q5)), (.ref a1)])) _
    exact kt)
  obtain ⟨T18, h18, X18, e18, W18, st18⟩ := putF X16 hx hZ hown (host := "") (Or.inl (hw _ (List.mem_of_getElem? (i := 60) rfl))) Via.refl e16 FaliasNodes_a1 E_a1 (Or.inl (hw _ (List.mem_of_getElem? (i := 61) rfl))) (hw _ (List.mem_of_getElem? (i := 2) rfl)) (ty := .long) (by decide) rfl rfl (g := (mkF m 105 #[.val (.ref a1), .val (.ref a2), .val (.int p3), .val (.int p4), .val (.long q5), .second, .val (.long q6), .second, .val .null] [(.long (n + q5)), (.ref a1)])) rfl rfl (hb hby d7_105)
  have E_a1_e18 := E_a1.wr W18
  have Fbounds_a1_e18 := Fbounds_a1.other W18 (Or.inr (slot_ne (Or.inr (hw _ (List.mem_of_getElem? (i := 17) rfl))) (Or.inl (hw _ (List.mem_of_getElem? (i := 61) rfl))) (by decide) (t := (.object "com/example/palamedes/palamedes/core/ReadingBounds")) (t' := .long) (by decide) (by decide)))
  have Fbytes_a1_e18 := Fbytes_a1.other W18 (Or.inr (slot_ne (Or.inl (hw _ (List.mem_of_getElem? (i := 31) rfl))) (Or.inl (hw _ (List.mem_of_getElem? (i := 61) rfl))) (by decide) (t := .long) (t' := .long) (by decide) (by decide)))
  have FaliasCharacters_a1_e18 := FaliasCharacters_a1.other W18 (Or.inr (slot_ne (Or.inl (hw _ (List.mem_of_getElem? (i := 68) rfl))) (Or.inl (hw _ (List.mem_of_getElem? (i := 61) rfl))) (by decide) (t := .long) (t' := .long) (by decide) (by decide)))
  have N18 := Fr.snoc X18 N11 g_a1
  have O18 := O0.wr W18 g_a1
  have K18 : Keep h0 h18 [a1] := (Keep.refl h0 [a1]).wr W18 (Or.inl (List.mem_of_getElem? (i := 0) rfl))
  have FaliasNodes_18 := FaliasNodes_a1.same W18
  have k19 := fun (t : State) (kt : Steps p.tables e below (T18.setTop (mkF m 110 #[.val (.ref a1), .val (.ref a2), .val (.int p3), .val (.int p4), .val (.long q5), .second, .val (.long q6), .second, .val .null] [(.ref a1), (.ref a1)])) t) => k17 t (by
    refine st18 _ ?_
    show Steps p.tables e below (T18.setTop (mkF m 108 #[.val (.ref a1), .val (.ref a2), .val (.int p3), .val (.int p4), .val (.long q5), .second, .val (.long q6), .second, .val .null] [])) _
    refine XS.aloadN X18.here hx rfl (hb hby d7_108) rfl rfl ?_
    show Steps p.tables e below (T18.setTop (mkF m 109 #[.val (.ref a1), .val (.ref a2), .val (.int p3), .val (.int p4), .val (.long q5), .second, .val (.long q6), .second, .val .null] [(.ref a1)])) _
    refine XS.dup X18.here hx rfl (hb hby d7_109) rfl rfl ?_
    show Steps p.tables e below (T18.setTop (mkF m 110 #[.val (.ref a1), .val (.ref a2), .val (.int p3), .val (.int p4), .val (.long q5), .second, .val (.long q6), .second, .val .null] [(.ref a1), (.ref a1)])) _
    exact kt)
  obtain ⟨T20, X20, e20, st20⟩ := getF X18 hx hZ hown (host := "") (Or.inl (hw _ (List.mem_of_getElem? (i := 67) rfl))) Via.refl e18 FaliasCharacters_a1_e18 (g := (mkF m 110 #[.val (.ref a1), .val (.ref a2), .val (.int p3), .val (.int p4), .val (.long q5), .second, .val (.long q6), .second, .val .null] [(.ref a1), (.ref a1)])) rfl rfl (hb hby d7_110)
  have k21 := fun (t : State) (kt : Steps p.tables e below (T20.setTop (mkF m 116 #[.val (.ref a1), .val (.ref a2), .val (.int p3), .val (.int p4), .val (.long q5), .second, .val (.long q6), .second, .val .null] [(.long (c + q6)), (.ref a1)])) t) => k19 t (by
    refine st20 _ ?_
    show Steps p.tables e below (T20.setTop (mkF m 113 #[.val (.ref a1), .val (.ref a2), .val (.int p3), .val (.int p4), .val (.long q5), .second, .val (.long q6), .second, .val .null] [(.long c), (.ref a1)])) _
    refine XS.lload X20.here hx rfl (hb hby d7_113) rfl ?_
    show Steps p.tables e below (T20.setTop (mkF m 115 #[.val (.ref a1), .val (.ref a2), .val (.int p3), .val (.int p4), .val (.long q5), .second, .val (.long q6), .second, .val .null] [(.long q6), (.long c), (.ref a1)])) _
    refine XS.ladd X20.here hx rfl (hb hby d7_115) rfl ?_
    show Steps p.tables e below (T20.setTop (mkF m 116 #[.val (.ref a1), .val (.ref a2), .val (.int p3), .val (.int p4), .val (.long q5), .second, .val (.long q6), .second, .val .null] [(.long (c + q6)), (.ref a1)])) _
    exact kt)
  obtain ⟨T22, h22, X22, e22, W22, st22⟩ := putF X20 hx hZ hown (host := "") (Or.inl (hw _ (List.mem_of_getElem? (i := 67) rfl))) Via.refl e20 FaliasCharacters_a1_e18 E_a1_e18 (Or.inl (hw _ (List.mem_of_getElem? (i := 68) rfl))) (hw _ (List.mem_of_getElem? (i := 2) rfl)) (ty := .long) (by decide) rfl rfl (g := (mkF m 116 #[.val (.ref a1), .val (.ref a2), .val (.int p3), .val (.int p4), .val (.long q5), .second, .val (.long q6), .second, .val .null] [(.long (c + q6)), (.ref a1)])) rfl rfl (hb hby d7_116)
  have E_a1_e22 := E_a1_e18.wr W22
  have Fbounds_a1_e22 := Fbounds_a1_e18.other W22 (Or.inr (slot_ne (Or.inr (hw _ (List.mem_of_getElem? (i := 17) rfl))) (Or.inl (hw _ (List.mem_of_getElem? (i := 68) rfl))) (by decide) (t := (.object "com/example/palamedes/palamedes/core/ReadingBounds")) (t' := .long) (by decide) (by decide)))
  have Fbytes_a1_e22 := Fbytes_a1_e18.other W22 (Or.inr (slot_ne (Or.inl (hw _ (List.mem_of_getElem? (i := 31) rfl))) (Or.inl (hw _ (List.mem_of_getElem? (i := 68) rfl))) (by decide) (t := .long) (t' := .long) (by decide) (by decide)))
  have FaliasNodes_18_e22 := FaliasNodes_18.other W22 (Or.inr (slot_ne (Or.inl (hw _ (List.mem_of_getElem? (i := 61) rfl))) (Or.inl (hw _ (List.mem_of_getElem? (i := 68) rfl))) (by decide) (t := .long) (t' := .long) (by decide) (by decide)))
  have N22 := Fr.snoc X22 N18 g_a1
  have O22 := O18.wr W22 g_a1
  have K22 : Keep h0 h22 [a1] := K18.wr W22 (Or.inl (List.mem_of_getElem? (i := 0) rfl))
  have FaliasCharacters_22 := FaliasCharacters_a1_e18.same W22
  have k23 := fun (t : State) (kt : Steps p.tables e below (T22.setTop (mkF m 119 #[.val (.ref a1), .val (.ref a2), .val (.int p3), .val (.int p4), .val (.long q5), .second, .val (.long q6), .second, .val .null] [])) t) => k21 t (by
    refine st22 _ ?_
    show Steps p.tables e below (T22.setTop (mkF m 119 #[.val (.ref a1), .val (.ref a2), .val (.int p3), .val (.int p4), .val (.long q5), .second, .val (.long q6), .second, .val .null] [])) _
    exact kt)
  obtain ⟨frs, hr, hrun, hended, hW, hsame⟩ := X22.leave (v := none) (fun _ => rfl)
  refine ⟨_, _, k23 _ ?_, hrun, hended, _, _, rfl, ?_, ⟨_, rfl⟩, hW, hsame.mono (by decide) (by decide)⟩
  · exact X22.returnOut hx Bd.returns (hb hby d7_119) hr
  · show QK Z a1 (.ref b) y (n + q5) (c + q6) h0 n0 _ T22.heap _
    rw [e22]
    exact ⟨rfl, N22, K22, ⟨E_a1_e22, Fbounds_a1_e22, Fbytes_a1_e22, FaliasNodes_18_e22, FaliasCharacters_22⟩⟩

theorem pd_3 : parseMethodDescriptor "()V" = some ⟨[], none⟩ := by decide +kernel
theorem pd_4 : parseMethodDescriptor "(Ljava/lang/String;I)V" = some ⟨[(.object "java/lang/String"), .int], none⟩ := by decide +kernel
theorem pd_5 : parseMethodDescriptor "(Ljava/lang/String;IIJJ)V" = some ⟨[(.object "java/lang/String"), .int, .int, .long, .long], none⟩ := by decide +kernel
theorem pn_com_example_palamedes_palamedes_core_ReadingBudgetBytesLeftPinLaw : plainName "com/example/palamedes/palamedes/core/ReadingBudgetBytesLeftPinLaw" = true := by first | (simp [plainName, overriddenIn]; done) | decide +kernel
theorem ef_0 (m : MethodId) (x0 : Int32) (x1 : Int32) (x2 : Int32) (x3 : Int32) : entryFrame m #[(.int x0), (.int x1), (.int x2), (.int x3)] maxLocals = mkF m 0 #[.val (.int x0), .val (.int x1), .val (.int x2), .val (.int x3), .unset, .unset, .unset, .unset, .unset, .unset, .unset, .unset, .unset, .unset, .unset, .unset, .unset, .unset, .unset, .unset, .unset] [] := by first | (simp [entryFrame, mkF, argsToLocals, Value.category, maxLocals]; done) | rfl
def Q0 (n0 : Nat) (v : Option Value) (h : Heap) (L : List Loc) : Prop := v = some (.int 1) ∧ Fr n0 L
set_option maxRecDepth 65536 in
set_option maxHeartbeats 40000000 in
theorem rm0 (l : Launch) (Z : State) (a0 : Array Value) (hw : ∀ d ∈ tables_1, d.before a0 Z = true) (ws : List Jvm.Cond) (p1 p2 p3 p4 : Int32) (aDEFAULTS : Addr) (h0 : Heap) (n0 : Nat) (O0 : Old Z n0 h0) (S_DEFAULTS : Sta Z Z.heap "com/example/palamedes/palamedes/core/ReadingBounds" "DEFAULTS" "Lcom/example/palamedes/palamedes/core/ReadingBounds;" (.ref aDEFAULTS)) (E_DEFAULTS : Exa Z Z.heap aDEFAULTS "com/example/palamedes/palamedes/core/ReadingBounds") (F_DEFAULTS_fileSize : Fld Z Z.heap aDEFAULTS "com/example/palamedes/palamedes/core/ReadingBounds" "fileSize" "I" (.int (4194304 : Int32))) (F_DEFAULTS_aliasNodes : Fld Z Z.heap aDEFAULTS "com/example/palamedes/palamedes/core/ReadingBounds" "aliasNodes" "I" (.int (100000 : Int32))) :
    MetFree l x (head1 (Jvm.Cond.code x code maxLocals ret :: ws) room_1) (fun a U => a = #[(.int p1), (.int p2), (.int p3), (.int p4)] ∧ Z.Warmed39 U.vm ∧ U.heap = h0) (fun _ _ _ _ _ => True) (fun _ U o U' => ∃ v L, o = .returned v ∧ Q0 n0 v U'.heap L ∧ ReturnedEndW U o U' L 7 30) := by
  refine MetFree.of_bodySF (plainFor_of_name pn_com_example_palamedes_palamedes_core_ReadingBudgetBytesLeftPinLaw) hisR ?_
  intro p e s m args below meth kode s₁ Bd hml0 hP hK
  obtain ⟨rfl, hZ, hh⟩ := hP
  have hx := Bd.exec
  have hby := Bd.bytes
  have hml : kode.maxLocals = 21 := hml0
  have hown : s.vm.findClass "com/example/palamedes/palamedes/core/ReadingBudgetBytesLeftPinLaw" = some m.cls := findClass_of_methodNamed Bd.named
  have hnm := (name_of_methodNamed Bd.named Bd.method).1
  have X0 : Stand p l e room_1 (s.setVm s.vm) m #[(.int p1), (.int p2), (.int p3), (.int p4)] below meth kode s₁ [] 0 0 := Stand.of_body Bd
  have e0 : s₁.heap = h0 := by rw [← hh, Bd.state]; rfl
  have N0 := Fr.nil n0
  have pre0 : ∀ t, Steps p.tables e below (s₁.setTop (mkF m 0 #[.val (.int p1), .val (.int p2), .val (.int p3), .val (.int p4), .unset, .unset, .unset, .unset, .unset, .unset, .unset, .unset, .unset, .unset, .unset, .unset, .unset, .unset, .unset, .unset, .unset] [])) t → Steps p.tables e below (s₁.setTop (entryFrame m #[(.int p1), (.int p2), (.int p3), (.int p4)] maxLocals)) t := fun t k => castTop (ef_0 m p1 p2 p3 p4) k
  have hS : s.Since s.vm 0 := (State.WarmedH.refl s).since 0
  have hk : 0 ≤ h0.size := Nat.zero_le _
  have wS : ∀ a ∈ Bundle.stringAtoms, a.before a0 Z = true := own_wS hw
  have k1 := fun (t : State) (kt : Steps p.tables e below (s₁.setTop (mkF m 5 #[.val (.int p1), .val (.int p2), .val (.int p3), .val (.int p4), .val (.long (4194304 : Int64)), .second, .unset, .unset, .unset, .unset, .unset, .unset, .unset, .unset, .unset, .unset, .unset, .unset, .unset, .unset, .unset] [])) t) => pre0 t (by
    refine X0.ldc2Long hx hown (mvT hZ (hw _ (List.mem_of_getElem? (i := 0) rfl))) (g := (mkF m 0 #[.val (.int p1), .val (.int p2), .val (.int p3), .val (.int p4), .unset, .unset, .unset, .unset, .unset, .unset, .unset, .unset, .unset, .unset, .unset, .unset, .unset, .unset, .unset, .unset, .unset] [])) rfl (hb hby at_0) _ ?_
    show Steps p.tables e below (s₁.setTop (mkF m 3 #[.val (.int p1), .val (.int p2), .val (.int p3), .val (.int p4), .unset, .unset, .unset, .unset, .unset, .unset, .unset, .unset, .unset, .unset, .unset, .unset, .unset, .unset, .unset, .unset, .unset] [(.long (4194304 : Int64))])) _
    refine XS.lstore X0.here hx rfl (hb hby at_3) rfl (l' := #[.val (.int p1), .val (.int p2), .val (.int p3), .val (.int p4), .val (.long (4194304 : Int64)), .second, .unset, .unset, .unset, .unset, .unset, .unset, .unset, .unset, .unset, .unset, .unset, .unset, .unset, .unset, .unset]) rfl ?_
    show Steps p.tables e below (s₁.setTop (mkF m 5 #[.val (.int p1), .val (.int p2), .val (.int p3), .val (.int p4), .val (.long (4194304 : Int64)), .second, .unset, .unset, .unset, .unset, .unset, .unset, .unset, .unset, .unset, .unset, .unset, .unset, .unset, .unset, .unset] [])) _
    exact kt)
  obtain ⟨T2, h2, X2, e2, E2, A2, D2, U2, st2⟩ := newO X0 hx hZ hown (hw _ (List.mem_of_getElem? (i := 1) rfl)) (hw _ (List.mem_of_getElem? (i := 2) rfl)) (hw _ (List.mem_of_getElem? (i := 3) rfl)) e0 (g := (mkF m 5 #[.val (.int p1), .val (.int p2), .val (.int p3), .val (.int p4), .val (.long (4194304 : Int64)), .second, .unset, .unset, .unset, .unset, .unset, .unset, .unset, .unset, .unset, .unset, .unset, .unset, .unset, .unset, .unset] [])) rfl (hb hby at_5) (by decide) (by decide)
  obtain ⟨b2, g2⟩ : ∃ z, z = h0.size := ⟨_, rfl⟩
  rw [← g2] at A2 D2 U2 st2
  have sz_b2 : h0.size ≤ b2 := Nat.le_trans (Keep.refl h0 []).1 (Nat.le_of_eq g2.symm)
  have g_b2 : n0 ≤ b2 := Nat.le_trans (O0.1 ▸ O0.2.1) sz_b2
  have O2 := O0.ext E2
  have K2 : Keep h0 h2 [] := (Keep.refl h0 []).ext E2
  have hk := Nat.le_trans hk E2.1
  have Fbounds_2 : Fld Z h2 b2 "com/example/palamedes/palamedes/core/ReadingBudget" "bounds" "Lcom/example/palamedes/palamedes/core/ReadingBounds;" .null := D2 (Or.inr (hw _ (List.mem_of_getElem? (i := 17) rfl))) (ty := (.object "com/example/palamedes/palamedes/core/ReadingBounds")) (by decide)
  have Fbytes_2 : Fld Z h2 b2 "com/example/palamedes/palamedes/core/ReadingBudget" "bytes" "J" (.long (0 : Int64)) := D2 (Or.inl (hw _ (List.mem_of_getElem? (i := 31) rfl))) (ty := .long) (by decide)
  have FaliasNodes_2 : Fld Z h2 b2 "com/example/palamedes/palamedes/core/ReadingBudget" "aliasNodes" "J" (.long (0 : Int64)) := D2 (Or.inl (hw _ (List.mem_of_getElem? (i := 61) rfl))) (ty := .long) (by decide)
  have FaliasCharacters_2 : Fld Z h2 b2 "com/example/palamedes/palamedes/core/ReadingBudget" "aliasCharacters" "J" (.long (0 : Int64)) := D2 (Or.inl (hw _ (List.mem_of_getElem? (i := 68) rfl))) (ty := .long) (by decide)
  have k3 := fun (t : State) (kt : Steps p.tables e below (T2.setTop (mkF m 9 #[.val (.int p1), .val (.int p2), .val (.int p3), .val (.int p4), .val (.long (4194304 : Int64)), .second, .unset, .unset, .unset, .unset, .unset, .unset, .unset, .unset, .unset, .unset, .unset, .unset, .unset, .unset, .unset] [(.ref b2), (.ref b2)])) t) => k1 t (by
    refine st2 _ ?_
    show Steps p.tables e below (T2.setTop (mkF m 8 #[.val (.int p1), .val (.int p2), .val (.int p3), .val (.int p4), .val (.long (4194304 : Int64)), .second, .unset, .unset, .unset, .unset, .unset, .unset, .unset, .unset, .unset, .unset, .unset, .unset, .unset, .unset, .unset] [(.ref b2)])) _
    refine XS.dup X2.here hx rfl (hb hby at_8) rfl rfl ?_
    show Steps p.tables e below (T2.setTop (mkF m 9 #[.val (.int p1), .val (.int p2), .val (.int p3), .val (.int p4), .val (.long (4194304 : Int64)), .second, .unset, .unset, .unset, .unset, .unset, .unset, .unset, .unset, .unset, .unset, .unset, .unset, .unset, .unset, .unset] [(.ref b2), (.ref b2)])) _
    exact kt)
  obtain ⟨_, _, ⟨T4, L4, k4, n4⟩, -, X4, ⟨Lc4, hQ4, l4, y4, z4⟩, st4⟩ := X2.specialBack hx (y := (⟨"com/example/palamedes/palamedes/core/ReadingBudget", "<init>", "()V"⟩ : MethodName)) rfl hown (mvT hZ (hw _ (List.mem_of_getElem? (i := 4) rfl))) (mvT hZ (hw _ (List.mem_of_getElem? (i := 5) rfl))) (mvT hZ (hw _ (List.mem_of_getElem? (i := 6) rfl))) (by decide) (backOf (W := 1) (rm1 l Z a0 hw [] b2 aDEFAULTS (0 : Int64) (0 : Int64) (0 : Int64) h2 n0 O2 g_b2 ⟨A2, Fbounds_2, Fbytes_2, FaliasNodes_2, FaliasCharacters_2⟩ S_DEFAULTS) hZ (hw _ (List.mem_of_getElem? (i := 6) rfl)) (hw _ (List.mem_of_getElem? (i := 3) rfl)) (by decide) (by decide)) (g := (mkF m 9 #[.val (.int p1), .val (.int p2), .val (.int p3), .val (.int p4), .val (.long (4194304 : Int64)), .second, .unset, .unset, .unset, .unset, .unset, .unset, .unset, .unset, .unset, .unset, .unset, .unset, .unset, .unset, .unset] [(.ref b2), (.ref b2)])) rfl (by rw [hml]; rfl) (Steps.refl _) (a := b2) (argsL := []) (rest := [(.ref b2)]) (lenOf pd_3 rfl) rfl (by show 2 * 0 + _ ≤ _; exact Nat.le_of_eq rfl) (hb hby at_9) (fun _ _ => ⟨rfl, e2, (by decide : 1 + 0 ≤ _), (by decide : 6 + 0 ≤ _)⟩)
  dsimp only [Pt.U, Pt.locs, Pt.cells, Pt.slots] at X4 l4 y4 z4 st4 hQ4
  subst l4 y4 z4
  obtain ⟨rfl, Nq4, Kq4, Bq4⟩ := hQ4
  have N4 := Fr.app N0 Nq4
  obtain ⟨E_b2_4, Fbounds_b2_4, Fbytes_b2_4, FaliasNodes_b2_4, FaliasCharacters_b2_4⟩ := Bq4
  have K4 := Kq4
  have A2_e4 := A2.keep K4
  have O4 := O2.keep K4 (allS g_b2 all0)
  have KK4 : Keep h0 T4.heap [] := K2.trans K4 (allS (Or.inr sz_b2) all0)
  have hk := Nat.le_trans hk K4.1
  have k5 := fun (t : State) (kt : Steps p.tables e below (T4.setTop (mkF m 16 #[.val (.int p1), .val (.int p2), .val (.int p3), .val (.int p4), .val (.long (4194304 : Int64)), .second, .val (.ref b2), .unset, .unset, .unset, .unset, .unset, .unset, .unset, .unset, .unset, .unset, .unset, .unset, .unset, .unset] [(.ref b2)])) t) => k3 t (by
    refine st4.trans ?_
    show Steps p.tables e below (T4.setTop (mkF m 12 #[.val (.int p1), .val (.int p2), .val (.int p3), .val (.int p4), .val (.long (4194304 : Int64)), .second, .unset, .unset, .unset, .unset, .unset, .unset, .unset, .unset, .unset, .unset, .unset, .unset, .unset, .unset, .unset] [(.ref b2)])) _
    refine XS.astore X4.here hx rfl (hb hby at_12) rfl rfl (l' := #[.val (.int p1), .val (.int p2), .val (.int p3), .val (.int p4), .val (.long (4194304 : Int64)), .second, .val (.ref b2), .unset, .unset, .unset, .unset, .unset, .unset, .unset, .unset, .unset, .unset, .unset, .unset, .unset, .unset]) rfl ?_
    show Steps p.tables e below (T4.setTop (mkF m 14 #[.val (.int p1), .val (.int p2), .val (.int p3), .val (.int p4), .val (.long (4194304 : Int64)), .second, .val (.ref b2), .unset, .unset, .unset, .unset, .unset, .unset, .unset, .unset, .unset, .unset, .unset, .unset, .unset, .unset] [])) _
    refine XS.aload X4.here hx rfl (hb hby at_14) rfl rfl ?_
    show Steps p.tables e below (T4.setTop (mkF m 16 #[.val (.int p1), .val (.int p2), .val (.int p3), .val (.int p4), .val (.long (4194304 : Int64)), .second, .val (.ref b2), .unset, .unset, .unset, .unset, .unset, .unset, .unset, .unset, .unset, .unset, .unset, .unset, .unset, .unset] [(.ref b2)])) _
    exact kt)
  obtain ⟨cq6, kq6, q6a, q6b, q6c⟩ := isOf hZ rfl E_b2_4
  obtain ⟨_, _, ⟨T6, L6, k6, n6⟩, -, X6, ⟨Lc6, hQ6, l6, y6, z6⟩, st6⟩ := X4.virtualBack hx (y := (⟨"com/example/palamedes/palamedes/core/ReadingBudget", "bytesLeft", "()J"⟩ : MethodName)) (z := (⟨"com/example/palamedes/palamedes/core/ReadingBudget", "bytesLeft", "()J"⟩ : MethodName)) hown (mvT hZ (hw _ (List.mem_of_getElem? (i := 18) rfl))) (mvT hZ (hw _ (List.mem_of_getElem? (i := 19) rfl))) (notFace_of_selects (args := #[]) (mvT hZ (hw _ (List.mem_of_getElem? (i := 21) rfl)))) (mvT hZ (hw _ (List.mem_of_getElem? (i := 21) rfl))) (mvT hZ (hw _ (List.mem_of_getElem? (i := 20) rfl))) (by decide) (backOf (W := 0) (rm4 l Z a0 hw [] b2 aDEFAULTS (0 : Int64) (0 : Int64) (0 : Int64) (4194304 : Int32) (100000 : Int32) T4.heap n0 O4 ⟨E_b2_4, Fbounds_b2_4, Fbytes_b2_4, FaliasNodes_b2_4, FaliasCharacters_b2_4⟩ E_DEFAULTS F_DEFAULTS_fileSize F_DEFAULTS_aliasNodes) hZ (hw _ (List.mem_of_getElem? (i := 22) rfl)) (hw _ (List.mem_of_getElem? (i := 3) rfl)) (by decide) (by decide)) q6a q6c (g := (mkF m 16 #[.val (.int p1), .val (.int p2), .val (.int p3), .val (.int p4), .val (.long (4194304 : Int64)), .second, .val (.ref b2), .unset, .unset, .unset, .unset, .unset, .unset, .unset, .unset, .unset, .unset, .unset, .unset, .unset, .unset] [(.ref b2)])) rfl (by rw [hml]; rfl) (Steps.refl _) (argsL := []) (rest := []) (lenOf pd_2 rfl) rfl (by show 2 * 0 + _ ≤ _; exact Nat.le_of_eq rfl) (hb hby at_16) (fun _ _ => ⟨rfl, rfl, (by decide : 1 + 0 ≤ _), (by decide : 6 + 0 ≤ _)⟩)
  dsimp only [Pt.U, Pt.locs, Pt.cells, Pt.slots] at X6 l6 y6 z6 st6 hQ6
  subst l6 y6 z6
  obtain ⟨rfl, Nq6, eh6⟩ := hQ6
  have N6 := Fr.app N4 Nq6
  have k7 := fun (t : State) (kt : Steps p.tables e below (T6.setTop (mkF m 34 #[.val (.int p1), .val (.int p2), .val (.int p3), .val (.int p4), .val (.long (4194304 : Int64)), .second, .val (.ref b2), .val (.long (((4194304 : Int32).toInt64) - (0 : Int64))), .second, .val (.int ((((p1 &&& (2147483647 : Int32)).toInt64) - (((p1 &&& (2147483647 : Int32)).toInt64) / ((4194304 : Int64) + (1 : Int64))) * ((4194304 : Int64) + (1 : Int64))).toInt32)), .unset, .unset, .unset, .unset, .unset, .unset, .unset, .unset, .unset, .unset, .unset] [])) t) => k5 t (by
    refine st6.trans ?_
    show Steps p.tables e below (T6.setTop (mkF m 19 #[.val (.int p1), .val (.int p2), .val (.int p3), .val (.int p4), .val (.long (4194304 : Int64)), .second, .val (.ref b2), .unset, .unset, .unset, .unset, .unset, .unset, .unset, .unset, .unset, .unset, .unset, .unset, .unset, .unset] [(.long (((4194304 : Int32).toInt64) - (0 : Int64)))])) _
    refine XS.lstore X6.here hx rfl (hb hby at_19) rfl (l' := #[.val (.int p1), .val (.int p2), .val (.int p3), .val (.int p4), .val (.long (4194304 : Int64)), .second, .val (.ref b2), .val (.long (((4194304 : Int32).toInt64) - (0 : Int64))), .second, .unset, .unset, .unset, .unset, .unset, .unset, .unset, .unset, .unset, .unset, .unset, .unset]) rfl ?_
    show Steps p.tables e below (T6.setTop (mkF m 21 #[.val (.int p1), .val (.int p2), .val (.int p3), .val (.int p4), .val (.long (4194304 : Int64)), .second, .val (.ref b2), .val (.long (((4194304 : Int32).toInt64) - (0 : Int64))), .second, .unset, .unset, .unset, .unset, .unset, .unset, .unset, .unset, .unset, .unset, .unset, .unset] [])) _
    refine XS.iloadN X6.here hx rfl (hb hby at_21) rfl ?_
    show Steps p.tables e below (T6.setTop (mkF m 22 #[.val (.int p1), .val (.int p2), .val (.int p3), .val (.int p4), .val (.long (4194304 : Int64)), .second, .val (.ref b2), .val (.long (((4194304 : Int32).toInt64) - (0 : Int64))), .second, .unset, .unset, .unset, .unset, .unset, .unset, .unset, .unset, .unset, .unset, .unset, .unset] [(.int p1)])) _
    refine X6.ldcInt hx hown (mvT hZ (hw _ (List.mem_of_getElem? (i := 32) rfl))) (g := (mkF m 22 #[.val (.int p1), .val (.int p2), .val (.int p3), .val (.int p4), .val (.long (4194304 : Int64)), .second, .val (.ref b2), .val (.long (((4194304 : Int32).toInt64) - (0 : Int64))), .second, .unset, .unset, .unset, .unset, .unset, .unset, .unset, .unset, .unset, .unset, .unset, .unset] [(.int p1)])) rfl (hb hby at_22) _ ?_
    show Steps p.tables e below (T6.setTop (mkF m 24 #[.val (.int p1), .val (.int p2), .val (.int p3), .val (.int p4), .val (.long (4194304 : Int64)), .second, .val (.ref b2), .val (.long (((4194304 : Int32).toInt64) - (0 : Int64))), .second, .unset, .unset, .unset, .unset, .unset, .unset, .unset, .unset, .unset, .unset, .unset, .unset] [(.int (2147483647 : Int32)), (.int p1)])) _
    refine XS.iand X6.here hx rfl (hb hby at_24) rfl ?_
    show Steps p.tables e below (T6.setTop (mkF m 25 #[.val (.int p1), .val (.int p2), .val (.int p3), .val (.int p4), .val (.long (4194304 : Int64)), .second, .val (.ref b2), .val (.long (((4194304 : Int32).toInt64) - (0 : Int64))), .second, .unset, .unset, .unset, .unset, .unset, .unset, .unset, .unset, .unset, .unset, .unset, .unset] [(.int (p1 &&& (2147483647 : Int32)))])) _
    refine XS.i2l X6.here hx rfl (hb hby at_25) rfl ?_
    show Steps p.tables e below (T6.setTop (mkF m 26 #[.val (.int p1), .val (.int p2), .val (.int p3), .val (.int p4), .val (.long (4194304 : Int64)), .second, .val (.ref b2), .val (.long (((4194304 : Int32).toInt64) - (0 : Int64))), .second, .unset, .unset, .unset, .unset, .unset, .unset, .unset, .unset, .unset, .unset, .unset, .unset] [(.long ((p1 &&& (2147483647 : Int32)).toInt64))])) _
    refine XS.lload X6.here hx rfl (hb hby at_26) rfl ?_
    show Steps p.tables e below (T6.setTop (mkF m 28 #[.val (.int p1), .val (.int p2), .val (.int p3), .val (.int p4), .val (.long (4194304 : Int64)), .second, .val (.ref b2), .val (.long (((4194304 : Int32).toInt64) - (0 : Int64))), .second, .unset, .unset, .unset, .unset, .unset, .unset, .unset, .unset, .unset, .unset, .unset, .unset] [(.long (4194304 : Int64)), (.long ((p1 &&& (2147483647 : Int32)).toInt64))])) _
    refine XS.lconst X6.here hx rfl (hb hby at_28) ?_
    show Steps p.tables e below (T6.setTop (mkF m 29 #[.val (.int p1), .val (.int p2), .val (.int p3), .val (.int p4), .val (.long (4194304 : Int64)), .second, .val (.ref b2), .val (.long (((4194304 : Int32).toInt64) - (0 : Int64))), .second, .unset, .unset, .unset, .unset, .unset, .unset, .unset, .unset, .unset, .unset, .unset, .unset] [(.long (1 : Int64)), (.long (4194304 : Int64)), (.long ((p1 &&& (2147483647 : Int32)).toInt64))])) _
    refine XS.ladd X6.here hx rfl (hb hby at_29) rfl ?_
    show Steps p.tables e below (T6.setTop (mkF m 30 #[.val (.int p1), .val (.int p2), .val (.int p3), .val (.int p4), .val (.long (4194304 : Int64)), .second, .val (.ref b2), .val (.long (((4194304 : Int32).toInt64) - (0 : Int64))), .second, .unset, .unset, .unset, .unset, .unset, .unset, .unset, .unset, .unset, .unset, .unset, .unset] [(.long ((4194304 : Int64) + (1 : Int64))), (.long ((p1 &&& (2147483647 : Int32)).toInt64))])) _
    refine XS.lrem X6.here hx rfl (hb hby at_30) rfl (by decide) ?_
    show Steps p.tables e below (T6.setTop (mkF m 31 #[.val (.int p1), .val (.int p2), .val (.int p3), .val (.int p4), .val (.long (4194304 : Int64)), .second, .val (.ref b2), .val (.long (((4194304 : Int32).toInt64) - (0 : Int64))), .second, .unset, .unset, .unset, .unset, .unset, .unset, .unset, .unset, .unset, .unset, .unset, .unset] [(.long (((p1 &&& (2147483647 : Int32)).toInt64) - (((p1 &&& (2147483647 : Int32)).toInt64) / ((4194304 : Int64) + (1 : Int64))) * ((4194304 : Int64) + (1 : Int64))))])) _
    refine XS.l2i X6.here hx rfl (hb hby at_31) rfl ?_
    show Steps p.tables e below (T6.setTop (mkF m 32 #[.val (.int p1), .val (.int p2), .val (.int p3), .val (.int p4), .val (.long (4194304 : Int64)), .second, .val (.ref b2), .val (.long (((4194304 : Int32).toInt64) - (0 : Int64))), .second, .unset, .unset, .unset, .unset, .unset, .unset, .unset, .unset, .unset, .unset, .unset, .unset] [(.int ((((p1 &&& (2147483647 : Int32)).toInt64) - (((p1 &&& (2147483647 : Int32)).toInt64) / ((4194304 : Int64) + (1 : Int64))) * ((4194304 : Int64) + (1 : Int64))).toInt32))])) _
    refine XS.istore X6.here hx rfl (hb hby at_32) rfl (l' := #[.val (.int p1), .val (.int p2), .val (.int p3), .val (.int p4), .val (.long (4194304 : Int64)), .second, .val (.ref b2), .val (.long (((4194304 : Int32).toInt64) - (0 : Int64))), .second, .val (.int ((((p1 &&& (2147483647 : Int32)).toInt64) - (((p1 &&& (2147483647 : Int32)).toInt64) / ((4194304 : Int64) + (1 : Int64))) * ((4194304 : Int64) + (1 : Int64))).toInt32)), .unset, .unset, .unset, .unset, .unset, .unset, .unset, .unset, .unset, .unset, .unset]) rfl ?_
    show Steps p.tables e below (T6.setTop (mkF m 34 #[.val (.int p1), .val (.int p2), .val (.int p3), .val (.int p4), .val (.long (4194304 : Int64)), .second, .val (.ref b2), .val (.long (((4194304 : Int32).toInt64) - (0 : Int64))), .second, .val (.int ((((p1 &&& (2147483647 : Int32)).toInt64) - (((p1 &&& (2147483647 : Int32)).toInt64) / ((4194304 : Int64) + (1 : Int64))) * ((4194304 : Int64) + (1 : Int64))).toInt32)), .unset, .unset, .unset, .unset, .unset, .unset, .unset, .unset, .unset, .unset, .unset] [])) _
    exact kt)
  obtain ⟨va, ha0, ha1, k8⟩ : ∃ va : Int32, (0 ≤ va.toInt) ∧ (va.toInt ≤ 4194304) ∧ ∀ t, Steps p.tables e below (T6.setTop (mkF m 34 #[.val (.int p1), .val (.int p2), .val (.int p3), .val (.int p4), .val (.long (4194304 : Int64)), .second, .val (.ref b2), .val (.long (((4194304 : Int32).toInt64) - (0 : Int64))), .second, .val (.int va), .unset, .unset, .unset, .unset, .unset, .unset, .unset, .unset, .unset, .unset, .unset] [])) t → Steps p.tables e below (s₁.setTop (entryFrame m #[(.int p1), (.int p2), (.int p3), (.int p4)] maxLocals)) t := ⟨((((p1 &&& (2147483647 : Int32)).toInt64) - (((p1 &&& (2147483647 : Int32)).toInt64) / ((4194304 : Int64) + (1 : Int64))) * ((4194304 : Int64) + (1 : Int64))).toInt32), (own_a p1).1, (own_a p1).2, k7⟩
  have k9 := fun (t : State) (kt : Steps p.tables e below (T6.setTop (mkF m 36 #[.val (.int p1), .val (.int p2), .val (.int p3), .val (.int p4), .val (.long (4194304 : Int64)), .second, .val (.ref b2), .val (.long (((4194304 : Int32).toInt64) - (0 : Int64))), .second, .val (.int va), .unset, .unset, .unset, .unset, .unset, .unset, .unset, .unset, .unset, .unset, .unset] [(.ref b2)])) t) => k8 t (by
    refine XS.aload X6.here hx rfl (hb hby at_34) rfl rfl ?_
    show Steps p.tables e below (T6.setTop (mkF m 36 #[.val (.int p1), .val (.int p2), .val (.int p3), .val (.int p4), .val (.long (4194304 : Int64)), .second, .val (.ref b2), .val (.long (((4194304 : Int32).toInt64) - (0 : Int64))), .second, .val (.int va), .unset, .unset, .unset, .unset, .unset, .unset, .unset, .unset, .unset, .unset, .unset] [(.ref b2)])) _
    exact kt)
  obtain ⟨b10, T10, h10, k110, X10, e10, E10, hS, hk, hZ, hown, st10⟩ := ldcS (s := s) X6 hx hZ hown (hw _ (List.mem_of_getElem? (i := 33) rfl)) wS eh6 hS hk (g := (mkF m 36 #[.val (.int p1), .val (.int p2), .val (.int p3), .val (.int p4), .val (.long (4194304 : Int64)), .second, .val (.ref b2), .val (.long (((4194304 : Int32).toInt64) - (0 : Int64))), .second, .val (.int va), .unset, .unset, .unset, .unset, .unset, .unset, .unset, .unset, .unset, .unset, .unset] [(.ref b2)])) rfl (hb hby at_36) (n := 4) (by decide) (by decide) (by decide) (by decide)
  have E_b2_4_e10 := E_b2_4.ext E10
  have Fbounds_b2_4_e10 := Fbounds_b2_4.ext E10
  have Fbytes_b2_4_e10 := Fbytes_b2_4.ext E10
  have FaliasNodes_b2_4_e10 := FaliasNodes_b2_4.ext E10
  have FaliasCharacters_b2_4_e10 := FaliasCharacters_b2_4.ext E10
  have O10 := O4.ext E10
  have K10 : Keep h0 h10 [] := KK4.ext E10
  have k11 := fun (t : State) (kt : Steps p.tables e below (T10.setTop (mkF m 40 #[.val (.int p1), .val (.int p2), .val (.int p3), .val (.int p4), .val (.long (4194304 : Int64)), .second, .val (.ref b2), .val (.long (((4194304 : Int32).toInt64) - (0 : Int64))), .second, .val (.int va), .unset, .unset, .unset, .unset, .unset, .unset, .unset, .unset, .unset, .unset, .unset] [(.int va), (.ref b10), (.ref b2)])) t) => k9 t (by
    refine st10 _ ?_
    show Steps p.tables e below (T10.setTop (mkF m 38 #[.val (.int p1), .val (.int p2), .val (.int p3), .val (.int p4), .val (.long (4194304 : Int64)), .second, .val (.ref b2), .val (.long (((4194304 : Int32).toInt64) - (0 : Int64))), .second, .val (.int va), .unset, .unset, .unset, .unset, .unset, .unset, .unset, .unset, .unset, .unset, .unset] [(.ref b10), (.ref b2)])) _
    refine XS.iload X10.here hx rfl (hb hby at_38) rfl ?_
    show Steps p.tables e below (T10.setTop (mkF m 40 #[.val (.int p1), .val (.int p2), .val (.int p3), .val (.int p4), .val (.long (4194304 : Int64)), .second, .val (.ref b2), .val (.long (((4194304 : Int32).toInt64) - (0 : Int64))), .second, .val (.int va), .unset, .unset, .unset, .unset, .unset, .unset, .unset, .unset, .unset, .unset, .unset] [(.int va), (.ref b10), (.ref b2)])) _
    exact kt)
  obtain ⟨cq12, kq12, q12a, q12b, q12c⟩ := isOf hZ e10 E_b2_4_e10
  obtain ⟨_, _, ⟨T12, L12, k12, n12⟩, -, X12, ⟨Lc12, hQ12, l12, y12, z12⟩, st12⟩ := X10.virtualBack hx (y := (⟨"com/example/palamedes/palamedes/core/ReadingBudget", "takeBytes", "(Ljava/lang/String;I)V"⟩ : MethodName)) (z := (⟨"com/example/palamedes/palamedes/core/ReadingBudget", "takeBytes", "(Ljava/lang/String;I)V"⟩ : MethodName)) hown (mvT hZ (hw _ (List.mem_of_getElem? (i := 41) rfl))) (mvT hZ (hw _ (List.mem_of_getElem? (i := 42) rfl))) (notFace_of_selects (args := #[]) (mvT hZ (hw _ (List.mem_of_getElem? (i := 44) rfl)))) (mvT hZ (hw _ (List.mem_of_getElem? (i := 44) rfl))) (mvT hZ (hw _ (List.mem_of_getElem? (i := 43) rfl))) (by decide) (backOf (W := 0) (rm6 l Z a0 hw [] b10 va b2 aDEFAULTS (0 : Int64) (0 : Int64) (0 : Int64) (4194304 : Int32) (100000 : Int32) h10 n0 O10 g_b2 ⟨E_b2_4_e10, Fbounds_b2_4_e10, Fbytes_b2_4_e10, FaliasNodes_b2_4_e10, FaliasCharacters_b2_4_e10⟩ (own_le1 ha0 ha1) E_DEFAULTS F_DEFAULTS_fileSize F_DEFAULTS_aliasNodes) hZ (hw _ (List.mem_of_getElem? (i := 45) rfl)) (hw _ (List.mem_of_getElem? (i := 3) rfl)) (by decide) (by decide)) q12a q12c (g := (mkF m 40 #[.val (.int p1), .val (.int p2), .val (.int p3), .val (.int p4), .val (.long (4194304 : Int64)), .second, .val (.ref b2), .val (.long (((4194304 : Int32).toInt64) - (0 : Int64))), .second, .val (.int va), .unset, .unset, .unset, .unset, .unset, .unset, .unset, .unset, .unset, .unset, .unset] [(.int va), (.ref b10), (.ref b2)])) rfl (by rw [hml]; rfl) (Steps.refl _) (argsL := [(.ref b10), (.int va)]) (rest := []) (lenOf pd_4 rfl) rfl (by show 2 * 0 + _ ≤ _; exact Nat.le_of_eq rfl) (hb hby at_40) (fun _ _ => ⟨rfl, e10, (by decide : 3 + 0 ≤ _), (by decide : 14 + 0 ≤ _)⟩)
  dsimp only [Pt.U, Pt.locs, Pt.cells, Pt.slots] at X12 l12 y12 z12 st12 hQ12
  subst l12 y12 z12
  obtain ⟨rfl, Nq12, Kq12, Bq12⟩ := hQ12
  have N12 := Fr.app N6 Nq12
  obtain ⟨E_b2_12, Fbounds_b2_12, Fbytes_b2_12, FaliasNodes_b2_12, FaliasCharacters_b2_12⟩ := Bq12
  have K12 := Kq12
  have E_b2_4_e12 := E_b2_4_e10.keep K12
  have O12 := O10.keep K12 (allS g_b2 all0)
  have KK12 : Keep h0 T12.heap [] := K10.trans K12 (allS (Or.inr sz_b2) all0)
  have hk := Nat.le_trans hk K12.1
  have k13 := fun (t : State) (kt : Steps p.tables e below (T12.setTop (mkF m 45 #[.val (.int p1), .val (.int p2), .val (.int p3), .val (.int p4), .val (.long (4194304 : Int64)), .second, .val (.ref b2), .val (.long (((4194304 : Int32).toInt64) - (0 : Int64))), .second, .val (.int va), .unset, .unset, .unset, .unset, .unset, .unset, .unset, .unset, .unset, .unset, .unset] [(.ref b2)])) t) => k11 t (by
    refine st12.trans ?_
    show Steps p.tables e below (T12.setTop (mkF m 43 #[.val (.int p1), .val (.int p2), .val (.int p3), .val (.int p4), .val (.long (4194304 : Int64)), .second, .val (.ref b2), .val (.long (((4194304 : Int32).toInt64) - (0 : Int64))), .second, .val (.int va), .unset, .unset, .unset, .unset, .unset, .unset, .unset, .unset, .unset, .unset, .unset] [])) _
    refine XS.aload X12.here hx rfl (hb hby at_43) rfl rfl ?_
    show Steps p.tables e below (T12.setTop (mkF m 45 #[.val (.int p1), .val (.int p2), .val (.int p3), .val (.int p4), .val (.long (4194304 : Int64)), .second, .val (.ref b2), .val (.long (((4194304 : Int32).toInt64) - (0 : Int64))), .second, .val (.int va), .unset, .unset, .unset, .unset, .unset, .unset, .unset, .unset, .unset, .unset, .unset] [(.ref b2)])) _
    exact kt)
  obtain ⟨cq14, kq14, q14a, q14b, q14c⟩ := isOf hZ rfl E_b2_12
  obtain ⟨_, _, ⟨T14, L14, k14, n14⟩, -, X14, ⟨Lc14, hQ14, l14, y14, z14⟩, st14⟩ := X12.virtualBack hx (y := (⟨"com/example/palamedes/palamedes/core/ReadingBudget", "bytesLeft", "()J"⟩ : MethodName)) (z := (⟨"com/example/palamedes/palamedes/core/ReadingBudget", "bytesLeft", "()J"⟩ : MethodName)) hown (mvT hZ (hw _ (List.mem_of_getElem? (i := 18) rfl))) (mvT hZ (hw _ (List.mem_of_getElem? (i := 19) rfl))) (notFace_of_selects (args := #[]) (mvT hZ (hw _ (List.mem_of_getElem? (i := 21) rfl)))) (mvT hZ (hw _ (List.mem_of_getElem? (i := 21) rfl))) (mvT hZ (hw _ (List.mem_of_getElem? (i := 20) rfl))) (by decide) (backOf (W := 0) (rm4 l Z a0 hw [] b2 aDEFAULTS ((0 : Int64) + (va.toInt64)) (0 : Int64) (0 : Int64) (4194304 : Int32) (100000 : Int32) T12.heap n0 O12 ⟨E_b2_12, Fbounds_b2_12, Fbytes_b2_12, FaliasNodes_b2_12, FaliasCharacters_b2_12⟩ E_DEFAULTS F_DEFAULTS_fileSize F_DEFAULTS_aliasNodes) hZ (hw _ (List.mem_of_getElem? (i := 22) rfl)) (hw _ (List.mem_of_getElem? (i := 3) rfl)) (by decide) (by decide)) q14a q14c (g := (mkF m 45 #[.val (.int p1), .val (.int p2), .val (.int p3), .val (.int p4), .val (.long (4194304 : Int64)), .second, .val (.ref b2), .val (.long (((4194304 : Int32).toInt64) - (0 : Int64))), .second, .val (.int va), .unset, .unset, .unset, .unset, .unset, .unset, .unset, .unset, .unset, .unset, .unset] [(.ref b2)])) rfl (by rw [hml]; rfl) (Steps.refl _) (argsL := []) (rest := []) (lenOf pd_2 rfl) rfl (by show 2 * 0 + _ ≤ _; exact Nat.le_of_eq rfl) (hb hby at_45) (fun _ _ => ⟨rfl, rfl, (by decide : 3 + 0 ≤ _), (by decide : 14 + 0 ≤ _)⟩)
  dsimp only [Pt.U, Pt.locs, Pt.cells, Pt.slots] at X14 l14 y14 z14 st14 hQ14
  subst l14 y14 z14
  obtain ⟨rfl, Nq14, eh14⟩ := hQ14
  have N14 := Fr.app N12 Nq14
  have k15 := fun (t : State) (kt : Steps p.tables e below (T14.setTop (mkF m 60 #[.val (.int p1), .val (.int p2), .val (.int p3), .val (.int p4), .val (.long (4194304 : Int64)), .second, .val (.ref b2), .val (.long (((4194304 : Int32).toInt64) - (0 : Int64))), .second, .val (.int va), .val (.long (((4194304 : Int32).toInt64) - ((0 : Int64) + (va.toInt64)))), .second, .val (.long (((p3 &&& (2147483647 : Int32)) % (100001 : Int32)).toInt64)), .second, .unset, .unset, .unset, .unset, .unset, .unset, .unset] [])) t) => k13 t (by
    refine st14.trans ?_
    show Steps p.tables e below (T14.setTop (mkF m 48 #[.val (.int p1), .val (.int p2), .val (.int p3), .val (.int p4), .val (.long (4194304 : Int64)), .second, .val (.ref b2), .val (.long (((4194304 : Int32).toInt64) - (0 : Int64))), .second, .val (.int va), .unset, .unset, .unset, .unset, .unset, .unset, .unset, .unset, .unset, .unset, .unset] [(.long (((4194304 : Int32).toInt64) - ((0 : Int64) + (va.toInt64))))])) _
    refine XS.lstore X14.here hx rfl (hb hby at_48) rfl (l' := #[.val (.int p1), .val (.int p2), .val (.int p3), .val (.int p4), .val (.long (4194304 : Int64)), .second, .val (.ref b2), .val (.long (((4194304 : Int32).toInt64) - (0 : Int64))), .second, .val (.int va), .val (.long (((4194304 : Int32).toInt64) - ((0 : Int64) + (va.toInt64)))), .second, .unset, .unset, .unset, .unset, .unset, .unset, .unset, .unset, .unset]) rfl ?_
    show Steps p.tables e below (T14.setTop (mkF m 50 #[.val (.int p1), .val (.int p2), .val (.int p3), .val (.int p4), .val (.long (4194304 : Int64)), .second, .val (.ref b2), .val (.long (((4194304 : Int32).toInt64) - (0 : Int64))), .second, .val (.int va), .val (.long (((4194304 : Int32).toInt64) - ((0 : Int64) + (va.toInt64)))), .second, .unset, .unset, .unset, .unset, .unset, .unset, .unset, .unset, .unset] [])) _
    refine XS.iloadN X14.here hx rfl (hb hby at_50) rfl ?_
    show Steps p.tables e below (T14.setTop (mkF m 51 #[.val (.int p1), .val (.int p2), .val (.int p3), .val (.int p4), .val (.long (4194304 : Int64)), .second, .val (.ref b2), .val (.long (((4194304 : Int32).toInt64) - (0 : Int64))), .second, .val (.int va), .val (.long (((4194304 : Int32).toInt64) - ((0 : Int64) + (va.toInt64)))), .second, .unset, .unset, .unset, .unset, .unset, .unset, .unset, .unset, .unset] [(.int p3)])) _
    refine X14.ldcInt hx hown (mvT hZ (hw _ (List.mem_of_getElem? (i := 32) rfl))) (g := (mkF m 51 #[.val (.int p1), .val (.int p2), .val (.int p3), .val (.int p4), .val (.long (4194304 : Int64)), .second, .val (.ref b2), .val (.long (((4194304 : Int32).toInt64) - (0 : Int64))), .second, .val (.int va), .val (.long (((4194304 : Int32).toInt64) - ((0 : Int64) + (va.toInt64)))), .second, .unset, .unset, .unset, .unset, .unset, .unset, .unset, .unset, .unset] [(.int p3)])) rfl (hb hby at_51) _ ?_
    show Steps p.tables e below (T14.setTop (mkF m 53 #[.val (.int p1), .val (.int p2), .val (.int p3), .val (.int p4), .val (.long (4194304 : Int64)), .second, .val (.ref b2), .val (.long (((4194304 : Int32).toInt64) - (0 : Int64))), .second, .val (.int va), .val (.long (((4194304 : Int32).toInt64) - ((0 : Int64) + (va.toInt64)))), .second, .unset, .unset, .unset, .unset, .unset, .unset, .unset, .unset, .unset] [(.int (2147483647 : Int32)), (.int p3)])) _
    refine XS.iand X14.here hx rfl (hb hby at_53) rfl ?_
    show Steps p.tables e below (T14.setTop (mkF m 54 #[.val (.int p1), .val (.int p2), .val (.int p3), .val (.int p4), .val (.long (4194304 : Int64)), .second, .val (.ref b2), .val (.long (((4194304 : Int32).toInt64) - (0 : Int64))), .second, .val (.int va), .val (.long (((4194304 : Int32).toInt64) - ((0 : Int64) + (va.toInt64)))), .second, .unset, .unset, .unset, .unset, .unset, .unset, .unset, .unset, .unset] [(.int (p3 &&& (2147483647 : Int32)))])) _
    refine X14.ldcInt hx hown (mvT hZ (hw _ (List.mem_of_getElem? (i := 47) rfl))) (g := (mkF m 54 #[.val (.int p1), .val (.int p2), .val (.int p3), .val (.int p4), .val (.long (4194304 : Int64)), .second, .val (.ref b2), .val (.long (((4194304 : Int32).toInt64) - (0 : Int64))), .second, .val (.int va), .val (.long (((4194304 : Int32).toInt64) - ((0 : Int64) + (va.toInt64)))), .second, .unset, .unset, .unset, .unset, .unset, .unset, .unset, .unset, .unset] [(.int (p3 &&& (2147483647 : Int32)))])) rfl (hb hby at_54) _ ?_
    show Steps p.tables e below (T14.setTop (mkF m 56 #[.val (.int p1), .val (.int p2), .val (.int p3), .val (.int p4), .val (.long (4194304 : Int64)), .second, .val (.ref b2), .val (.long (((4194304 : Int32).toInt64) - (0 : Int64))), .second, .val (.int va), .val (.long (((4194304 : Int32).toInt64) - ((0 : Int64) + (va.toInt64)))), .second, .unset, .unset, .unset, .unset, .unset, .unset, .unset, .unset, .unset] [(.int (100001 : Int32)), (.int (p3 &&& (2147483647 : Int32)))])) _
    refine iremM X14 hx rfl (hb hby at_56) rfl (by decide) ?_
    show Steps p.tables e below (T14.setTop (mkF m 57 #[.val (.int p1), .val (.int p2), .val (.int p3), .val (.int p4), .val (.long (4194304 : Int64)), .second, .val (.ref b2), .val (.long (((4194304 : Int32).toInt64) - (0 : Int64))), .second, .val (.int va), .val (.long (((4194304 : Int32).toInt64) - ((0 : Int64) + (va.toInt64)))), .second, .unset, .unset, .unset, .unset, .unset, .unset, .unset, .unset, .unset] [(.int ((p3 &&& (2147483647 : Int32)) % (100001 : Int32)))])) _
    refine XS.i2l X14.here hx rfl (hb hby at_57) rfl ?_
    show Steps p.tables e below (T14.setTop (mkF m 58 #[.val (.int p1), .val (.int p2), .val (.int p3), .val (.int p4), .val (.long (4194304 : Int64)), .second, .val (.ref b2), .val (.long (((4194304 : Int32).toInt64) - (0 : Int64))), .second, .val (.int va), .val (.long (((4194304 : Int32).toInt64) - ((0 : Int64) + (va.toInt64)))), .second, .unset, .unset, .unset, .unset, .unset, .unset, .unset, .unset, .unset] [(.long (((p3 &&& (2147483647 : Int32)) % (100001 : Int32)).toInt64))])) _
    refine XS.lstore X14.here hx rfl (hb hby at_58) rfl (l' := #[.val (.int p1), .val (.int p2), .val (.int p3), .val (.int p4), .val (.long (4194304 : Int64)), .second, .val (.ref b2), .val (.long (((4194304 : Int32).toInt64) - (0 : Int64))), .second, .val (.int va), .val (.long (((4194304 : Int32).toInt64) - ((0 : Int64) + (va.toInt64)))), .second, .val (.long (((p3 &&& (2147483647 : Int32)) % (100001 : Int32)).toInt64)), .second, .unset, .unset, .unset, .unset, .unset, .unset, .unset]) rfl ?_
    show Steps p.tables e below (T14.setTop (mkF m 60 #[.val (.int p1), .val (.int p2), .val (.int p3), .val (.int p4), .val (.long (4194304 : Int64)), .second, .val (.ref b2), .val (.long (((4194304 : Int32).toInt64) - (0 : Int64))), .second, .val (.int va), .val (.long (((4194304 : Int32).toInt64) - ((0 : Int64) + (va.toInt64)))), .second, .val (.long (((p3 &&& (2147483647 : Int32)) % (100001 : Int32)).toInt64)), .second, .unset, .unset, .unset, .unset, .unset, .unset, .unset] [])) _
    exact kt)
  obtain ⟨vn, hn0, hn1, k16⟩ : ∃ vn : Int64, (0 ≤ vn.toInt) ∧ (vn.toInt ≤ 100000) ∧ ∀ t, Steps p.tables e below (T14.setTop (mkF m 60 #[.val (.int p1), .val (.int p2), .val (.int p3), .val (.int p4), .val (.long (4194304 : Int64)), .second, .val (.ref b2), .val (.long (((4194304 : Int32).toInt64) - (0 : Int64))), .second, .val (.int va), .val (.long (((4194304 : Int32).toInt64) - ((0 : Int64) + (va.toInt64)))), .second, .val (.long vn), .second, .unset, .unset, .unset, .unset, .unset, .unset, .unset] [])) t → Steps p.tables e below (s₁.setTop (entryFrame m #[(.int p1), (.int p2), (.int p3), (.int p4)] maxLocals)) t := ⟨(((p3 &&& (2147483647 : Int32)) % (100001 : Int32)).toInt64), (own_nd p3).1, (own_nd p3).2, k15⟩
  have k17 := fun (t : State) (kt : Steps p.tables e below (T14.setTop (mkF m 72 #[.val (.int p1), .val (.int p2), .val (.int p3), .val (.int p4), .val (.long (4194304 : Int64)), .second, .val (.ref b2), .val (.long (((4194304 : Int32).toInt64) - (0 : Int64))), .second, .val (.int va), .val (.long (((4194304 : Int32).toInt64) - ((0 : Int64) + (va.toInt64)))), .second, .val (.long vn), .second, .val (.long (((p4 &&& (2147483647 : Int32)).toInt64) - (((p4 &&& (2147483647 : Int32)).toInt64) / ((4194304 : Int64) + (1 : Int64))) * ((4194304 : Int64) + (1 : Int64)))), .second, .unset, .unset, .unset, .unset, .unset] [])) t) => k16 t (by
    refine XS.iloadN X14.here hx rfl (hb hby at_60) rfl ?_
    show Steps p.tables e below (T14.setTop (mkF m 61 #[.val (.int p1), .val (.int p2), .val (.int p3), .val (.int p4), .val (.long (4194304 : Int64)), .second, .val (.ref b2), .val (.long (((4194304 : Int32).toInt64) - (0 : Int64))), .second, .val (.int va), .val (.long (((4194304 : Int32).toInt64) - ((0 : Int64) + (va.toInt64)))), .second, .val (.long vn), .second, .unset, .unset, .unset, .unset, .unset, .unset, .unset] [(.int p4)])) _
    refine X14.ldcInt hx hown (mvT hZ (hw _ (List.mem_of_getElem? (i := 32) rfl))) (g := (mkF m 61 #[.val (.int p1), .val (.int p2), .val (.int p3), .val (.int p4), .val (.long (4194304 : Int64)), .second, .val (.ref b2), .val (.long (((4194304 : Int32).toInt64) - (0 : Int64))), .second, .val (.int va), .val (.long (((4194304 : Int32).toInt64) - ((0 : Int64) + (va.toInt64)))), .second, .val (.long vn), .second, .unset, .unset, .unset, .unset, .unset, .unset, .unset] [(.int p4)])) rfl (hb hby at_61) _ ?_
    show Steps p.tables e below (T14.setTop (mkF m 63 #[.val (.int p1), .val (.int p2), .val (.int p3), .val (.int p4), .val (.long (4194304 : Int64)), .second, .val (.ref b2), .val (.long (((4194304 : Int32).toInt64) - (0 : Int64))), .second, .val (.int va), .val (.long (((4194304 : Int32).toInt64) - ((0 : Int64) + (va.toInt64)))), .second, .val (.long vn), .second, .unset, .unset, .unset, .unset, .unset, .unset, .unset] [(.int (2147483647 : Int32)), (.int p4)])) _
    refine XS.iand X14.here hx rfl (hb hby at_63) rfl ?_
    show Steps p.tables e below (T14.setTop (mkF m 64 #[.val (.int p1), .val (.int p2), .val (.int p3), .val (.int p4), .val (.long (4194304 : Int64)), .second, .val (.ref b2), .val (.long (((4194304 : Int32).toInt64) - (0 : Int64))), .second, .val (.int va), .val (.long (((4194304 : Int32).toInt64) - ((0 : Int64) + (va.toInt64)))), .second, .val (.long vn), .second, .unset, .unset, .unset, .unset, .unset, .unset, .unset] [(.int (p4 &&& (2147483647 : Int32)))])) _
    refine XS.i2l X14.here hx rfl (hb hby at_64) rfl ?_
    show Steps p.tables e below (T14.setTop (mkF m 65 #[.val (.int p1), .val (.int p2), .val (.int p3), .val (.int p4), .val (.long (4194304 : Int64)), .second, .val (.ref b2), .val (.long (((4194304 : Int32).toInt64) - (0 : Int64))), .second, .val (.int va), .val (.long (((4194304 : Int32).toInt64) - ((0 : Int64) + (va.toInt64)))), .second, .val (.long vn), .second, .unset, .unset, .unset, .unset, .unset, .unset, .unset] [(.long ((p4 &&& (2147483647 : Int32)).toInt64))])) _
    refine XS.lload X14.here hx rfl (hb hby at_65) rfl ?_
    show Steps p.tables e below (T14.setTop (mkF m 67 #[.val (.int p1), .val (.int p2), .val (.int p3), .val (.int p4), .val (.long (4194304 : Int64)), .second, .val (.ref b2), .val (.long (((4194304 : Int32).toInt64) - (0 : Int64))), .second, .val (.int va), .val (.long (((4194304 : Int32).toInt64) - ((0 : Int64) + (va.toInt64)))), .second, .val (.long vn), .second, .unset, .unset, .unset, .unset, .unset, .unset, .unset] [(.long (4194304 : Int64)), (.long ((p4 &&& (2147483647 : Int32)).toInt64))])) _
    refine XS.lconst X14.here hx rfl (hb hby at_67) ?_
    show Steps p.tables e below (T14.setTop (mkF m 68 #[.val (.int p1), .val (.int p2), .val (.int p3), .val (.int p4), .val (.long (4194304 : Int64)), .second, .val (.ref b2), .val (.long (((4194304 : Int32).toInt64) - (0 : Int64))), .second, .val (.int va), .val (.long (((4194304 : Int32).toInt64) - ((0 : Int64) + (va.toInt64)))), .second, .val (.long vn), .second, .unset, .unset, .unset, .unset, .unset, .unset, .unset] [(.long (1 : Int64)), (.long (4194304 : Int64)), (.long ((p4 &&& (2147483647 : Int32)).toInt64))])) _
    refine XS.ladd X14.here hx rfl (hb hby at_68) rfl ?_
    show Steps p.tables e below (T14.setTop (mkF m 69 #[.val (.int p1), .val (.int p2), .val (.int p3), .val (.int p4), .val (.long (4194304 : Int64)), .second, .val (.ref b2), .val (.long (((4194304 : Int32).toInt64) - (0 : Int64))), .second, .val (.int va), .val (.long (((4194304 : Int32).toInt64) - ((0 : Int64) + (va.toInt64)))), .second, .val (.long vn), .second, .unset, .unset, .unset, .unset, .unset, .unset, .unset] [(.long ((4194304 : Int64) + (1 : Int64))), (.long ((p4 &&& (2147483647 : Int32)).toInt64))])) _
    refine XS.lrem X14.here hx rfl (hb hby at_69) rfl (by decide) ?_
    show Steps p.tables e below (T14.setTop (mkF m 70 #[.val (.int p1), .val (.int p2), .val (.int p3), .val (.int p4), .val (.long (4194304 : Int64)), .second, .val (.ref b2), .val (.long (((4194304 : Int32).toInt64) - (0 : Int64))), .second, .val (.int va), .val (.long (((4194304 : Int32).toInt64) - ((0 : Int64) + (va.toInt64)))), .second, .val (.long vn), .second, .unset, .unset, .unset, .unset, .unset, .unset, .unset] [(.long (((p4 &&& (2147483647 : Int32)).toInt64) - (((p4 &&& (2147483647 : Int32)).toInt64) / ((4194304 : Int64) + (1 : Int64))) * ((4194304 : Int64) + (1 : Int64))))])) _
    refine XS.lstore X14.here hx rfl (hb hby at_70) rfl (l' := #[.val (.int p1), .val (.int p2), .val (.int p3), .val (.int p4), .val (.long (4194304 : Int64)), .second, .val (.ref b2), .val (.long (((4194304 : Int32).toInt64) - (0 : Int64))), .second, .val (.int va), .val (.long (((4194304 : Int32).toInt64) - ((0 : Int64) + (va.toInt64)))), .second, .val (.long vn), .second, .val (.long (((p4 &&& (2147483647 : Int32)).toInt64) - (((p4 &&& (2147483647 : Int32)).toInt64) / ((4194304 : Int64) + (1 : Int64))) * ((4194304 : Int64) + (1 : Int64)))), .second, .unset, .unset, .unset, .unset, .unset]) rfl ?_
    show Steps p.tables e below (T14.setTop (mkF m 72 #[.val (.int p1), .val (.int p2), .val (.int p3), .val (.int p4), .val (.long (4194304 : Int64)), .second, .val (.ref b2), .val (.long (((4194304 : Int32).toInt64) - (0 : Int64))), .second, .val (.int va), .val (.long (((4194304 : Int32).toInt64) - ((0 : Int64) + (va.toInt64)))), .second, .val (.long vn), .second, .val (.long (((p4 &&& (2147483647 : Int32)).toInt64) - (((p4 &&& (2147483647 : Int32)).toInt64) / ((4194304 : Int64) + (1 : Int64))) * ((4194304 : Int64) + (1 : Int64)))), .second, .unset, .unset, .unset, .unset, .unset] [])) _
    exact kt)
  obtain ⟨vh, hh0, hh1, k18⟩ : ∃ vh : Int64, (0 ≤ vh.toInt) ∧ (vh.toInt ≤ 4194304) ∧ ∀ t, Steps p.tables e below (T14.setTop (mkF m 72 #[.val (.int p1), .val (.int p2), .val (.int p3), .val (.int p4), .val (.long (4194304 : Int64)), .second, .val (.ref b2), .val (.long (((4194304 : Int32).toInt64) - (0 : Int64))), .second, .val (.int va), .val (.long (((4194304 : Int32).toInt64) - ((0 : Int64) + (va.toInt64)))), .second, .val (.long vn), .second, .val (.long vh), .second, .unset, .unset, .unset, .unset, .unset] [])) t → Steps p.tables e below (s₁.setTop (entryFrame m #[(.int p1), (.int p2), (.int p3), (.int p4)] maxLocals)) t := ⟨(((p4 &&& (2147483647 : Int32)).toInt64) - (((p4 &&& (2147483647 : Int32)).toInt64) / ((4194304 : Int64) + (1 : Int64))) * ((4194304 : Int64) + (1 : Int64))), (own_h p4).1, (own_h p4).2, k17⟩
  have k19 := fun (t : State) (kt : Steps p.tables e below (T14.setTop (mkF m 74 #[.val (.int p1), .val (.int p2), .val (.int p3), .val (.int p4), .val (.long (4194304 : Int64)), .second, .val (.ref b2), .val (.long (((4194304 : Int32).toInt64) - (0 : Int64))), .second, .val (.int va), .val (.long (((4194304 : Int32).toInt64) - ((0 : Int64) + (va.toInt64)))), .second, .val (.long vn), .second, .val (.long vh), .second, .unset, .unset, .unset, .unset, .unset] [(.ref b2)])) t) => k18 t (by
    refine XS.aload X14.here hx rfl (hb hby at_72) rfl rfl ?_
    show Steps p.tables e below (T14.setTop (mkF m 74 #[.val (.int p1), .val (.int p2), .val (.int p3), .val (.int p4), .val (.long (4194304 : Int64)), .second, .val (.ref b2), .val (.long (((4194304 : Int32).toInt64) - (0 : Int64))), .second, .val (.int va), .val (.long (((4194304 : Int32).toInt64) - ((0 : Int64) + (va.toInt64)))), .second, .val (.long vn), .second, .val (.long vh), .second, .unset, .unset, .unset, .unset, .unset] [(.ref b2)])) _
    exact kt)
  obtain ⟨b20, T20, h20, k120, X20, e20, E20, hS, hk, hZ, hown, st20⟩ := ldcS (s := s) X14 hx hZ hown (hw _ (List.mem_of_getElem? (i := 33) rfl)) wS eh14 hS hk (g := (mkF m 74 #[.val (.int p1), .val (.int p2), .val (.int p3), .val (.int p4), .val (.long (4194304 : Int64)), .second, .val (.ref b2), .val (.long (((4194304 : Int32).toInt64) - (0 : Int64))), .second, .val (.int va), .val (.long (((4194304 : Int32).toInt64) - ((0 : Int64) + (va.toInt64)))), .second, .val (.long vn), .second, .val (.long vh), .second, .unset, .unset, .unset, .unset, .unset] [(.ref b2)])) rfl (hb hby at_74) (n := 4) (by decide) (by decide) (by decide) (by decide)
  have E_b2_12_e20 := E_b2_12.ext E20
  have Fbounds_b2_12_e20 := Fbounds_b2_12.ext E20
  have Fbytes_b2_12_e20 := Fbytes_b2_12.ext E20
  have FaliasNodes_b2_12_e20 := FaliasNodes_b2_12.ext E20
  have FaliasCharacters_b2_12_e20 := FaliasCharacters_b2_12.ext E20
  have O20 := O12.ext E20
  have K20 : Keep h0 h20 [] := KK12.ext E20
  have k21 := fun (t : State) (kt : Steps p.tables e below (T20.setTop (mkF m 82 #[.val (.int p1), .val (.int p2), .val (.int p3), .val (.int p4), .val (.long (4194304 : Int64)), .second, .val (.ref b2), .val (.long (((4194304 : Int32).toInt64) - (0 : Int64))), .second, .val (.int va), .val (.long (((4194304 : Int32).toInt64) - ((0 : Int64) + (va.toInt64)))), .second, .val (.long vn), .second, .val (.long vh), .second, .unset, .unset, .unset, .unset, .unset] [(.long vh), (.long vn), (.int (1 : Int32)), (.int (1 : Int32)), (.ref b20), (.ref b2)])) t) => k19 t (by
    refine st20 _ ?_
    show Steps p.tables e below (T20.setTop (mkF m 76 #[.val (.int p1), .val (.int p2), .val (.int p3), .val (.int p4), .val (.long (4194304 : Int64)), .second, .val (.ref b2), .val (.long (((4194304 : Int32).toInt64) - (0 : Int64))), .second, .val (.int va), .val (.long (((4194304 : Int32).toInt64) - ((0 : Int64) + (va.toInt64)))), .second, .val (.long vn), .second, .val (.long vh), .second, .unset, .unset, .unset, .unset, .unset] [(.ref b20), (.ref b2)])) _
    refine XS.iconst X20.here hx rfl (hb hby at_76) ?_
    show Steps p.tables e below (T20.setTop (mkF m 77 #[.val (.int p1), .val (.int p2), .val (.int p3), .val (.int p4), .val (.long (4194304 : Int64)), .second, .val (.ref b2), .val (.long (((4194304 : Int32).toInt64) - (0 : Int64))), .second, .val (.int va), .val (.long (((4194304 : Int32).toInt64) - ((0 : Int64) + (va.toInt64)))), .second, .val (.long vn), .second, .val (.long vh), .second, .unset, .unset, .unset, .unset, .unset] [(.int (1 : Int32)), (.ref b20), (.ref b2)])) _
    refine XS.iconst X20.here hx rfl (hb hby at_77) ?_
    show Steps p.tables e below (T20.setTop (mkF m 78 #[.val (.int p1), .val (.int p2), .val (.int p3), .val (.int p4), .val (.long (4194304 : Int64)), .second, .val (.ref b2), .val (.long (((4194304 : Int32).toInt64) - (0 : Int64))), .second, .val (.int va), .val (.long (((4194304 : Int32).toInt64) - ((0 : Int64) + (va.toInt64)))), .second, .val (.long vn), .second, .val (.long vh), .second, .unset, .unset, .unset, .unset, .unset] [(.int (1 : Int32)), (.int (1 : Int32)), (.ref b20), (.ref b2)])) _
    refine XS.lload X20.here hx rfl (hb hby at_78) rfl ?_
    show Steps p.tables e below (T20.setTop (mkF m 80 #[.val (.int p1), .val (.int p2), .val (.int p3), .val (.int p4), .val (.long (4194304 : Int64)), .second, .val (.ref b2), .val (.long (((4194304 : Int32).toInt64) - (0 : Int64))), .second, .val (.int va), .val (.long (((4194304 : Int32).toInt64) - ((0 : Int64) + (va.toInt64)))), .second, .val (.long vn), .second, .val (.long vh), .second, .unset, .unset, .unset, .unset, .unset] [(.long vn), (.int (1 : Int32)), (.int (1 : Int32)), (.ref b20), (.ref b2)])) _
    refine XS.lload X20.here hx rfl (hb hby at_80) rfl ?_
    show Steps p.tables e below (T20.setTop (mkF m 82 #[.val (.int p1), .val (.int p2), .val (.int p3), .val (.int p4), .val (.long (4194304 : Int64)), .second, .val (.ref b2), .val (.long (((4194304 : Int32).toInt64) - (0 : Int64))), .second, .val (.int va), .val (.long (((4194304 : Int32).toInt64) - ((0 : Int64) + (va.toInt64)))), .second, .val (.long vn), .second, .val (.long vh), .second, .unset, .unset, .unset, .unset, .unset] [(.long vh), (.long vn), (.int (1 : Int32)), (.int (1 : Int32)), (.ref b20), (.ref b2)])) _
    exact kt)
  obtain ⟨cq22, kq22, q22a, q22b, q22c⟩ := isOf hZ e20 E_b2_12_e20
  obtain ⟨_, _, ⟨T22, L22, k22, n22⟩, -, X22, ⟨Lc22, hQ22, l22, y22, z22⟩, st22⟩ := X20.virtualBack hx (y := (⟨"com/example/palamedes/palamedes/core/ReadingBudget", "takeAlias", "(Ljava/lang/String;IIJJ)V"⟩ : MethodName)) (z := (⟨"com/example/palamedes/palamedes/core/ReadingBudget", "takeAlias", "(Ljava/lang/String;IIJJ)V"⟩ : MethodName)) hown (mvT hZ (hw _ (List.mem_of_getElem? (i := 48) rfl))) (mvT hZ (hw _ (List.mem_of_getElem? (i := 49) rfl))) (notFace_of_selects (args := #[]) (mvT hZ (hw _ (List.mem_of_getElem? (i := 51) rfl)))) (mvT hZ (hw _ (List.mem_of_getElem? (i := 51) rfl))) (mvT hZ (hw _ (List.mem_of_getElem? (i := 50) rfl))) (by decide) (backOf (W := 0) (rm7 l Z a0 hw [] b20 (1 : Int32) (1 : Int32) vn vh b2 aDEFAULTS ((0 : Int64) + (va.toInt64)) (0 : Int64) (0 : Int64) (4194304 : Int32) (100000 : Int32) h20 n0 O20 g_b2 ⟨E_b2_12_e20, Fbounds_b2_12_e20, Fbytes_b2_12_e20, FaliasNodes_b2_12_e20, FaliasCharacters_b2_12_e20⟩ (own_le3 hn1) (own_le4 hh1) E_DEFAULTS F_DEFAULTS_fileSize F_DEFAULTS_aliasNodes) hZ (hw _ (List.mem_of_getElem? (i := 52) rfl)) (hw _ (List.mem_of_getElem? (i := 3) rfl)) (by decide) (by decide)) q22a q22c (g := (mkF m 82 #[.val (.int p1), .val (.int p2), .val (.int p3), .val (.int p4), .val (.long (4194304 : Int64)), .second, .val (.ref b2), .val (.long (((4194304 : Int32).toInt64) - (0 : Int64))), .second, .val (.int va), .val (.long (((4194304 : Int32).toInt64) - ((0 : Int64) + (va.toInt64)))), .second, .val (.long vn), .second, .val (.long vh), .second, .unset, .unset, .unset, .unset, .unset] [(.long vh), (.long vn), (.int (1 : Int32)), (.int (1 : Int32)), (.ref b20), (.ref b2)])) rfl (by rw [hml]; rfl) (Steps.refl _) (argsL := [(.ref b20), (.int (1 : Int32)), (.int (1 : Int32)), (.long vn), (.long vh)]) (rest := []) (lenOf pd_5 rfl) rfl (by show 2 * 0 + _ ≤ _; exact Nat.le_of_eq rfl) (hb hby at_82) (fun _ _ => ⟨rfl, e20, (by decide : 5 + 0 ≤ _), (by decide : 22 + 0 ≤ _)⟩)
  dsimp only [Pt.U, Pt.locs, Pt.cells, Pt.slots] at X22 l22 y22 z22 st22 hQ22
  subst l22 y22 z22
  obtain ⟨rfl, Nq22, Kq22, Bq22⟩ := hQ22
  have N22 := Fr.app N14 Nq22
  obtain ⟨E_b2_22, Fbounds_b2_22, Fbytes_b2_22, FaliasNodes_b2_22, FaliasCharacters_b2_22⟩ := Bq22
  have K22 := Kq22
  have E_b2_12_e22 := E_b2_12_e20.keep K22
  have O22 := O20.keep K22 (allS g_b2 all0)
  have KK22 : Keep h0 T22.heap [] := K20.trans K22 (allS (Or.inr sz_b2) all0)
  have hk := Nat.le_trans hk K22.1
  have k23 := fun (t : State) (kt : Steps p.tables e below (T22.setTop (mkF m 87 #[.val (.int p1), .val (.int p2), .val (.int p3), .val (.int p4), .val (.long (4194304 : Int64)), .second, .val (.ref b2), .val (.long (((4194304 : Int32).toInt64) - (0 : Int64))), .second, .val (.int va), .val (.long (((4194304 : Int32).toInt64) - ((0 : Int64) + (va.toInt64)))), .second, .val (.long vn), .second, .val (.long vh), .second, .unset, .unset, .unset, .unset, .unset] [(.ref b2)])) t) => k21 t (by
    refine st22.trans ?_
    show Steps p.tables e below (T22.setTop (mkF m 85 #[.val (.int p1), .val (.int p2), .val (.int p3), .val (.int p4), .val (.long (4194304 : Int64)), .second, .val (.ref b2), .val (.long (((4194304 : Int32).toInt64) - (0 : Int64))), .second, .val (.int va), .val (.long (((4194304 : Int32).toInt64) - ((0 : Int64) + (va.toInt64)))), .second, .val (.long vn), .second, .val (.long vh), .second, .unset, .unset, .unset, .unset, .unset] [])) _
    refine XS.aload X22.here hx rfl (hb hby at_85) rfl rfl ?_
    show Steps p.tables e below (T22.setTop (mkF m 87 #[.val (.int p1), .val (.int p2), .val (.int p3), .val (.int p4), .val (.long (4194304 : Int64)), .second, .val (.ref b2), .val (.long (((4194304 : Int32).toInt64) - (0 : Int64))), .second, .val (.int va), .val (.long (((4194304 : Int32).toInt64) - ((0 : Int64) + (va.toInt64)))), .second, .val (.long vn), .second, .val (.long vh), .second, .unset, .unset, .unset, .unset, .unset] [(.ref b2)])) _
    exact kt)
  obtain ⟨cq24, kq24, q24a, q24b, q24c⟩ := isOf hZ rfl E_b2_22
  obtain ⟨_, _, ⟨T24, L24, k24, n24⟩, -, X24, ⟨Lc24, hQ24, l24, y24, z24⟩, st24⟩ := X22.virtualBack hx (y := (⟨"com/example/palamedes/palamedes/core/ReadingBudget", "bytesLeft", "()J"⟩ : MethodName)) (z := (⟨"com/example/palamedes/palamedes/core/ReadingBudget", "bytesLeft", "()J"⟩ : MethodName)) hown (mvT hZ (hw _ (List.mem_of_getElem? (i := 18) rfl))) (mvT hZ (hw _ (List.mem_of_getElem? (i := 19) rfl))) (notFace_of_selects (args := #[]) (mvT hZ (hw _ (List.mem_of_getElem? (i := 21) rfl)))) (mvT hZ (hw _ (List.mem_of_getElem? (i := 21) rfl))) (mvT hZ (hw _ (List.mem_of_getElem? (i := 20) rfl))) (by decide) (backOf (W := 0) (rm4 l Z a0 hw [] b2 aDEFAULTS ((0 : Int64) + (va.toInt64)) ((0 : Int64) + vn) ((0 : Int64) + vh) (4194304 : Int32) (100000 : Int32) T22.heap n0 O22 ⟨E_b2_22, Fbounds_b2_22, Fbytes_b2_22, FaliasNodes_b2_22, FaliasCharacters_b2_22⟩ E_DEFAULTS F_DEFAULTS_fileSize F_DEFAULTS_aliasNodes) hZ (hw _ (List.mem_of_getElem? (i := 22) rfl)) (hw _ (List.mem_of_getElem? (i := 3) rfl)) (by decide) (by decide)) q24a q24c (g := (mkF m 87 #[.val (.int p1), .val (.int p2), .val (.int p3), .val (.int p4), .val (.long (4194304 : Int64)), .second, .val (.ref b2), .val (.long (((4194304 : Int32).toInt64) - (0 : Int64))), .second, .val (.int va), .val (.long (((4194304 : Int32).toInt64) - ((0 : Int64) + (va.toInt64)))), .second, .val (.long vn), .second, .val (.long vh), .second, .unset, .unset, .unset, .unset, .unset] [(.ref b2)])) rfl (by rw [hml]; rfl) (Steps.refl _) (argsL := []) (rest := []) (lenOf pd_2 rfl) rfl (by show 2 * 0 + _ ≤ _; exact Nat.le_of_eq rfl) (hb hby at_87) (fun _ _ => ⟨rfl, rfl, (by decide : 5 + 0 ≤ _), (by decide : 22 + 0 ≤ _)⟩)
  dsimp only [Pt.U, Pt.locs, Pt.cells, Pt.slots] at X24 l24 y24 z24 st24 hQ24
  subst l24 y24 z24
  obtain ⟨rfl, Nq24, eh24⟩ := hQ24
  have N24 := Fr.app N22 Nq24
  have k25 := fun (t : State) (kt : Steps p.tables e below (T24.setTop (mkF m 109 #[.val (.int p1), .val (.int p2), .val (.int p3), .val (.int p4), .val (.long (4194304 : Int64)), .second, .val (.ref b2), .val (.long (((4194304 : Int32).toInt64) - (0 : Int64))), .second, .val (.int va), .val (.long (((4194304 : Int32).toInt64) - ((0 : Int64) + (va.toInt64)))), .second, .val (.long vn), .second, .val (.long vh), .second, .val (.long (((4194304 : Int32).toInt64) - ((0 : Int64) + (va.toInt64)))), .second, .val (.int ((((p2 &&& (2147483647 : Int32)).toInt64) - (((p2 &&& (2147483647 : Int32)).toInt64) / (((4194304 : Int64) - (va.toInt64)) + (1 : Int64))) * (((4194304 : Int64) - (va.toInt64)) + (1 : Int64))).toInt32)), .unset, .unset] [])) t) => k23 t (by
    refine st24.trans ?_
    show Steps p.tables e below (T24.setTop (mkF m 90 #[.val (.int p1), .val (.int p2), .val (.int p3), .val (.int p4), .val (.long (4194304 : Int64)), .second, .val (.ref b2), .val (.long (((4194304 : Int32).toInt64) - (0 : Int64))), .second, .val (.int va), .val (.long (((4194304 : Int32).toInt64) - ((0 : Int64) + (va.toInt64)))), .second, .val (.long vn), .second, .val (.long vh), .second, .unset, .unset, .unset, .unset, .unset] [(.long (((4194304 : Int32).toInt64) - ((0 : Int64) + (va.toInt64))))])) _
    refine XS.lstore X24.here hx rfl (hb hby at_90) rfl (l' := #[.val (.int p1), .val (.int p2), .val (.int p3), .val (.int p4), .val (.long (4194304 : Int64)), .second, .val (.ref b2), .val (.long (((4194304 : Int32).toInt64) - (0 : Int64))), .second, .val (.int va), .val (.long (((4194304 : Int32).toInt64) - ((0 : Int64) + (va.toInt64)))), .second, .val (.long vn), .second, .val (.long vh), .second, .val (.long (((4194304 : Int32).toInt64) - ((0 : Int64) + (va.toInt64)))), .second, .unset, .unset, .unset]) rfl ?_
    show Steps p.tables e below (T24.setTop (mkF m 92 #[.val (.int p1), .val (.int p2), .val (.int p3), .val (.int p4), .val (.long (4194304 : Int64)), .second, .val (.ref b2), .val (.long (((4194304 : Int32).toInt64) - (0 : Int64))), .second, .val (.int va), .val (.long (((4194304 : Int32).toInt64) - ((0 : Int64) + (va.toInt64)))), .second, .val (.long vn), .second, .val (.long vh), .second, .val (.long (((4194304 : Int32).toInt64) - ((0 : Int64) + (va.toInt64)))), .second, .unset, .unset, .unset] [])) _
    refine XS.iloadN X24.here hx rfl (hb hby at_92) rfl ?_
    show Steps p.tables e below (T24.setTop (mkF m 93 #[.val (.int p1), .val (.int p2), .val (.int p3), .val (.int p4), .val (.long (4194304 : Int64)), .second, .val (.ref b2), .val (.long (((4194304 : Int32).toInt64) - (0 : Int64))), .second, .val (.int va), .val (.long (((4194304 : Int32).toInt64) - ((0 : Int64) + (va.toInt64)))), .second, .val (.long vn), .second, .val (.long vh), .second, .val (.long (((4194304 : Int32).toInt64) - ((0 : Int64) + (va.toInt64)))), .second, .unset, .unset, .unset] [(.int p2)])) _
    refine X24.ldcInt hx hown (mvT hZ (hw _ (List.mem_of_getElem? (i := 32) rfl))) (g := (mkF m 93 #[.val (.int p1), .val (.int p2), .val (.int p3), .val (.int p4), .val (.long (4194304 : Int64)), .second, .val (.ref b2), .val (.long (((4194304 : Int32).toInt64) - (0 : Int64))), .second, .val (.int va), .val (.long (((4194304 : Int32).toInt64) - ((0 : Int64) + (va.toInt64)))), .second, .val (.long vn), .second, .val (.long vh), .second, .val (.long (((4194304 : Int32).toInt64) - ((0 : Int64) + (va.toInt64)))), .second, .unset, .unset, .unset] [(.int p2)])) rfl (hb hby at_93) _ ?_
    show Steps p.tables e below (T24.setTop (mkF m 95 #[.val (.int p1), .val (.int p2), .val (.int p3), .val (.int p4), .val (.long (4194304 : Int64)), .second, .val (.ref b2), .val (.long (((4194304 : Int32).toInt64) - (0 : Int64))), .second, .val (.int va), .val (.long (((4194304 : Int32).toInt64) - ((0 : Int64) + (va.toInt64)))), .second, .val (.long vn), .second, .val (.long vh), .second, .val (.long (((4194304 : Int32).toInt64) - ((0 : Int64) + (va.toInt64)))), .second, .unset, .unset, .unset] [(.int (2147483647 : Int32)), (.int p2)])) _
    refine XS.iand X24.here hx rfl (hb hby at_95) rfl ?_
    show Steps p.tables e below (T24.setTop (mkF m 96 #[.val (.int p1), .val (.int p2), .val (.int p3), .val (.int p4), .val (.long (4194304 : Int64)), .second, .val (.ref b2), .val (.long (((4194304 : Int32).toInt64) - (0 : Int64))), .second, .val (.int va), .val (.long (((4194304 : Int32).toInt64) - ((0 : Int64) + (va.toInt64)))), .second, .val (.long vn), .second, .val (.long vh), .second, .val (.long (((4194304 : Int32).toInt64) - ((0 : Int64) + (va.toInt64)))), .second, .unset, .unset, .unset] [(.int (p2 &&& (2147483647 : Int32)))])) _
    refine XS.i2l X24.here hx rfl (hb hby at_96) rfl ?_
    show Steps p.tables e below (T24.setTop (mkF m 97 #[.val (.int p1), .val (.int p2), .val (.int p3), .val (.int p4), .val (.long (4194304 : Int64)), .second, .val (.ref b2), .val (.long (((4194304 : Int32).toInt64) - (0 : Int64))), .second, .val (.int va), .val (.long (((4194304 : Int32).toInt64) - ((0 : Int64) + (va.toInt64)))), .second, .val (.long vn), .second, .val (.long vh), .second, .val (.long (((4194304 : Int32).toInt64) - ((0 : Int64) + (va.toInt64)))), .second, .unset, .unset, .unset] [(.long ((p2 &&& (2147483647 : Int32)).toInt64))])) _
    refine XS.lload X24.here hx rfl (hb hby at_97) rfl ?_
    show Steps p.tables e below (T24.setTop (mkF m 99 #[.val (.int p1), .val (.int p2), .val (.int p3), .val (.int p4), .val (.long (4194304 : Int64)), .second, .val (.ref b2), .val (.long (((4194304 : Int32).toInt64) - (0 : Int64))), .second, .val (.int va), .val (.long (((4194304 : Int32).toInt64) - ((0 : Int64) + (va.toInt64)))), .second, .val (.long vn), .second, .val (.long vh), .second, .val (.long (((4194304 : Int32).toInt64) - ((0 : Int64) + (va.toInt64)))), .second, .unset, .unset, .unset] [(.long (4194304 : Int64)), (.long ((p2 &&& (2147483647 : Int32)).toInt64))])) _
    refine XS.iload X24.here hx rfl (hb hby at_99) rfl ?_
    show Steps p.tables e below (T24.setTop (mkF m 101 #[.val (.int p1), .val (.int p2), .val (.int p3), .val (.int p4), .val (.long (4194304 : Int64)), .second, .val (.ref b2), .val (.long (((4194304 : Int32).toInt64) - (0 : Int64))), .second, .val (.int va), .val (.long (((4194304 : Int32).toInt64) - ((0 : Int64) + (va.toInt64)))), .second, .val (.long vn), .second, .val (.long vh), .second, .val (.long (((4194304 : Int32).toInt64) - ((0 : Int64) + (va.toInt64)))), .second, .unset, .unset, .unset] [(.int va), (.long (4194304 : Int64)), (.long ((p2 &&& (2147483647 : Int32)).toInt64))])) _
    refine XS.i2l X24.here hx rfl (hb hby at_101) rfl ?_
    show Steps p.tables e below (T24.setTop (mkF m 102 #[.val (.int p1), .val (.int p2), .val (.int p3), .val (.int p4), .val (.long (4194304 : Int64)), .second, .val (.ref b2), .val (.long (((4194304 : Int32).toInt64) - (0 : Int64))), .second, .val (.int va), .val (.long (((4194304 : Int32).toInt64) - ((0 : Int64) + (va.toInt64)))), .second, .val (.long vn), .second, .val (.long vh), .second, .val (.long (((4194304 : Int32).toInt64) - ((0 : Int64) + (va.toInt64)))), .second, .unset, .unset, .unset] [(.long (va.toInt64)), (.long (4194304 : Int64)), (.long ((p2 &&& (2147483647 : Int32)).toInt64))])) _
    refine XS.lsub X24.here hx rfl (hb hby at_102) rfl ?_
    show Steps p.tables e below (T24.setTop (mkF m 103 #[.val (.int p1), .val (.int p2), .val (.int p3), .val (.int p4), .val (.long (4194304 : Int64)), .second, .val (.ref b2), .val (.long (((4194304 : Int32).toInt64) - (0 : Int64))), .second, .val (.int va), .val (.long (((4194304 : Int32).toInt64) - ((0 : Int64) + (va.toInt64)))), .second, .val (.long vn), .second, .val (.long vh), .second, .val (.long (((4194304 : Int32).toInt64) - ((0 : Int64) + (va.toInt64)))), .second, .unset, .unset, .unset] [(.long ((4194304 : Int64) - (va.toInt64))), (.long ((p2 &&& (2147483647 : Int32)).toInt64))])) _
    refine XS.lconst X24.here hx rfl (hb hby at_103) ?_
    show Steps p.tables e below (T24.setTop (mkF m 104 #[.val (.int p1), .val (.int p2), .val (.int p3), .val (.int p4), .val (.long (4194304 : Int64)), .second, .val (.ref b2), .val (.long (((4194304 : Int32).toInt64) - (0 : Int64))), .second, .val (.int va), .val (.long (((4194304 : Int32).toInt64) - ((0 : Int64) + (va.toInt64)))), .second, .val (.long vn), .second, .val (.long vh), .second, .val (.long (((4194304 : Int32).toInt64) - ((0 : Int64) + (va.toInt64)))), .second, .unset, .unset, .unset] [(.long (1 : Int64)), (.long ((4194304 : Int64) - (va.toInt64))), (.long ((p2 &&& (2147483647 : Int32)).toInt64))])) _
    refine XS.ladd X24.here hx rfl (hb hby at_104) rfl ?_
    show Steps p.tables e below (T24.setTop (mkF m 105 #[.val (.int p1), .val (.int p2), .val (.int p3), .val (.int p4), .val (.long (4194304 : Int64)), .second, .val (.ref b2), .val (.long (((4194304 : Int32).toInt64) - (0 : Int64))), .second, .val (.int va), .val (.long (((4194304 : Int32).toInt64) - ((0 : Int64) + (va.toInt64)))), .second, .val (.long vn), .second, .val (.long vh), .second, .val (.long (((4194304 : Int32).toInt64) - ((0 : Int64) + (va.toInt64)))), .second, .unset, .unset, .unset] [(.long (((4194304 : Int64) - (va.toInt64)) + (1 : Int64))), (.long ((p2 &&& (2147483647 : Int32)).toInt64))])) _
    refine XS.lrem X24.here hx rfl (hb hby at_105) rfl (own_nz ha0 ha1) ?_
    show Steps p.tables e below (T24.setTop (mkF m 106 #[.val (.int p1), .val (.int p2), .val (.int p3), .val (.int p4), .val (.long (4194304 : Int64)), .second, .val (.ref b2), .val (.long (((4194304 : Int32).toInt64) - (0 : Int64))), .second, .val (.int va), .val (.long (((4194304 : Int32).toInt64) - ((0 : Int64) + (va.toInt64)))), .second, .val (.long vn), .second, .val (.long vh), .second, .val (.long (((4194304 : Int32).toInt64) - ((0 : Int64) + (va.toInt64)))), .second, .unset, .unset, .unset] [(.long (((p2 &&& (2147483647 : Int32)).toInt64) - (((p2 &&& (2147483647 : Int32)).toInt64) / (((4194304 : Int64) - (va.toInt64)) + (1 : Int64))) * (((4194304 : Int64) - (va.toInt64)) + (1 : Int64))))])) _
    refine XS.l2i X24.here hx rfl (hb hby at_106) rfl ?_
    show Steps p.tables e below (T24.setTop (mkF m 107 #[.val (.int p1), .val (.int p2), .val (.int p3), .val (.int p4), .val (.long (4194304 : Int64)), .second, .val (.ref b2), .val (.long (((4194304 : Int32).toInt64) - (0 : Int64))), .second, .val (.int va), .val (.long (((4194304 : Int32).toInt64) - ((0 : Int64) + (va.toInt64)))), .second, .val (.long vn), .second, .val (.long vh), .second, .val (.long (((4194304 : Int32).toInt64) - ((0 : Int64) + (va.toInt64)))), .second, .unset, .unset, .unset] [(.int ((((p2 &&& (2147483647 : Int32)).toInt64) - (((p2 &&& (2147483647 : Int32)).toInt64) / (((4194304 : Int64) - (va.toInt64)) + (1 : Int64))) * (((4194304 : Int64) - (va.toInt64)) + (1 : Int64))).toInt32))])) _
    refine XS.istore X24.here hx rfl (hb hby at_107) rfl (l' := #[.val (.int p1), .val (.int p2), .val (.int p3), .val (.int p4), .val (.long (4194304 : Int64)), .second, .val (.ref b2), .val (.long (((4194304 : Int32).toInt64) - (0 : Int64))), .second, .val (.int va), .val (.long (((4194304 : Int32).toInt64) - ((0 : Int64) + (va.toInt64)))), .second, .val (.long vn), .second, .val (.long vh), .second, .val (.long (((4194304 : Int32).toInt64) - ((0 : Int64) + (va.toInt64)))), .second, .val (.int ((((p2 &&& (2147483647 : Int32)).toInt64) - (((p2 &&& (2147483647 : Int32)).toInt64) / (((4194304 : Int64) - (va.toInt64)) + (1 : Int64))) * (((4194304 : Int64) - (va.toInt64)) + (1 : Int64))).toInt32)), .unset, .unset]) rfl ?_
    show Steps p.tables e below (T24.setTop (mkF m 109 #[.val (.int p1), .val (.int p2), .val (.int p3), .val (.int p4), .val (.long (4194304 : Int64)), .second, .val (.ref b2), .val (.long (((4194304 : Int32).toInt64) - (0 : Int64))), .second, .val (.int va), .val (.long (((4194304 : Int32).toInt64) - ((0 : Int64) + (va.toInt64)))), .second, .val (.long vn), .second, .val (.long vh), .second, .val (.long (((4194304 : Int32).toInt64) - ((0 : Int64) + (va.toInt64)))), .second, .val (.int ((((p2 &&& (2147483647 : Int32)).toInt64) - (((p2 &&& (2147483647 : Int32)).toInt64) / (((4194304 : Int64) - (va.toInt64)) + (1 : Int64))) * (((4194304 : Int64) - (va.toInt64)) + (1 : Int64))).toInt32)), .unset, .unset] [])) _
    exact kt)
  obtain ⟨vc, hc0, hc1, k26⟩ : ∃ vc : Int32, (0 ≤ vc.toInt) ∧ (vc.toInt ≤ 4194304 - va.toInt) ∧ ∀ t, Steps p.tables e below (T24.setTop (mkF m 109 #[.val (.int p1), .val (.int p2), .val (.int p3), .val (.int p4), .val (.long (4194304 : Int64)), .second, .val (.ref b2), .val (.long (((4194304 : Int32).toInt64) - (0 : Int64))), .second, .val (.int va), .val (.long (((4194304 : Int32).toInt64) - ((0 : Int64) + (va.toInt64)))), .second, .val (.long vn), .second, .val (.long vh), .second, .val (.long (((4194304 : Int32).toInt64) - ((0 : Int64) + (va.toInt64)))), .second, .val (.int vc), .unset, .unset] [])) t → Steps p.tables e below (s₁.setTop (entryFrame m #[(.int p1), (.int p2), (.int p3), (.int p4)] maxLocals)) t := ⟨((((p2 &&& (2147483647 : Int32)).toInt64) - (((p2 &&& (2147483647 : Int32)).toInt64) / (((4194304 : Int64) - (va.toInt64)) + (1 : Int64))) * (((4194304 : Int64) - (va.toInt64)) + (1 : Int64))).toInt32), (own_c p2 ha0 ha1).1, (own_c p2 ha0 ha1).2, k25⟩
  have k27 := fun (t : State) (kt : Steps p.tables e below (T24.setTop (mkF m 111 #[.val (.int p1), .val (.int p2), .val (.int p3), .val (.int p4), .val (.long (4194304 : Int64)), .second, .val (.ref b2), .val (.long (((4194304 : Int32).toInt64) - (0 : Int64))), .second, .val (.int va), .val (.long (((4194304 : Int32).toInt64) - ((0 : Int64) + (va.toInt64)))), .second, .val (.long vn), .second, .val (.long vh), .second, .val (.long (((4194304 : Int32).toInt64) - ((0 : Int64) + (va.toInt64)))), .second, .val (.int vc), .unset, .unset] [(.ref b2)])) t) => k26 t (by
    refine XS.aload X24.here hx rfl (hb hby at_109) rfl rfl ?_
    show Steps p.tables e below (T24.setTop (mkF m 111 #[.val (.int p1), .val (.int p2), .val (.int p3), .val (.int p4), .val (.long (4194304 : Int64)), .second, .val (.ref b2), .val (.long (((4194304 : Int32).toInt64) - (0 : Int64))), .second, .val (.int va), .val (.long (((4194304 : Int32).toInt64) - ((0 : Int64) + (va.toInt64)))), .second, .val (.long vn), .second, .val (.long vh), .second, .val (.long (((4194304 : Int32).toInt64) - ((0 : Int64) + (va.toInt64)))), .second, .val (.int vc), .unset, .unset] [(.ref b2)])) _
    exact kt)
  obtain ⟨b28, T28, h28, k128, X28, e28, E28, hS, hk, hZ, hown, st28⟩ := ldcS (s := s) X24 hx hZ hown (hw _ (List.mem_of_getElem? (i := 69) rfl)) wS eh24 hS hk (g := (mkF m 111 #[.val (.int p1), .val (.int p2), .val (.int p3), .val (.int p4), .val (.long (4194304 : Int64)), .second, .val (.ref b2), .val (.long (((4194304 : Int32).toInt64) - (0 : Int64))), .second, .val (.int va), .val (.long (((4194304 : Int32).toInt64) - ((0 : Int64) + (va.toInt64)))), .second, .val (.long vn), .second, .val (.long vh), .second, .val (.long (((4194304 : Int32).toInt64) - ((0 : Int64) + (va.toInt64)))), .second, .val (.int vc), .unset, .unset] [(.ref b2)])) rfl (hb hby at_111) (n := 4) (by decide) (by decide) (by decide) (by decide)
  have E_b2_22_e28 := E_b2_22.ext E28
  have Fbounds_b2_22_e28 := Fbounds_b2_22.ext E28
  have Fbytes_b2_22_e28 := Fbytes_b2_22.ext E28
  have FaliasNodes_b2_22_e28 := FaliasNodes_b2_22.ext E28
  have FaliasCharacters_b2_22_e28 := FaliasCharacters_b2_22.ext E28
  have O28 := O22.ext E28
  have K28 : Keep h0 h28 [] := KK22.ext E28
  have k29 := fun (t : State) (kt : Steps p.tables e below (T28.setTop (mkF m 115 #[.val (.int p1), .val (.int p2), .val (.int p3), .val (.int p4), .val (.long (4194304 : Int64)), .second, .val (.ref b2), .val (.long (((4194304 : Int32).toInt64) - (0 : Int64))), .second, .val (.int va), .val (.long (((4194304 : Int32).toInt64) - ((0 : Int64) + (va.toInt64)))), .second, .val (.long vn), .second, .val (.long vh), .second, .val (.long (((4194304 : Int32).toInt64) - ((0 : Int64) + (va.toInt64)))), .second, .val (.int vc), .unset, .unset] [(.int vc), (.ref b28), (.ref b2)])) t) => k27 t (by
    refine st28 _ ?_
    show Steps p.tables e below (T28.setTop (mkF m 113 #[.val (.int p1), .val (.int p2), .val (.int p3), .val (.int p4), .val (.long (4194304 : Int64)), .second, .val (.ref b2), .val (.long (((4194304 : Int32).toInt64) - (0 : Int64))), .second, .val (.int va), .val (.long (((4194304 : Int32).toInt64) - ((0 : Int64) + (va.toInt64)))), .second, .val (.long vn), .second, .val (.long vh), .second, .val (.long (((4194304 : Int32).toInt64) - ((0 : Int64) + (va.toInt64)))), .second, .val (.int vc), .unset, .unset] [(.ref b28), (.ref b2)])) _
    refine XS.iload X28.here hx rfl (hb hby at_113) rfl ?_
    show Steps p.tables e below (T28.setTop (mkF m 115 #[.val (.int p1), .val (.int p2), .val (.int p3), .val (.int p4), .val (.long (4194304 : Int64)), .second, .val (.ref b2), .val (.long (((4194304 : Int32).toInt64) - (0 : Int64))), .second, .val (.int va), .val (.long (((4194304 : Int32).toInt64) - ((0 : Int64) + (va.toInt64)))), .second, .val (.long vn), .second, .val (.long vh), .second, .val (.long (((4194304 : Int32).toInt64) - ((0 : Int64) + (va.toInt64)))), .second, .val (.int vc), .unset, .unset] [(.int vc), (.ref b28), (.ref b2)])) _
    exact kt)
  obtain ⟨cq30, kq30, q30a, q30b, q30c⟩ := isOf hZ e28 E_b2_22_e28
  obtain ⟨_, _, ⟨T30, L30, k30, n30⟩, -, X30, ⟨Lc30, hQ30, l30, y30, z30⟩, st30⟩ := X28.virtualBack hx (y := (⟨"com/example/palamedes/palamedes/core/ReadingBudget", "takeBytes", "(Ljava/lang/String;I)V"⟩ : MethodName)) (z := (⟨"com/example/palamedes/palamedes/core/ReadingBudget", "takeBytes", "(Ljava/lang/String;I)V"⟩ : MethodName)) hown (mvT hZ (hw _ (List.mem_of_getElem? (i := 41) rfl))) (mvT hZ (hw _ (List.mem_of_getElem? (i := 42) rfl))) (notFace_of_selects (args := #[]) (mvT hZ (hw _ (List.mem_of_getElem? (i := 44) rfl)))) (mvT hZ (hw _ (List.mem_of_getElem? (i := 44) rfl))) (mvT hZ (hw _ (List.mem_of_getElem? (i := 43) rfl))) (by decide) (backOf (W := 0) (rm6 l Z a0 hw [] b28 vc b2 aDEFAULTS ((0 : Int64) + (va.toInt64)) ((0 : Int64) + vn) ((0 : Int64) + vh) (4194304 : Int32) (100000 : Int32) h28 n0 O28 g_b2 ⟨E_b2_22_e28, Fbounds_b2_22_e28, Fbytes_b2_22_e28, FaliasNodes_b2_22_e28, FaliasCharacters_b2_22_e28⟩ (own_le2 ha0 ha1 hc1) E_DEFAULTS F_DEFAULTS_fileSize F_DEFAULTS_aliasNodes) hZ (hw _ (List.mem_of_getElem? (i := 45) rfl)) (hw _ (List.mem_of_getElem? (i := 3) rfl)) (by decide) (by decide)) q30a q30c (g := (mkF m 115 #[.val (.int p1), .val (.int p2), .val (.int p3), .val (.int p4), .val (.long (4194304 : Int64)), .second, .val (.ref b2), .val (.long (((4194304 : Int32).toInt64) - (0 : Int64))), .second, .val (.int va), .val (.long (((4194304 : Int32).toInt64) - ((0 : Int64) + (va.toInt64)))), .second, .val (.long vn), .second, .val (.long vh), .second, .val (.long (((4194304 : Int32).toInt64) - ((0 : Int64) + (va.toInt64)))), .second, .val (.int vc), .unset, .unset] [(.int vc), (.ref b28), (.ref b2)])) rfl (by rw [hml]; rfl) (Steps.refl _) (argsL := [(.ref b28), (.int vc)]) (rest := []) (lenOf pd_4 rfl) rfl (by show 2 * 0 + _ ≤ _; exact Nat.le_of_eq rfl) (hb hby at_115) (fun _ _ => ⟨rfl, e28, (by decide : 7 + 0 ≤ _), (by decide : 30 + 0 ≤ _)⟩)
  dsimp only [Pt.U, Pt.locs, Pt.cells, Pt.slots] at X30 l30 y30 z30 st30 hQ30
  subst l30 y30 z30
  obtain ⟨rfl, Nq30, Kq30, Bq30⟩ := hQ30
  have N30 := Fr.app N24 Nq30
  obtain ⟨E_b2_30, Fbounds_b2_30, Fbytes_b2_30, FaliasNodes_b2_30, FaliasCharacters_b2_30⟩ := Bq30
  have K30 := Kq30
  have E_b2_22_e30 := E_b2_22_e28.keep K30
  have O30 := O28.keep K30 (allS g_b2 all0)
  have KK30 : Keep h0 T30.heap [] := K28.trans K30 (allS (Or.inr sz_b2) all0)
  have hk := Nat.le_trans hk K30.1
  have k31 := fun (t : State) (kt : Steps p.tables e below (T30.setTop (mkF m 120 #[.val (.int p1), .val (.int p2), .val (.int p3), .val (.int p4), .val (.long (4194304 : Int64)), .second, .val (.ref b2), .val (.long (((4194304 : Int32).toInt64) - (0 : Int64))), .second, .val (.int va), .val (.long (((4194304 : Int32).toInt64) - ((0 : Int64) + (va.toInt64)))), .second, .val (.long vn), .second, .val (.long vh), .second, .val (.long (((4194304 : Int32).toInt64) - ((0 : Int64) + (va.toInt64)))), .second, .val (.int vc), .unset, .unset] [(.ref b2)])) t) => k29 t (by
    refine st30.trans ?_
    show Steps p.tables e below (T30.setTop (mkF m 118 #[.val (.int p1), .val (.int p2), .val (.int p3), .val (.int p4), .val (.long (4194304 : Int64)), .second, .val (.ref b2), .val (.long (((4194304 : Int32).toInt64) - (0 : Int64))), .second, .val (.int va), .val (.long (((4194304 : Int32).toInt64) - ((0 : Int64) + (va.toInt64)))), .second, .val (.long vn), .second, .val (.long vh), .second, .val (.long (((4194304 : Int32).toInt64) - ((0 : Int64) + (va.toInt64)))), .second, .val (.int vc), .unset, .unset] [])) _
    refine XS.aload X30.here hx rfl (hb hby at_118) rfl rfl ?_
    show Steps p.tables e below (T30.setTop (mkF m 120 #[.val (.int p1), .val (.int p2), .val (.int p3), .val (.int p4), .val (.long (4194304 : Int64)), .second, .val (.ref b2), .val (.long (((4194304 : Int32).toInt64) - (0 : Int64))), .second, .val (.int va), .val (.long (((4194304 : Int32).toInt64) - ((0 : Int64) + (va.toInt64)))), .second, .val (.long vn), .second, .val (.long vh), .second, .val (.long (((4194304 : Int32).toInt64) - ((0 : Int64) + (va.toInt64)))), .second, .val (.int vc), .unset, .unset] [(.ref b2)])) _
    exact kt)
  obtain ⟨cq32, kq32, q32a, q32b, q32c⟩ := isOf hZ rfl E_b2_30
  obtain ⟨_, _, ⟨T32, L32, k32, n32⟩, -, X32, ⟨Lc32, hQ32, l32, y32, z32⟩, st32⟩ := X30.virtualBack hx (y := (⟨"com/example/palamedes/palamedes/core/ReadingBudget", "bytesLeft", "()J"⟩ : MethodName)) (z := (⟨"com/example/palamedes/palamedes/core/ReadingBudget", "bytesLeft", "()J"⟩ : MethodName)) hown (mvT hZ (hw _ (List.mem_of_getElem? (i := 18) rfl))) (mvT hZ (hw _ (List.mem_of_getElem? (i := 19) rfl))) (notFace_of_selects (args := #[]) (mvT hZ (hw _ (List.mem_of_getElem? (i := 21) rfl)))) (mvT hZ (hw _ (List.mem_of_getElem? (i := 21) rfl))) (mvT hZ (hw _ (List.mem_of_getElem? (i := 20) rfl))) (by decide) (backOf (W := 0) (rm4 l Z a0 hw [] b2 aDEFAULTS (((0 : Int64) + (va.toInt64)) + (vc.toInt64)) ((0 : Int64) + vn) ((0 : Int64) + vh) (4194304 : Int32) (100000 : Int32) T30.heap n0 O30 ⟨E_b2_30, Fbounds_b2_30, Fbytes_b2_30, FaliasNodes_b2_30, FaliasCharacters_b2_30⟩ E_DEFAULTS F_DEFAULTS_fileSize F_DEFAULTS_aliasNodes) hZ (hw _ (List.mem_of_getElem? (i := 22) rfl)) (hw _ (List.mem_of_getElem? (i := 3) rfl)) (by decide) (by decide)) q32a q32c (g := (mkF m 120 #[.val (.int p1), .val (.int p2), .val (.int p3), .val (.int p4), .val (.long (4194304 : Int64)), .second, .val (.ref b2), .val (.long (((4194304 : Int32).toInt64) - (0 : Int64))), .second, .val (.int va), .val (.long (((4194304 : Int32).toInt64) - ((0 : Int64) + (va.toInt64)))), .second, .val (.long vn), .second, .val (.long vh), .second, .val (.long (((4194304 : Int32).toInt64) - ((0 : Int64) + (va.toInt64)))), .second, .val (.int vc), .unset, .unset] [(.ref b2)])) rfl (by rw [hml]; rfl) (Steps.refl _) (argsL := []) (rest := []) (lenOf pd_2 rfl) rfl (by show 2 * 0 + _ ≤ _; exact Nat.le_of_eq rfl) (hb hby at_120) (fun _ _ => ⟨rfl, rfl, (by decide : 7 + 0 ≤ _), (by decide : 30 + 0 ≤ _)⟩)
  dsimp only [Pt.U, Pt.locs, Pt.cells, Pt.slots] at X32 l32 y32 z32 st32 hQ32
  subst l32 y32 z32
  obtain ⟨rfl, Nq32, eh32⟩ := hQ32
  have N32 := Fr.app N30 Nq32
  have k33 := fun (t : State) (kt : Steps p.tables e below (T32.setTop (mkF m 130 #[.val (.int p1), .val (.int p2), .val (.int p3), .val (.int p4), .val (.long (4194304 : Int64)), .second, .val (.ref b2), .val (.long (((4194304 : Int32).toInt64) - (0 : Int64))), .second, .val (.int va), .val (.long (((4194304 : Int32).toInt64) - ((0 : Int64) + (va.toInt64)))), .second, .val (.long vn), .second, .val (.long vh), .second, .val (.long (((4194304 : Int32).toInt64) - ((0 : Int64) + (va.toInt64)))), .second, .val (.int vc), .val (.long (((4194304 : Int32).toInt64) - (((0 : Int64) + (va.toInt64)) + (vc.toInt64)))), .second] [(.int (lcmpW (((4194304 : Int32).toInt64) - (0 : Int64)) (4194304 : Int64)))])) t) => k31 t (by
    refine st32.trans ?_
    show Steps p.tables e below (T32.setTop (mkF m 123 #[.val (.int p1), .val (.int p2), .val (.int p3), .val (.int p4), .val (.long (4194304 : Int64)), .second, .val (.ref b2), .val (.long (((4194304 : Int32).toInt64) - (0 : Int64))), .second, .val (.int va), .val (.long (((4194304 : Int32).toInt64) - ((0 : Int64) + (va.toInt64)))), .second, .val (.long vn), .second, .val (.long vh), .second, .val (.long (((4194304 : Int32).toInt64) - ((0 : Int64) + (va.toInt64)))), .second, .val (.int vc), .unset, .unset] [(.long (((4194304 : Int32).toInt64) - (((0 : Int64) + (va.toInt64)) + (vc.toInt64))))])) _
    refine XS.lstore X32.here hx rfl (hb hby at_123) rfl (l' := #[.val (.int p1), .val (.int p2), .val (.int p3), .val (.int p4), .val (.long (4194304 : Int64)), .second, .val (.ref b2), .val (.long (((4194304 : Int32).toInt64) - (0 : Int64))), .second, .val (.int va), .val (.long (((4194304 : Int32).toInt64) - ((0 : Int64) + (va.toInt64)))), .second, .val (.long vn), .second, .val (.long vh), .second, .val (.long (((4194304 : Int32).toInt64) - ((0 : Int64) + (va.toInt64)))), .second, .val (.int vc), .val (.long (((4194304 : Int32).toInt64) - (((0 : Int64) + (va.toInt64)) + (vc.toInt64)))), .second]) rfl ?_
    show Steps p.tables e below (T32.setTop (mkF m 125 #[.val (.int p1), .val (.int p2), .val (.int p3), .val (.int p4), .val (.long (4194304 : Int64)), .second, .val (.ref b2), .val (.long (((4194304 : Int32).toInt64) - (0 : Int64))), .second, .val (.int va), .val (.long (((4194304 : Int32).toInt64) - ((0 : Int64) + (va.toInt64)))), .second, .val (.long vn), .second, .val (.long vh), .second, .val (.long (((4194304 : Int32).toInt64) - ((0 : Int64) + (va.toInt64)))), .second, .val (.int vc), .val (.long (((4194304 : Int32).toInt64) - (((0 : Int64) + (va.toInt64)) + (vc.toInt64)))), .second] [])) _
    refine XS.lload X32.here hx rfl (hb hby at_125) rfl ?_
    show Steps p.tables e below (T32.setTop (mkF m 127 #[.val (.int p1), .val (.int p2), .val (.int p3), .val (.int p4), .val (.long (4194304 : Int64)), .second, .val (.ref b2), .val (.long (((4194304 : Int32).toInt64) - (0 : Int64))), .second, .val (.int va), .val (.long (((4194304 : Int32).toInt64) - ((0 : Int64) + (va.toInt64)))), .second, .val (.long vn), .second, .val (.long vh), .second, .val (.long (((4194304 : Int32).toInt64) - ((0 : Int64) + (va.toInt64)))), .second, .val (.int vc), .val (.long (((4194304 : Int32).toInt64) - (((0 : Int64) + (va.toInt64)) + (vc.toInt64)))), .second] [(.long (((4194304 : Int32).toInt64) - (0 : Int64)))])) _
    refine XS.lload X32.here hx rfl (hb hby at_127) rfl ?_
    show Steps p.tables e below (T32.setTop (mkF m 129 #[.val (.int p1), .val (.int p2), .val (.int p3), .val (.int p4), .val (.long (4194304 : Int64)), .second, .val (.ref b2), .val (.long (((4194304 : Int32).toInt64) - (0 : Int64))), .second, .val (.int va), .val (.long (((4194304 : Int32).toInt64) - ((0 : Int64) + (va.toInt64)))), .second, .val (.long vn), .second, .val (.long vh), .second, .val (.long (((4194304 : Int32).toInt64) - ((0 : Int64) + (va.toInt64)))), .second, .val (.int vc), .val (.long (((4194304 : Int32).toInt64) - (((0 : Int64) + (va.toInt64)) + (vc.toInt64)))), .second] [(.long (4194304 : Int64)), (.long (((4194304 : Int32).toInt64) - (0 : Int64)))])) _
    refine XS.lcmp X32.here hx rfl (hb hby at_129) rfl ?_
    show Steps p.tables e below (T32.setTop (mkF m 130 #[.val (.int p1), .val (.int p2), .val (.int p3), .val (.int p4), .val (.long (4194304 : Int64)), .second, .val (.ref b2), .val (.long (((4194304 : Int32).toInt64) - (0 : Int64))), .second, .val (.int va), .val (.long (((4194304 : Int32).toInt64) - ((0 : Int64) + (va.toInt64)))), .second, .val (.long vn), .second, .val (.long vh), .second, .val (.long (((4194304 : Int32).toInt64) - ((0 : Int64) + (va.toInt64)))), .second, .val (.int vc), .val (.long (((4194304 : Int32).toInt64) - (((0 : Int64) + (va.toInt64)) + (vc.toInt64)))), .second] [(.int (lcmpW (((4194304 : Int32).toInt64) - (0 : Int64)) (4194304 : Int64)))])) _
    exact kt)
  have k34 := fun (t : State) (kt : Steps p.tables e below (T32.setTop (mkF m 142 #[.val (.int p1), .val (.int p2), .val (.int p3), .val (.int p4), .val (.long (4194304 : Int64)), .second, .val (.ref b2), .val (.long (((4194304 : Int32).toInt64) - (0 : Int64))), .second, .val (.int va), .val (.long (((4194304 : Int32).toInt64) - ((0 : Int64) + (va.toInt64)))), .second, .val (.long vn), .second, .val (.long vh), .second, .val (.long (((4194304 : Int32).toInt64) - ((0 : Int64) + (va.toInt64)))), .second, .val (.int vc), .val (.long (((4194304 : Int32).toInt64) - (((0 : Int64) + (va.toInt64)) + (vc.toInt64)))), .second] [(.int (lcmpW (((4194304 : Int32).toInt64) - ((0 : Int64) + (va.toInt64))) ((4194304 : Int64) - (va.toInt64))))])) t) => k33 t (by
    refine XS.ifNo X32.here hx rfl (hb hby at_130) rfl ((if0 _ _).trans (teq ((lw_eq (((4194304 : Int32).toInt64) - (0 : Int64)) (4194304 : Int64)).mpr own_e0)).2) ?_
    show Steps p.tables e below (T32.setTop (mkF m 133 #[.val (.int p1), .val (.int p2), .val (.int p3), .val (.int p4), .val (.long (4194304 : Int64)), .second, .val (.ref b2), .val (.long (((4194304 : Int32).toInt64) - (0 : Int64))), .second, .val (.int va), .val (.long (((4194304 : Int32).toInt64) - ((0 : Int64) + (va.toInt64)))), .second, .val (.long vn), .second, .val (.long vh), .second, .val (.long (((4194304 : Int32).toInt64) - ((0 : Int64) + (va.toInt64)))), .second, .val (.int vc), .val (.long (((4194304 : Int32).toInt64) - (((0 : Int64) + (va.toInt64)) + (vc.toInt64)))), .second] [])) _
    refine XS.lload X32.here hx rfl (hb hby at_133) rfl ?_
    show Steps p.tables e below (T32.setTop (mkF m 135 #[.val (.int p1), .val (.int p2), .val (.int p3), .val (.int p4), .val (.long (4194304 : Int64)), .second, .val (.ref b2), .val (.long (((4194304 : Int32).toInt64) - (0 : Int64))), .second, .val (.int va), .val (.long (((4194304 : Int32).toInt64) - ((0 : Int64) + (va.toInt64)))), .second, .val (.long vn), .second, .val (.long vh), .second, .val (.long (((4194304 : Int32).toInt64) - ((0 : Int64) + (va.toInt64)))), .second, .val (.int vc), .val (.long (((4194304 : Int32).toInt64) - (((0 : Int64) + (va.toInt64)) + (vc.toInt64)))), .second] [(.long (((4194304 : Int32).toInt64) - ((0 : Int64) + (va.toInt64))))])) _
    refine XS.lload X32.here hx rfl (hb hby at_135) rfl ?_
    show Steps p.tables e below (T32.setTop (mkF m 137 #[.val (.int p1), .val (.int p2), .val (.int p3), .val (.int p4), .val (.long (4194304 : Int64)), .second, .val (.ref b2), .val (.long (((4194304 : Int32).toInt64) - (0 : Int64))), .second, .val (.int va), .val (.long (((4194304 : Int32).toInt64) - ((0 : Int64) + (va.toInt64)))), .second, .val (.long vn), .second, .val (.long vh), .second, .val (.long (((4194304 : Int32).toInt64) - ((0 : Int64) + (va.toInt64)))), .second, .val (.int vc), .val (.long (((4194304 : Int32).toInt64) - (((0 : Int64) + (va.toInt64)) + (vc.toInt64)))), .second] [(.long (4194304 : Int64)), (.long (((4194304 : Int32).toInt64) - ((0 : Int64) + (va.toInt64))))])) _
    refine XS.iload X32.here hx rfl (hb hby at_137) rfl ?_
    show Steps p.tables e below (T32.setTop (mkF m 139 #[.val (.int p1), .val (.int p2), .val (.int p3), .val (.int p4), .val (.long (4194304 : Int64)), .second, .val (.ref b2), .val (.long (((4194304 : Int32).toInt64) - (0 : Int64))), .second, .val (.int va), .val (.long (((4194304 : Int32).toInt64) - ((0 : Int64) + (va.toInt64)))), .second, .val (.long vn), .second, .val (.long vh), .second, .val (.long (((4194304 : Int32).toInt64) - ((0 : Int64) + (va.toInt64)))), .second, .val (.int vc), .val (.long (((4194304 : Int32).toInt64) - (((0 : Int64) + (va.toInt64)) + (vc.toInt64)))), .second] [(.int va), (.long (4194304 : Int64)), (.long (((4194304 : Int32).toInt64) - ((0 : Int64) + (va.toInt64))))])) _
    refine XS.i2l X32.here hx rfl (hb hby at_139) rfl ?_
    show Steps p.tables e below (T32.setTop (mkF m 140 #[.val (.int p1), .val (.int p2), .val (.int p3), .val (.int p4), .val (.long (4194304 : Int64)), .second, .val (.ref b2), .val (.long (((4194304 : Int32).toInt64) - (0 : Int64))), .second, .val (.int va), .val (.long (((4194304 : Int32).toInt64) - ((0 : Int64) + (va.toInt64)))), .second, .val (.long vn), .second, .val (.long vh), .second, .val (.long (((4194304 : Int32).toInt64) - ((0 : Int64) + (va.toInt64)))), .second, .val (.int vc), .val (.long (((4194304 : Int32).toInt64) - (((0 : Int64) + (va.toInt64)) + (vc.toInt64)))), .second] [(.long (va.toInt64)), (.long (4194304 : Int64)), (.long (((4194304 : Int32).toInt64) - ((0 : Int64) + (va.toInt64))))])) _
    refine XS.lsub X32.here hx rfl (hb hby at_140) rfl ?_
    show Steps p.tables e below (T32.setTop (mkF m 141 #[.val (.int p1), .val (.int p2), .val (.int p3), .val (.int p4), .val (.long (4194304 : Int64)), .second, .val (.ref b2), .val (.long (((4194304 : Int32).toInt64) - (0 : Int64))), .second, .val (.int va), .val (.long (((4194304 : Int32).toInt64) - ((0 : Int64) + (va.toInt64)))), .second, .val (.long vn), .second, .val (.long vh), .second, .val (.long (((4194304 : Int32).toInt64) - ((0 : Int64) + (va.toInt64)))), .second, .val (.int vc), .val (.long (((4194304 : Int32).toInt64) - (((0 : Int64) + (va.toInt64)) + (vc.toInt64)))), .second] [(.long ((4194304 : Int64) - (va.toInt64))), (.long (((4194304 : Int32).toInt64) - ((0 : Int64) + (va.toInt64))))])) _
    refine XS.lcmp X32.here hx rfl (hb hby at_141) rfl ?_
    show Steps p.tables e below (T32.setTop (mkF m 142 #[.val (.int p1), .val (.int p2), .val (.int p3), .val (.int p4), .val (.long (4194304 : Int64)), .second, .val (.ref b2), .val (.long (((4194304 : Int32).toInt64) - (0 : Int64))), .second, .val (.int va), .val (.long (((4194304 : Int32).toInt64) - ((0 : Int64) + (va.toInt64)))), .second, .val (.long vn), .second, .val (.long vh), .second, .val (.long (((4194304 : Int32).toInt64) - ((0 : Int64) + (va.toInt64)))), .second, .val (.int vc), .val (.long (((4194304 : Int32).toInt64) - (((0 : Int64) + (va.toInt64)) + (vc.toInt64)))), .second] [(.int (lcmpW (((4194304 : Int32).toInt64) - ((0 : Int64) + (va.toInt64))) ((4194304 : Int64) - (va.toInt64))))])) _
    exact kt)
  have k35 := fun (t : State) (kt : Steps p.tables e below (T32.setTop (mkF m 154 #[.val (.int p1), .val (.int p2), .val (.int p3), .val (.int p4), .val (.long (4194304 : Int64)), .second, .val (.ref b2), .val (.long (((4194304 : Int32).toInt64) - (0 : Int64))), .second, .val (.int va), .val (.long (((4194304 : Int32).toInt64) - ((0 : Int64) + (va.toInt64)))), .second, .val (.long vn), .second, .val (.long vh), .second, .val (.long (((4194304 : Int32).toInt64) - ((0 : Int64) + (va.toInt64)))), .second, .val (.int vc), .val (.long (((4194304 : Int32).toInt64) - (((0 : Int64) + (va.toInt64)) + (vc.toInt64)))), .second] [(.int (lcmpW (((4194304 : Int32).toInt64) - ((0 : Int64) + (va.toInt64))) ((4194304 : Int64) - (va.toInt64))))])) t) => k34 t (by
    refine XS.ifNo X32.here hx rfl (hb hby at_142) rfl ((if0 _ _).trans (teq ((lw_eq (((4194304 : Int32).toInt64) - ((0 : Int64) + (va.toInt64))) ((4194304 : Int64) - (va.toInt64))).mpr own_e1)).2) ?_
    show Steps p.tables e below (T32.setTop (mkF m 145 #[.val (.int p1), .val (.int p2), .val (.int p3), .val (.int p4), .val (.long (4194304 : Int64)), .second, .val (.ref b2), .val (.long (((4194304 : Int32).toInt64) - (0 : Int64))), .second, .val (.int va), .val (.long (((4194304 : Int32).toInt64) - ((0 : Int64) + (va.toInt64)))), .second, .val (.long vn), .second, .val (.long vh), .second, .val (.long (((4194304 : Int32).toInt64) - ((0 : Int64) + (va.toInt64)))), .second, .val (.int vc), .val (.long (((4194304 : Int32).toInt64) - (((0 : Int64) + (va.toInt64)) + (vc.toInt64)))), .second] [])) _
    refine XS.lload X32.here hx rfl (hb hby at_145) rfl ?_
    show Steps p.tables e below (T32.setTop (mkF m 147 #[.val (.int p1), .val (.int p2), .val (.int p3), .val (.int p4), .val (.long (4194304 : Int64)), .second, .val (.ref b2), .val (.long (((4194304 : Int32).toInt64) - (0 : Int64))), .second, .val (.int va), .val (.long (((4194304 : Int32).toInt64) - ((0 : Int64) + (va.toInt64)))), .second, .val (.long vn), .second, .val (.long vh), .second, .val (.long (((4194304 : Int32).toInt64) - ((0 : Int64) + (va.toInt64)))), .second, .val (.int vc), .val (.long (((4194304 : Int32).toInt64) - (((0 : Int64) + (va.toInt64)) + (vc.toInt64)))), .second] [(.long (((4194304 : Int32).toInt64) - ((0 : Int64) + (va.toInt64))))])) _
    refine XS.lload X32.here hx rfl (hb hby at_147) rfl ?_
    show Steps p.tables e below (T32.setTop (mkF m 149 #[.val (.int p1), .val (.int p2), .val (.int p3), .val (.int p4), .val (.long (4194304 : Int64)), .second, .val (.ref b2), .val (.long (((4194304 : Int32).toInt64) - (0 : Int64))), .second, .val (.int va), .val (.long (((4194304 : Int32).toInt64) - ((0 : Int64) + (va.toInt64)))), .second, .val (.long vn), .second, .val (.long vh), .second, .val (.long (((4194304 : Int32).toInt64) - ((0 : Int64) + (va.toInt64)))), .second, .val (.int vc), .val (.long (((4194304 : Int32).toInt64) - (((0 : Int64) + (va.toInt64)) + (vc.toInt64)))), .second] [(.long (4194304 : Int64)), (.long (((4194304 : Int32).toInt64) - ((0 : Int64) + (va.toInt64))))])) _
    refine XS.iload X32.here hx rfl (hb hby at_149) rfl ?_
    show Steps p.tables e below (T32.setTop (mkF m 151 #[.val (.int p1), .val (.int p2), .val (.int p3), .val (.int p4), .val (.long (4194304 : Int64)), .second, .val (.ref b2), .val (.long (((4194304 : Int32).toInt64) - (0 : Int64))), .second, .val (.int va), .val (.long (((4194304 : Int32).toInt64) - ((0 : Int64) + (va.toInt64)))), .second, .val (.long vn), .second, .val (.long vh), .second, .val (.long (((4194304 : Int32).toInt64) - ((0 : Int64) + (va.toInt64)))), .second, .val (.int vc), .val (.long (((4194304 : Int32).toInt64) - (((0 : Int64) + (va.toInt64)) + (vc.toInt64)))), .second] [(.int va), (.long (4194304 : Int64)), (.long (((4194304 : Int32).toInt64) - ((0 : Int64) + (va.toInt64))))])) _
    refine XS.i2l X32.here hx rfl (hb hby at_151) rfl ?_
    show Steps p.tables e below (T32.setTop (mkF m 152 #[.val (.int p1), .val (.int p2), .val (.int p3), .val (.int p4), .val (.long (4194304 : Int64)), .second, .val (.ref b2), .val (.long (((4194304 : Int32).toInt64) - (0 : Int64))), .second, .val (.int va), .val (.long (((4194304 : Int32).toInt64) - ((0 : Int64) + (va.toInt64)))), .second, .val (.long vn), .second, .val (.long vh), .second, .val (.long (((4194304 : Int32).toInt64) - ((0 : Int64) + (va.toInt64)))), .second, .val (.int vc), .val (.long (((4194304 : Int32).toInt64) - (((0 : Int64) + (va.toInt64)) + (vc.toInt64)))), .second] [(.long (va.toInt64)), (.long (4194304 : Int64)), (.long (((4194304 : Int32).toInt64) - ((0 : Int64) + (va.toInt64))))])) _
    refine XS.lsub X32.here hx rfl (hb hby at_152) rfl ?_
    show Steps p.tables e below (T32.setTop (mkF m 153 #[.val (.int p1), .val (.int p2), .val (.int p3), .val (.int p4), .val (.long (4194304 : Int64)), .second, .val (.ref b2), .val (.long (((4194304 : Int32).toInt64) - (0 : Int64))), .second, .val (.int va), .val (.long (((4194304 : Int32).toInt64) - ((0 : Int64) + (va.toInt64)))), .second, .val (.long vn), .second, .val (.long vh), .second, .val (.long (((4194304 : Int32).toInt64) - ((0 : Int64) + (va.toInt64)))), .second, .val (.int vc), .val (.long (((4194304 : Int32).toInt64) - (((0 : Int64) + (va.toInt64)) + (vc.toInt64)))), .second] [(.long ((4194304 : Int64) - (va.toInt64))), (.long (((4194304 : Int32).toInt64) - ((0 : Int64) + (va.toInt64))))])) _
    refine XS.lcmp X32.here hx rfl (hb hby at_153) rfl ?_
    show Steps p.tables e below (T32.setTop (mkF m 154 #[.val (.int p1), .val (.int p2), .val (.int p3), .val (.int p4), .val (.long (4194304 : Int64)), .second, .val (.ref b2), .val (.long (((4194304 : Int32).toInt64) - (0 : Int64))), .second, .val (.int va), .val (.long (((4194304 : Int32).toInt64) - ((0 : Int64) + (va.toInt64)))), .second, .val (.long vn), .second, .val (.long vh), .second, .val (.long (((4194304 : Int32).toInt64) - ((0 : Int64) + (va.toInt64)))), .second, .val (.int vc), .val (.long (((4194304 : Int32).toInt64) - (((0 : Int64) + (va.toInt64)) + (vc.toInt64)))), .second] [(.int (lcmpW (((4194304 : Int32).toInt64) - ((0 : Int64) + (va.toInt64))) ((4194304 : Int64) - (va.toInt64))))])) _
    exact kt)
  have k36 := fun (t : State) (kt : Steps p.tables e below (T32.setTop (mkF m 170 #[.val (.int p1), .val (.int p2), .val (.int p3), .val (.int p4), .val (.long (4194304 : Int64)), .second, .val (.ref b2), .val (.long (((4194304 : Int32).toInt64) - (0 : Int64))), .second, .val (.int va), .val (.long (((4194304 : Int32).toInt64) - ((0 : Int64) + (va.toInt64)))), .second, .val (.long vn), .second, .val (.long vh), .second, .val (.long (((4194304 : Int32).toInt64) - ((0 : Int64) + (va.toInt64)))), .second, .val (.int vc), .val (.long (((4194304 : Int32).toInt64) - (((0 : Int64) + (va.toInt64)) + (vc.toInt64)))), .second] [(.int (lcmpW (((4194304 : Int32).toInt64) - (((0 : Int64) + (va.toInt64)) + (vc.toInt64))) (((4194304 : Int64) - (va.toInt64)) - (vc.toInt64))))])) t) => k35 t (by
    refine XS.ifNo X32.here hx rfl (hb hby at_154) rfl ((if0 _ _).trans (teq ((lw_eq (((4194304 : Int32).toInt64) - ((0 : Int64) + (va.toInt64))) ((4194304 : Int64) - (va.toInt64))).mpr own_e1)).2) ?_
    show Steps p.tables e below (T32.setTop (mkF m 157 #[.val (.int p1), .val (.int p2), .val (.int p3), .val (.int p4), .val (.long (4194304 : Int64)), .second, .val (.ref b2), .val (.long (((4194304 : Int32).toInt64) - (0 : Int64))), .second, .val (.int va), .val (.long (((4194304 : Int32).toInt64) - ((0 : Int64) + (va.toInt64)))), .second, .val (.long vn), .second, .val (.long vh), .second, .val (.long (((4194304 : Int32).toInt64) - ((0 : Int64) + (va.toInt64)))), .second, .val (.int vc), .val (.long (((4194304 : Int32).toInt64) - (((0 : Int64) + (va.toInt64)) + (vc.toInt64)))), .second] [])) _
    refine XS.lload X32.here hx rfl (hb hby at_157) rfl ?_
    show Steps p.tables e below (T32.setTop (mkF m 159 #[.val (.int p1), .val (.int p2), .val (.int p3), .val (.int p4), .val (.long (4194304 : Int64)), .second, .val (.ref b2), .val (.long (((4194304 : Int32).toInt64) - (0 : Int64))), .second, .val (.int va), .val (.long (((4194304 : Int32).toInt64) - ((0 : Int64) + (va.toInt64)))), .second, .val (.long vn), .second, .val (.long vh), .second, .val (.long (((4194304 : Int32).toInt64) - ((0 : Int64) + (va.toInt64)))), .second, .val (.int vc), .val (.long (((4194304 : Int32).toInt64) - (((0 : Int64) + (va.toInt64)) + (vc.toInt64)))), .second] [(.long (((4194304 : Int32).toInt64) - (((0 : Int64) + (va.toInt64)) + (vc.toInt64))))])) _
    refine XS.lload X32.here hx rfl (hb hby at_159) rfl ?_
    show Steps p.tables e below (T32.setTop (mkF m 161 #[.val (.int p1), .val (.int p2), .val (.int p3), .val (.int p4), .val (.long (4194304 : Int64)), .second, .val (.ref b2), .val (.long (((4194304 : Int32).toInt64) - (0 : Int64))), .second, .val (.int va), .val (.long (((4194304 : Int32).toInt64) - ((0 : Int64) + (va.toInt64)))), .second, .val (.long vn), .second, .val (.long vh), .second, .val (.long (((4194304 : Int32).toInt64) - ((0 : Int64) + (va.toInt64)))), .second, .val (.int vc), .val (.long (((4194304 : Int32).toInt64) - (((0 : Int64) + (va.toInt64)) + (vc.toInt64)))), .second] [(.long (4194304 : Int64)), (.long (((4194304 : Int32).toInt64) - (((0 : Int64) + (va.toInt64)) + (vc.toInt64))))])) _
    refine XS.iload X32.here hx rfl (hb hby at_161) rfl ?_
    show Steps p.tables e below (T32.setTop (mkF m 163 #[.val (.int p1), .val (.int p2), .val (.int p3), .val (.int p4), .val (.long (4194304 : Int64)), .second, .val (.ref b2), .val (.long (((4194304 : Int32).toInt64) - (0 : Int64))), .second, .val (.int va), .val (.long (((4194304 : Int32).toInt64) - ((0 : Int64) + (va.toInt64)))), .second, .val (.long vn), .second, .val (.long vh), .second, .val (.long (((4194304 : Int32).toInt64) - ((0 : Int64) + (va.toInt64)))), .second, .val (.int vc), .val (.long (((4194304 : Int32).toInt64) - (((0 : Int64) + (va.toInt64)) + (vc.toInt64)))), .second] [(.int va), (.long (4194304 : Int64)), (.long (((4194304 : Int32).toInt64) - (((0 : Int64) + (va.toInt64)) + (vc.toInt64))))])) _
    refine XS.i2l X32.here hx rfl (hb hby at_163) rfl ?_
    show Steps p.tables e below (T32.setTop (mkF m 164 #[.val (.int p1), .val (.int p2), .val (.int p3), .val (.int p4), .val (.long (4194304 : Int64)), .second, .val (.ref b2), .val (.long (((4194304 : Int32).toInt64) - (0 : Int64))), .second, .val (.int va), .val (.long (((4194304 : Int32).toInt64) - ((0 : Int64) + (va.toInt64)))), .second, .val (.long vn), .second, .val (.long vh), .second, .val (.long (((4194304 : Int32).toInt64) - ((0 : Int64) + (va.toInt64)))), .second, .val (.int vc), .val (.long (((4194304 : Int32).toInt64) - (((0 : Int64) + (va.toInt64)) + (vc.toInt64)))), .second] [(.long (va.toInt64)), (.long (4194304 : Int64)), (.long (((4194304 : Int32).toInt64) - (((0 : Int64) + (va.toInt64)) + (vc.toInt64))))])) _
    refine XS.lsub X32.here hx rfl (hb hby at_164) rfl ?_
    show Steps p.tables e below (T32.setTop (mkF m 165 #[.val (.int p1), .val (.int p2), .val (.int p3), .val (.int p4), .val (.long (4194304 : Int64)), .second, .val (.ref b2), .val (.long (((4194304 : Int32).toInt64) - (0 : Int64))), .second, .val (.int va), .val (.long (((4194304 : Int32).toInt64) - ((0 : Int64) + (va.toInt64)))), .second, .val (.long vn), .second, .val (.long vh), .second, .val (.long (((4194304 : Int32).toInt64) - ((0 : Int64) + (va.toInt64)))), .second, .val (.int vc), .val (.long (((4194304 : Int32).toInt64) - (((0 : Int64) + (va.toInt64)) + (vc.toInt64)))), .second] [(.long ((4194304 : Int64) - (va.toInt64))), (.long (((4194304 : Int32).toInt64) - (((0 : Int64) + (va.toInt64)) + (vc.toInt64))))])) _
    refine XS.iload X32.here hx rfl (hb hby at_165) rfl ?_
    show Steps p.tables e below (T32.setTop (mkF m 167 #[.val (.int p1), .val (.int p2), .val (.int p3), .val (.int p4), .val (.long (4194304 : Int64)), .second, .val (.ref b2), .val (.long (((4194304 : Int32).toInt64) - (0 : Int64))), .second, .val (.int va), .val (.long (((4194304 : Int32).toInt64) - ((0 : Int64) + (va.toInt64)))), .second, .val (.long vn), .second, .val (.long vh), .second, .val (.long (((4194304 : Int32).toInt64) - ((0 : Int64) + (va.toInt64)))), .second, .val (.int vc), .val (.long (((4194304 : Int32).toInt64) - (((0 : Int64) + (va.toInt64)) + (vc.toInt64)))), .second] [(.int vc), (.long ((4194304 : Int64) - (va.toInt64))), (.long (((4194304 : Int32).toInt64) - (((0 : Int64) + (va.toInt64)) + (vc.toInt64))))])) _
    refine XS.i2l X32.here hx rfl (hb hby at_167) rfl ?_
    show Steps p.tables e below (T32.setTop (mkF m 168 #[.val (.int p1), .val (.int p2), .val (.int p3), .val (.int p4), .val (.long (4194304 : Int64)), .second, .val (.ref b2), .val (.long (((4194304 : Int32).toInt64) - (0 : Int64))), .second, .val (.int va), .val (.long (((4194304 : Int32).toInt64) - ((0 : Int64) + (va.toInt64)))), .second, .val (.long vn), .second, .val (.long vh), .second, .val (.long (((4194304 : Int32).toInt64) - ((0 : Int64) + (va.toInt64)))), .second, .val (.int vc), .val (.long (((4194304 : Int32).toInt64) - (((0 : Int64) + (va.toInt64)) + (vc.toInt64)))), .second] [(.long (vc.toInt64)), (.long ((4194304 : Int64) - (va.toInt64))), (.long (((4194304 : Int32).toInt64) - (((0 : Int64) + (va.toInt64)) + (vc.toInt64))))])) _
    refine XS.lsub X32.here hx rfl (hb hby at_168) rfl ?_
    show Steps p.tables e below (T32.setTop (mkF m 169 #[.val (.int p1), .val (.int p2), .val (.int p3), .val (.int p4), .val (.long (4194304 : Int64)), .second, .val (.ref b2), .val (.long (((4194304 : Int32).toInt64) - (0 : Int64))), .second, .val (.int va), .val (.long (((4194304 : Int32).toInt64) - ((0 : Int64) + (va.toInt64)))), .second, .val (.long vn), .second, .val (.long vh), .second, .val (.long (((4194304 : Int32).toInt64) - ((0 : Int64) + (va.toInt64)))), .second, .val (.int vc), .val (.long (((4194304 : Int32).toInt64) - (((0 : Int64) + (va.toInt64)) + (vc.toInt64)))), .second] [(.long (((4194304 : Int64) - (va.toInt64)) - (vc.toInt64))), (.long (((4194304 : Int32).toInt64) - (((0 : Int64) + (va.toInt64)) + (vc.toInt64))))])) _
    refine XS.lcmp X32.here hx rfl (hb hby at_169) rfl ?_
    show Steps p.tables e below (T32.setTop (mkF m 170 #[.val (.int p1), .val (.int p2), .val (.int p3), .val (.int p4), .val (.long (4194304 : Int64)), .second, .val (.ref b2), .val (.long (((4194304 : Int32).toInt64) - (0 : Int64))), .second, .val (.int va), .val (.long (((4194304 : Int32).toInt64) - ((0 : Int64) + (va.toInt64)))), .second, .val (.long vn), .second, .val (.long vh), .second, .val (.long (((4194304 : Int32).toInt64) - ((0 : Int64) + (va.toInt64)))), .second, .val (.int vc), .val (.long (((4194304 : Int32).toInt64) - (((0 : Int64) + (va.toInt64)) + (vc.toInt64)))), .second] [(.int (lcmpW (((4194304 : Int32).toInt64) - (((0 : Int64) + (va.toInt64)) + (vc.toInt64))) (((4194304 : Int64) - (va.toInt64)) - (vc.toInt64))))])) _
    exact kt)
  have k37 := fun (t : State) (kt : Steps p.tables e below (T32.setTop (mkF m 178 #[.val (.int p1), .val (.int p2), .val (.int p3), .val (.int p4), .val (.long (4194304 : Int64)), .second, .val (.ref b2), .val (.long (((4194304 : Int32).toInt64) - (0 : Int64))), .second, .val (.int va), .val (.long (((4194304 : Int32).toInt64) - ((0 : Int64) + (va.toInt64)))), .second, .val (.long vn), .second, .val (.long vh), .second, .val (.long (((4194304 : Int32).toInt64) - ((0 : Int64) + (va.toInt64)))), .second, .val (.int vc), .val (.long (((4194304 : Int32).toInt64) - (((0 : Int64) + (va.toInt64)) + (vc.toInt64)))), .second] [(.int (1 : Int32))])) t) => k36 t (by
    refine XS.ifNo X32.here hx rfl (hb hby at_170) rfl ((if0 _ _).trans (teq ((lw_eq (((4194304 : Int32).toInt64) - (((0 : Int64) + (va.toInt64)) + (vc.toInt64))) (((4194304 : Int64) - (va.toInt64)) - (vc.toInt64))).mpr own_e3)).2) ?_
    show Steps p.tables e below (T32.setTop (mkF m 173 #[.val (.int p1), .val (.int p2), .val (.int p3), .val (.int p4), .val (.long (4194304 : Int64)), .second, .val (.ref b2), .val (.long (((4194304 : Int32).toInt64) - (0 : Int64))), .second, .val (.int va), .val (.long (((4194304 : Int32).toInt64) - ((0 : Int64) + (va.toInt64)))), .second, .val (.long vn), .second, .val (.long vh), .second, .val (.long (((4194304 : Int32).toInt64) - ((0 : Int64) + (va.toInt64)))), .second, .val (.int vc), .val (.long (((4194304 : Int32).toInt64) - (((0 : Int64) + (va.toInt64)) + (vc.toInt64)))), .second] [])) _
    refine XS.iconst X32.here hx rfl (hb hby at_173) ?_
    show Steps p.tables e below (T32.setTop (mkF m 174 #[.val (.int p1), .val (.int p2), .val (.int p3), .val (.int p4), .val (.long (4194304 : Int64)), .second, .val (.ref b2), .val (.long (((4194304 : Int32).toInt64) - (0 : Int64))), .second, .val (.int va), .val (.long (((4194304 : Int32).toInt64) - ((0 : Int64) + (va.toInt64)))), .second, .val (.long vn), .second, .val (.long vh), .second, .val (.long (((4194304 : Int32).toInt64) - ((0 : Int64) + (va.toInt64)))), .second, .val (.int vc), .val (.long (((4194304 : Int32).toInt64) - (((0 : Int64) + (va.toInt64)) + (vc.toInt64)))), .second] [(.int (1 : Int32))])) _
    refine XS.goto X32.here hx rfl (pc0 := 174) (pc' := 178) rfl (hb hby at_174) (by decide) (by decide) ?_
    show Steps p.tables e below (T32.setTop (mkF m 178 #[.val (.int p1), .val (.int p2), .val (.int p3), .val (.int p4), .val (.long (4194304 : Int64)), .second, .val (.ref b2), .val (.long (((4194304 : Int32).toInt64) - (0 : Int64))), .second, .val (.int va), .val (.long (((4194304 : Int32).toInt64) - ((0 : Int64) + (va.toInt64)))), .second, .val (.long vn), .second, .val (.long vh), .second, .val (.long (((4194304 : Int32).toInt64) - ((0 : Int64) + (va.toInt64)))), .second, .val (.int vc), .val (.long (((4194304 : Int32).toInt64) - (((0 : Int64) + (va.toInt64)) + (vc.toInt64)))), .second] [(.int (1 : Int32))])) _
    exact kt)
  obtain ⟨frs, hr, hrun, hended, hRW⟩ := X32.leaveW hS (by rw [eh32]; exact hk) (v := some (.int (1 : Int32))) (fun h => by rw [Bd.returns] at h; cases h)
  refine ⟨_, _, k37 _ ?_, hrun, hended, _, _, rfl, ?_, hRW.1, hRW.2.1, hRW.2.2.1, hRW.2.2.2.mono (by decide) (by decide)⟩
  · exact retN X32 hx (t := .boolean) Bd.returns (by simp) (hb hby at_178) hr
  · show Q0 n0 _ T32.heap _
    rw [eh32]
    exact ⟨rfl, N32⟩

set_option maxRecDepth 65536 in
set_option maxHeartbeats 40000000 in
theorem comes_1 {Post : Tables → Env → Array Value → State → Outcome → State → Prop} (hpost : ∀ tb e args s v u, (limb_1_1.after args s (.returned v) u = true ∧ limb_1_2.after args s (.returned v) u = true ∧ True) → ReturnedEndW s (.returned v) u (Jvm.fieldLocs frame_1_writes args s ++ Jvm.arrayLocs frame_1_arrays args s ++ Jvm.staticLocs frame_1_statics s) 16 2176 → Post tb e args s (.returned v) u) :
    ArmFor flags0 classFile x code maxLocals ret World_1 tables_1 room_1 Calls_1 rest_1 Pre_1 Post := by
  intro l hfl _ _ p e ha hc hk s m args below hf hA hF happ hP
  obtain ⟨hcalls, hrest, hpre⟩ := hP
  obtain ⟨-, -, -, hnamed, -, -, -, hat⟩ := (Spec.applies_iff hf).mp happ
  obtain ⟨hg, hn⟩ := and_e (Cond.before_iff.mp (show (Jvm.Cond.and given_1 narrow_1).before args s = true from hpre))
  obtain ⟨q1, q2⟩ := and_e hg
  obtain ⟨q3, q4⟩ := and_e q2
  obtain ⟨q5, q6⟩ := and_e q4
  obtain ⟨q7, q8⟩ := and_e q6
  obtain ⟨q9, q10⟩ := and_e hn
  obtain ⟨q11, q12⟩ := and_e q10
  obtain ⟨w0, w1, w2, w3, rfl⟩ : ∃ w0 w1 w2 w3 : Value, args = #[w0, w1, w2, w3] := by
    have hs : args.size = 4 := by simpa [Cond.value, given_1] using q1
    obtain ⟨L⟩ := args
    match L, hs with
    | [w0, w1, w2, w3], _ => exact ⟨w0, w1, w2, w3, rfl⟩
  have hw := fun d (hd : d ∈ tables_1) => atoms_spec (ws := Jvm.Cond.code x code maxLocals ret :: tables_1) hat d (List.mem_cons_of_mem _ hd)
  have hfit : Fit s := fun {y c} hc i hi => by
    obtain ⟨ha, rfl⟩ := Array.getElem?_eq_some_iff.mp hc
    have q := List.all_eq_true.mp ((Array.all_eq_true_iff_forall_mem.mp hF) _ (Array.getElem_mem ha)) i (List.mem_range.mpr hi)
    simpa [Array.getElem?_eq_getElem hi] using q
  obtain ⟨i0, ei0⟩ := is_v q3
  obtain rfl : w0 = (.int i0) := Option.some.inj ei0
  obtain ⟨i1, ei1⟩ := is_v q5
  obtain rfl : w1 = (.int i1) := Option.some.inj ei1
  obtain ⟨i2, ei2⟩ := is_v q7
  obtain rfl : w2 = (.int i2) := Option.some.inj ei2
  obtain ⟨i3, ei3⟩ := is_v q8
  obtain rfl : w3 = (.int i3) := Option.some.inj ei3
  obtain ⟨aDEFAULTS, ev_DEFAULTS⟩ := exa_v q9
  have S_DEFAULTS := Sta.start ev_DEFAULTS (Or.inr ⟨(hw _ (List.mem_of_getElem? (i := 8) rfl)), (hw _ (List.mem_of_getElem? (i := 9) rfl))⟩)
  have E_DEFAULTS := Exa.start ev_DEFAULTS q9
  have F_DEFAULTS_fileSize := Fld.start (own_eqfld q11 ev_DEFAULTS)
  have F_DEFAULTS_aliasNodes := Fld.start (own_eqfld q12 ev_DEFAULTS)
  obtain ⟨n, o, h1, h2, h3, _, L, rfl, ⟨rfl, N⟩, hq⟩ := rm0 l s _ hw tables_1 i0 i1 i2 i3 aDEFAULTS  s.heap s.heap.size (Old.start s) S_DEFAULTS E_DEFAULTS F_DEFAULTS_fileSize F_DEFAULTS_aliasNodes  p e ha hc hk s m _ below hf ((Spec.applies_iff_loose hf).mp happ).1 ⟨rfl, State.Warmed39.refl s, rfl⟩ trivial
  refine ⟨n, _, h1, h2, h3, hpost _ _ _ _ _ _ ⟨Cond.after_iff.mpr rfl, Cond.after_iff.mpr (eq_i res_at (Term.int_eval (1)) rfl), trivial⟩ ⟨hq.1, hq.2.1, hq.2.2.1, (hq.2.2.2.sift fun y hy => Or.inr (N y hy)).mono (by decide) (by decide)⟩⟩
theorem main_1_1 : Claimed_1_1 := comes_1 fun _ _ _ _ _ _ h hF => ⟨h.1, hF⟩
theorem main_1_2 : Claimed_1_2 := comes_1 fun _ _ _ _ _ _ h hF => ⟨h.2.1, hF⟩

end Jvm.Pilot.@@N@@
namespace Jvm.Pilot.@@N@@
open Jvm Jvm.ClassFile Sem Op Lib Jvm.Free Jvm.Stand Jvm.Pilot.@@N@@.Jvm.D
/-! MADE BY PROGRAM (witnessworld.py) out of the Statement's table words and the real class files: 15 classes; the members and pool entries that the words name. The judged class is class 1, her method 1. -/
namespace start1
open Jvm.ClassFile
def u (s : String) : CpInfo := .utf8 (stringToUtf16 s)
/-- a pool by its gaps: so many unusable entries, then the entry; so many at the end -/
def gap : Nat → List CpInfo → List CpInfo
  | 0, r => r
  | n + 1, r => .unusable :: gap n r
def poolList (es : List (Nat × CpInfo)) (last : Nat) : List CpInfo := es.foldr (fun e r => gap e.1 (e.2 :: r)) (gap last [])
def pool (es : List (Nat × CpInfo)) (last : Nat) : Array CpInfo := ⟨poolList es last⟩
def fileOf (pool : Array CpInfo) (this : Nat) (attrs : Array Attribute := #[]) (ms : Array MethodInfo := #[]) (fl : Nat := 33) (sup : Nat := 0) (ifs : Array Nat := #[]) (fds : Array FieldInfo := #[]) : ClassFile where
  minorVersion := 0
  majorVersion := 65
  constantPool := pool
  accessFlags := fl
  thisClass := this
  superClass := sup
  interfaces := ifs
  fields := fds
  methods := ms
  attributes := attrs
def plain (name : String) (sup : Option ClassId) : Class where
  name := name
  kind := .ordinary
  loader := none
  accessFlags := 33
  super := sup
  interfaces := #[]
  cf := none
  fields := #[]
  methods := #[]
  instanceTypes := #[]
  staticTypes := #[]
  resolved := #[]
  callSites := []
  init := .initialized
  statics := none
  mirror := none

def pool0 : Array CpInfo := pool [(5, u "<init>"), (0, u "()V"), (1, .class_ 10), (1, u "java/lang/Object")] 113

def k0c0 : Code := { maxStack := 0, maxLocals := 1, code := object_method_1_code, exceptionTable := #[], attributes := #[] }
def k0m0 : Method := { name := "<init>", desc := "()V", sig := { parameters := [], returnType := none }, accessFlags := 1, code := some k0c0 }
/-- java/lang/Object -/
def k0 : Class := { plain "java/lang/Object" none with
  accessFlags := 33
  interfaces := #[]
  cf := some (fileOf pool0 8 #[] #[{ accessFlags := 1, nameIndex := 5, descriptorIndex := 6, attributes := #[] }] 33 0 #[] #[])
  fields := #[]
  methods := #[k0m0]
  instanceTypes := #[]
  staticTypes := #[]
  resolved := Array.replicate 124 none
  statics := none }

def pool1 : Array CpInfo := pool [(2, .class_ 4), (0, .nameAndType 5 6), (0, u "java/lang/Object"), (0, u "<init>"), (0, u "()V"), (2, .long 4194304), (1, .class_ 12), (0, u "com/example/palamedes/palamedes/core/ReadingBudget"), (0, .methodref 11 3), (0, .methodref 11 15), (0, .nameAndType 16 17), (0, u "bytesLeft"), (0, u "()J"), (0, .integer 2147483647), (0, .string 20), (0, u "f"), (0, .methodref 11 22), (0, .nameAndType 23 24), (0, u "takeBytes"), (0, u "(Ljava/lang/String;I)V"), (0, .integer 100001), (0, .methodref 11 27), (0, .nameAndType 28 29), (0, u "takeAlias"), (0, u "(Ljava/lang/String;IIJJ)V"), (0, .string 31), (0, u "g"), (0, .class_ 33), (0, u "com/example/palamedes/palamedes/core/ReadingBudgetBytesLeftPinLaw"), (2, u "law"), (0, u "(IIII)Z")] 6

def k1m0 : Method := { name := "<init>", desc := "()V", sig := { parameters := [], returnType := none }, accessFlags := 1, code := none }
def k1c1 : Code := { maxStack := 8, maxLocals := 21, code := code, exceptionTable := #[], attributes := #[] }
def k1m1 : Method := { name := "law", desc := "(IIII)Z", sig := { parameters := [.int, .int, .int, .int], returnType := some .boolean }, accessFlags := 9, code := some k1c1 }
/-- com/example/palamedes/palamedes/core/ReadingBudgetBytesLeftPinLaw -/
def k1 : Class := { plain "com/example/palamedes/palamedes/core/ReadingBudgetBytesLeftPinLaw" (some 0) with
  accessFlags := 49
  interfaces := #[]
  cf := some (fileOf pool1 32 #[] #[{ accessFlags := 1, nameIndex := 5, descriptorIndex := 6, attributes := #[] }, { accessFlags := 9, nameIndex := 36, descriptorIndex := 37, attributes := #[] }] 49 2 #[] #[])
  fields := #[]
  methods := #[k1m0, k1m1]
  instanceTypes := #[]
  staticTypes := #[]
  resolved := Array.replicate 44 none
  statics := none }

def pool2 : Array CpInfo := pool [(1, .fieldref 2 3), (0, .class_ 4), (0, .nameAndType 5 6), (0, u "com/example/palamedes/palamedes/core/ReadingBounds"), (0, u "DEFAULTS"), (0, u "Lcom/example/palamedes/palamedes/core/ReadingBounds;"), (0, .methodref 8 9), (0, .class_ 10), (0, .nameAndType 11 12), (0, u "com/example/palamedes/palamedes/core/ReadingBudget"), (0, u "<init>"), (0, u "(Lcom/example/palamedes/palamedes/core/ReadingBounds;)V"), (0, .methodref 14 15), (0, .class_ 16), (0, .nameAndType 11 17), (0, u "java/lang/Object"), (0, u "()V"), (0, .fieldref 8 19), (0, .nameAndType 20 6), (0, u "bounds"), (2, u "files"), (0, u "I"), (18, .methodref 2 44), (0, .nameAndType 45 46), (0, u "fileSize"), (0, u "()I"), (0, .fieldref 8 48), (0, .nameAndType 49 50), (0, u "bytes"), (0, u "J"), (0, .methodref 8 52), (0, .nameAndType 53 54), (0, u "bytesLeft"), (0, u "()J"), (4, .methodref 2 60), (0, .nameAndType 61 46), (0, u "aliasNodes"), (0, .fieldref 8 63), (0, .nameAndType 61 50), (1, .methodref 2 66), (0, .nameAndType 67 46), (0, u "aliasCharacters"), (0, .fieldref 8 69), (0, .nameAndType 67 50), (9, u "flowSteps"), (10, u "FILE_BOUND"), (9, u "takeBytes"), (0, u "(Ljava/lang/String;I)V"), (0, u "takeAlias"), (0, u "(Ljava/lang/String;IIJJ)V")] 29

def k2c0 : Code := { maxStack := 2, maxLocals := 1, code := prog_25_method_1_code, exceptionTable := #[], attributes := #[] }
def k2m0 : Method := { name := "<init>", desc := "()V", sig := { parameters := [], returnType := none }, accessFlags := 1, code := some k2c0 }
def k2c1 : Code := { maxStack := 2, maxLocals := 2, code := prog_25_method_2_code, exceptionTable := #[], attributes := #[] }
def k2m1 : Method := { name := "<init>", desc := "(Lcom/example/palamedes/palamedes/core/ReadingBounds;)V", sig := { parameters := [(.object "com/example/palamedes/palamedes/core/ReadingBounds")], returnType := none }, accessFlags := 1, code := some k2c1 }
def k2c2 : Code := { maxStack := 4, maxLocals := 1, code := prog_25_method_5_code, exceptionTable := #[], attributes := #[] }
def k2m2 : Method := { name := "bytesLeft", desc := "()J", sig := { parameters := [], returnType := some .long }, accessFlags := 0, code := some k2c2 }
def k2c3 : Code := { maxStack := 5, maxLocals := 3, code := prog_25_method_6_code, exceptionTable := #[], attributes := #[] }
def k2m3 : Method := { name := "takeBytes", desc := "(Ljava/lang/String;I)V", sig := { parameters := [(.object "java/lang/String"), .int], returnType := none }, accessFlags := 0, code := some k2c3 }
def k2c4 : Code := { maxStack := 6, maxLocals := 9, code := prog_25_method_7_code, exceptionTable := #[], attributes := #[] }
def k2m4 : Method := { name := "takeAlias", desc := "(Ljava/lang/String;IIJJ)V", sig := { parameters := [(.object "java/lang/String"), .int, .int, .long, .long], returnType := none }, accessFlags := 0, code := some k2c4 }
/-- com/example/palamedes/palamedes/core/ReadingBudget -/
def k2 : Class := { plain "com/example/palamedes/palamedes/core/ReadingBudget" (some 0) with
  accessFlags := 49
  interfaces := #[]
  cf := some (fileOf pool2 8 #[] #[{ accessFlags := 1, nameIndex := 11, descriptorIndex := 17, attributes := #[] }, { accessFlags := 1, nameIndex := 11, descriptorIndex := 12, attributes := #[] }, { accessFlags := 0, nameIndex := 53, descriptorIndex := 54, attributes := #[] }, { accessFlags := 0, nameIndex := 100, descriptorIndex := 101, attributes := #[] }, { accessFlags := 0, nameIndex := 102, descriptorIndex := 103, attributes := #[] }] 49 14 #[] #[{ accessFlags := 24, nameIndex := 90, descriptorIndex := 24, attributes := #[] }, { accessFlags := 18, nameIndex := 20, descriptorIndex := 6, attributes := #[] }, { accessFlags := 2, nameIndex := 23, descriptorIndex := 24, attributes := #[] }, { accessFlags := 2, nameIndex := 49, descriptorIndex := 50, attributes := #[] }, { accessFlags := 2, nameIndex := 61, descriptorIndex := 50, attributes := #[] }, { accessFlags := 2, nameIndex := 67, descriptorIndex := 50, attributes := #[] }, { accessFlags := 2, nameIndex := 79, descriptorIndex := 50, attributes := #[] }])
  fields := #[{ name := "FILE_BOUND", type := .int, accessFlags := 24, slot := 0, constantValue := 0 }, { name := "bounds", type := (.object "com/example/palamedes/palamedes/core/ReadingBounds"), accessFlags := 18, slot := 0, constantValue := 0 }, { name := "files", type := .int, accessFlags := 2, slot := 1, constantValue := 0 }, { name := "bytes", type := .long, accessFlags := 2, slot := 2, constantValue := 0 }, { name := "aliasNodes", type := .long, accessFlags := 2, slot := 3, constantValue := 0 }, { name := "aliasCharacters", type := .long, accessFlags := 2, slot := 4, constantValue := 0 }, { name := "flowSteps", type := .long, accessFlags := 2, slot := 5, constantValue := 0 }]
  methods := #[k2m0, k2m1, k2m2, k2m3, k2m4]
  instanceTypes := #[(.object "com/example/palamedes/palamedes/core/ReadingBounds"), .int, .long, .long, .long, .long]
  staticTypes := #[.int]
  resolved := Array.replicate 133 none
  statics := none }

def pool3 : Array CpInfo := pool [(4, .class_ 6), (1, u "java/lang/Object"), (2, .fieldref 10 11), (0, .class_ 12), (0, .nameAndType 13 14), (0, u "com/example/palamedes/palamedes/core/ReadingBounds"), (0, u "fileSize"), (0, u "I"), (2, u "nesting"), (0, .fieldref 10 19), (0, .nameAndType 20 14), (0, u "aliasNodes"), (36, u "DEFAULTS"), (0, u "Lcom/example/palamedes/palamedes/core/ReadingBounds;"), (0, u "DEFAULT_FILE_SIZE"), (1, u "LARGEST_FILE_SIZE"), (0, u "DEFAULT_NESTING"), (1, u "LARGEST_NESTING"), (0, u "DEFAULT_ALIAS_NODES"), (0, u "LARGEST_ALIAS_NODES"), (0, u "FLOW_STEPS_PER_BYTE"), (7, u "()I"), (0, u "aliasCharacters")] 21

def k3c0 : Code := { maxStack := 1, maxLocals := 1, code := prog_24_method_5_code, exceptionTable := #[], attributes := #[] }
def k3m0 : Method := { name := "fileSize", desc := "()I", sig := { parameters := [], returnType := some .int }, accessFlags := 1, code := some k3c0 }
def k3c1 : Code := { maxStack := 1, maxLocals := 1, code := prog_24_method_7_code, exceptionTable := #[], attributes := #[] }
def k3m1 : Method := { name := "aliasNodes", desc := "()I", sig := { parameters := [], returnType := some .int }, accessFlags := 1, code := some k3c1 }
def k3c2 : Code := { maxStack := 1, maxLocals := 1, code := prog_24_method_8_code, exceptionTable := #[], attributes := #[] }
def k3m2 : Method := { name := "aliasCharacters", desc := "()I", sig := { parameters := [], returnType := some .int }, accessFlags := 1, code := some k3c2 }
/-- com/example/palamedes/palamedes/core/ReadingBounds -/
def k3 : Class := { plain "com/example/palamedes/palamedes/core/ReadingBounds" (some 0) with
  accessFlags := 49
  interfaces := #[]
  cf := some (fileOf pool3 10 #[] #[{ accessFlags := 1, nameIndex := 13, descriptorIndex := 75, attributes := #[] }, { accessFlags := 1, nameIndex := 20, descriptorIndex := 75, attributes := #[] }, { accessFlags := 1, nameIndex := 76, descriptorIndex := 75, attributes := #[] }] 49 4 #[] #[{ accessFlags := 25, nameIndex := 59, descriptorIndex := 14, attributes := #[] }, { accessFlags := 25, nameIndex := 61, descriptorIndex := 14, attributes := #[] }, { accessFlags := 25, nameIndex := 62, descriptorIndex := 14, attributes := #[] }, { accessFlags := 25, nameIndex := 64, descriptorIndex := 14, attributes := #[] }, { accessFlags := 25, nameIndex := 65, descriptorIndex := 14, attributes := #[] }, { accessFlags := 25, nameIndex := 66, descriptorIndex := 14, attributes := #[] }, { accessFlags := 25, nameIndex := 67, descriptorIndex := 14, attributes := #[] }, { accessFlags := 25, nameIndex := 57, descriptorIndex := 58, attributes := #[] }, { accessFlags := 18, nameIndex := 13, descriptorIndex := 14, attributes := #[] }, { accessFlags := 18, nameIndex := 17, descriptorIndex := 14, attributes := #[] }, { accessFlags := 18, nameIndex := 20, descriptorIndex := 14, attributes := #[] }])
  fields := #[{ name := "DEFAULT_FILE_SIZE", type := .int, accessFlags := 25, slot := 0, constantValue := 0 }, { name := "LARGEST_FILE_SIZE", type := .int, accessFlags := 25, slot := 1, constantValue := 0 }, { name := "DEFAULT_NESTING", type := .int, accessFlags := 25, slot := 2, constantValue := 0 }, { name := "LARGEST_NESTING", type := .int, accessFlags := 25, slot := 3, constantValue := 0 }, { name := "DEFAULT_ALIAS_NODES", type := .int, accessFlags := 25, slot := 4, constantValue := 0 }, { name := "LARGEST_ALIAS_NODES", type := .int, accessFlags := 25, slot := 5, constantValue := 0 }, { name := "FLOW_STEPS_PER_BYTE", type := .int, accessFlags := 25, slot := 6, constantValue := 0 }, { name := "DEFAULTS", type := (.object "com/example/palamedes/palamedes/core/ReadingBounds"), accessFlags := 25, slot := 7, constantValue := 0 }, { name := "fileSize", type := .int, accessFlags := 18, slot := 0, constantValue := 0 }, { name := "nesting", type := .int, accessFlags := 18, slot := 1, constantValue := 0 }, { name := "aliasNodes", type := .int, accessFlags := 18, slot := 2, constantValue := 0 }]
  methods := #[k3m0, k3m1, k3m2]
  instanceTypes := #[.int, .int, .int]
  staticTypes := #[.int, .int, .int, .int, .int, .int, .int, (.object "com/example/palamedes/palamedes/core/ReadingBounds")]
  resolved := Array.replicate 98 none
  statics := some 0 }

def pool4 : Array CpInfo := pool [(1, .class_ 2), (0, u "java/io/Serializable"), (0, .class_ 4), (0, u "java/lang/Object")] 2

/-- java/io/Serializable -/
def k4 : Class := { plain "java/io/Serializable" (some 0) with
  accessFlags := 1537
  interfaces := #[]
  cf := some (fileOf pool4 1 #[] #[] 1537 3 #[] #[])
  fields := #[]
  methods := #[]
  instanceTypes := #[]
  staticTypes := #[]
  resolved := Array.replicate 7 none
  statics := none }

def pool5 : Array CpInfo := pool [(1, .class_ 2), (0, u "java/lang/Comparable"), (0, .class_ 4), (0, u "java/lang/Object")] 7

/-- java/lang/Comparable -/
def k5 : Class := { plain "java/lang/Comparable" (some 0) with
  accessFlags := 1537
  interfaces := #[]
  cf := some (fileOf pool5 1 #[] #[] 1537 3 #[] #[])
  fields := #[]
  methods := #[]
  instanceTypes := #[]
  staticTypes := #[]
  resolved := Array.replicate 12 none
  statics := none }

def pool6 : Array CpInfo := pool [(2, .class_ 4), (1, u "java/lang/CharSequence"), (42, .class_ 48), (0, u "java/lang/CharSequence$1CodePointIterator"), (10, .class_ 60), (0, u "java/lang/CharSequence$1CharIterator"), (5, .class_ 67), (0, u "java/lang/Object")] 63

/-- java/lang/CharSequence -/
def k6 : Class := { plain "java/lang/CharSequence" (some 0) with
  accessFlags := 1537
  interfaces := #[]
  cf := some (fileOf pool6 2 #[.nestMembers #[47, 59]] #[] 1537 66 #[] #[])
  fields := #[]
  methods := #[]
  instanceTypes := #[]
  staticTypes := #[]
  resolved := Array.replicate 131 none
  statics := none }

def pool7 : Array CpInfo := pool [(1, .class_ 2), (0, u "java/lang/constant/Constable"), (0, .class_ 4), (0, u "java/lang/Object")] 6

/-- java/lang/constant/Constable -/
def k7 : Class := { plain "java/lang/constant/Constable" (some 0) with
  accessFlags := 1537
  interfaces := #[]
  cf := some (fileOf pool7 1 #[] #[] 1537 3 #[] #[])
  fields := #[]
  methods := #[]
  instanceTypes := #[]
  staticTypes := #[]
  resolved := Array.replicate 11 none
  statics := none }

def pool8 : Array CpInfo := pool [(1, .class_ 2), (0, u "java/lang/constant/ConstantDesc"), (0, .class_ 4), (0, u "java/lang/Object")] 32

/-- java/lang/constant/ConstantDesc -/
def k8 : Class := { plain "java/lang/constant/ConstantDesc" (some 0) with
  accessFlags := 1537
  interfaces := #[]
  cf := some (fileOf pool8 1 #[] #[] 1537 3 #[] #[])
  fields := #[]
  methods := #[]
  instanceTypes := #[]
  staticTypes := #[]
  resolved := Array.replicate 37 none
  statics := none }

def pool9 : Array CpInfo := pool [(2, .class_ 4), (1, u "java/lang/Object"), (0, u "<init>"), (0, u "()V"), (3, .class_ 12), (1, u "java/lang/String"), (0, u "value"), (0, u "[B"), (2, u "coder"), (0, u "B"), (2, u "hash"), (0, u "I"), (2, u "hashIsZero"), (0, u "Z"), (13, u "COMPACT_STRINGS"), (534, .class_ 576), (0, u "java/lang/CharSequence"), (22, u "CASE_INSENSITIVE_ORDER"), (0, u "Ljava/util/Comparator;"), (500, u "serialPersistentFields"), (0, u "[Ljava/io/ObjectStreamField;"), (0, .class_ 1104), (0, u "java/lang/String$CaseInsensitiveComparator"), (1, .class_ 1107), (0, u "java/io/Serializable"), (0, .class_ 1109), (0, u "java/lang/Comparable"), (0, .class_ 1111), (0, u "java/lang/constant/Constable"), (0, .class_ 1113), (0, u "java/lang/constant/ConstantDesc"), (2, u "serialVersionUID"), (0, u "J"), (3, u "REPL"), (0, u "C"), (2, u "LATIN1"), (1, u "UTF16")] 323

def k9m0 : Method := { name := "<init>", desc := "()V", sig := { parameters := [], returnType := none }, accessFlags := 1, code := none }
/-- java/lang/String -/
def k9 : Class := { plain "java/lang/String" (some 0) with
  accessFlags := 49
  interfaces := #[4, 5, 6, 7, 8]
  cf := some (fileOf pool9 10 #[.nestMembers #[1103]] #[{ accessFlags := 1, nameIndex := 5, descriptorIndex := 6, attributes := #[] }] 49 2 #[1106, 1108, 575, 1110, 1112] #[{ accessFlags := 18, nameIndex := 13, descriptorIndex := 14, attributes := #[] }, { accessFlags := 18, nameIndex := 17, descriptorIndex := 18, attributes := #[] }, { accessFlags := 2, nameIndex := 21, descriptorIndex := 22, attributes := #[] }, { accessFlags := 2, nameIndex := 25, descriptorIndex := 26, attributes := #[] }, { accessFlags := 26, nameIndex := 1116, descriptorIndex := 1117, attributes := #[] }, { accessFlags := 24, nameIndex := 40, descriptorIndex := 26, attributes := #[] }, { accessFlags := 26, nameIndex := 1101, descriptorIndex := 1102, attributes := #[] }, { accessFlags := 26, nameIndex := 1121, descriptorIndex := 1122, attributes := #[] }, { accessFlags := 25, nameIndex := 599, descriptorIndex := 600, attributes := #[] }, { accessFlags := 24, nameIndex := 1125, descriptorIndex := 18, attributes := #[] }, { accessFlags := 24, nameIndex := 1127, descriptorIndex := 18, attributes := #[] }])
  fields := #[{ name := "value", type := (.array .byte), accessFlags := 18, slot := 0, constantValue := 0 }, { name := "coder", type := .byte, accessFlags := 18, slot := 1, constantValue := 0 }, { name := "hash", type := .int, accessFlags := 2, slot := 2, constantValue := 0 }, { name := "hashIsZero", type := .boolean, accessFlags := 2, slot := 3, constantValue := 0 }, { name := "serialVersionUID", type := .long, accessFlags := 26, slot := 0, constantValue := 0 }, { name := "COMPACT_STRINGS", type := .boolean, accessFlags := 24, slot := 1, constantValue := 0 }, { name := "serialPersistentFields", type := (.array (.object "java/io/ObjectStreamField")), accessFlags := 26, slot := 2, constantValue := 0 }, { name := "REPL", type := .char, accessFlags := 26, slot := 3, constantValue := 0 }, { name := "CASE_INSENSITIVE_ORDER", type := (.object "java/util/Comparator"), accessFlags := 25, slot := 4, constantValue := 0 }, { name := "LATIN1", type := .byte, accessFlags := 24, slot := 5, constantValue := 0 }, { name := "UTF16", type := .byte, accessFlags := 24, slot := 6, constantValue := 0 }]
  methods := #[k9m0]
  instanceTypes := #[(.array .byte), .byte, .int, .boolean]
  staticTypes := #[.long, .boolean, (.array (.object "java/io/ObjectStreamField")), .char, (.object "java/util/Comparator"), .byte, .byte]
  resolved := Array.replicate 1451 none
  statics := none }

def pool10 : Array CpInfo := pool [(1, u "java/lang/Cloneable"), (0, .class_ 1), (0, u "java/lang/Object"), (0, .class_ 3)] 3

/-- java/lang/Cloneable -/
def k10 : Class := { plain "java/lang/Cloneable" (some 0) with
  accessFlags := 1537
  interfaces := #[]
  cf := some (fileOf pool10 2 #[] #[] 1537 4 #[] #[])
  fields := #[]
  methods := #[]
  instanceTypes := #[]
  staticTypes := #[]
  resolved := Array.replicate 8 none
  statics := none }

/-- the primitive byte -/
def k11 : Class := { plain "byte" none with kind := .primitive 'B', accessFlags := 0x411 }
/-- [B -/
def k12 : Class := { plain "[B" (some 0) with kind := .array 11 .byte, interfaces := #[10, 4], accessFlags := 1041 }

/-- the primitive int -/
def k13 : Class := { plain "int" none with kind := .primitive 'I', accessFlags := 0x411 }
/-- [I -/
def k14 : Class := { plain "[I" (some 0) with kind := .array 13 .int, interfaces := #[10, 4], accessFlags := 1041 }

def heap : Heap := #[{ cls := 3, slots := #[.int 0, .int 0, .int 0, .int 0, .int 0, .int 0, .int 0, .ref 1], vm := .statics 3 },
  { cls := 3, slots := #[.int 4194304, .int 0, .int 100000], vm := .none }]
def classes : Array Class := #[k0, k1, k2, k3, k4, k5, k6, k7, k8, k9, k10, k11, k12, k13, k14]
def interned : List (Array UInt16 × Addr) := []
def slotsUsed : Nat := 11
def theMethod : MethodId := ⟨1, 1⟩
def args0 : Array Value := #[.int 1, .int 2, .int 3, .int 4]
def aboutOver (below : List Frame) : State where
  vm := { classes := classes, interned := interned.toArray }
  heap := heap
  slotsUsed := slotsUsed
  threads := #[{ frames := .invoking theMethod args0 :: below }]
def below0 : List Frame := [.native { method := ⟨0, 0⟩, args := #[] }]
def about1 : State := aboutOver below0
def p0 : Program := .bare "" "" ""
def e0 : Env := launch0.env 0 0 0
theorem w_frames : about1.frames = Frame.invoking theMethod args0 :: below0 := rfl
set_option maxRecDepth 65536 in
theorem w_args : argsFit about1.vm theMethod args0 = true := by decide +kernel
set_option maxRecDepth 65536 in
theorem w_heap : heapFits about1 = true := by decide +kernel
set_option maxRecDepth 65536 in
theorem w_runnable : about1.curStatus? = some .runnable := by decide +kernel
set_option maxRecDepth 65536 in
theorem w_alone : about1.alone = true := by decide +kernel
set_option maxRecDepth 65536 in
theorem w_named : about1.methodNamed? x = some theMethod := by decide +kernel
set_option maxRecDepth 65536 in
theorem w_hears : about1.hears theMethod below0 = true := by decide +kernel
set_option maxRecDepth 65536 in
theorem w_ripe : about1.ripe theMethod args0 below0 = true := by decide +kernel
theorem w_running : about1.status = .running := rfl
set_option maxRecDepth 65536 in
theorem w_room : about1.hasRoom e0.platform room_1 = true :=
  launch0.hasRoom_least _ room_1 (by decide +kernel) (by decide +kernel) (by decide +kernel) (by decide +kernel) (by decide +kernel) (by decide +kernel)
theorem allAtoms_all (ts : List Jvm.Cond) (a : Array Jvm.Value) (st : Jvm.State) : (allAtoms ts).before a st = ts.all (fun c => c.before a st) := by
  induction ts with
  | nil => rfl
  | cons c t ih =>
    show (Jvm.Cond.and c (allAtoms t)).before a st = _
    rw [Jvm.Cond.before_and, ih, List.all_cons]
def words1 : List Jvm.Cond := Jvm.Cond.code x code maxLocals ret :: tables_1
/-- a 'code' word, met by the world's own term for the bytes: nothing is compared byte by byte -/
theorem code_word {y : MethodName} {bytes : ByteArray} {mx : Nat} {rt : Option FieldType} {a : Array Value} {s : State} {m : MethodId} {meth : Method} {c : Code} (h1 : s.methodNamed? y = some m) (h2 : s.vm.method? m = some meth) (h3 : meth.code = some c) (h4 : c.code = bytes)
    (h5 : (c.maxLocals == mx && c.exceptionTable.isEmpty && decide (c.maxStack ≤ mostOperands) && decide (meth.sig.returnType = rt) && !meth.locks && decide (parseMethodDescriptor y.desc = some meth.sig)) = true) : (Jvm.Cond.code y bytes mx rt).before a s = true := by
  simp only [Bool.and_eq_true, beq_iff_eq, Bool.not_eq_true', decide_eq_true_eq] at h5
  obtain ⟨⟨⟨⟨⟨g1, g2⟩, g3⟩, g4⟩, g5⟩, g6⟩ := h5
  simp [Cond.before, Cond.holds, Cond.value, h1, h2, h3, h4, g1, g2, g3, g4, g5, g6]
def isCode : Jvm.Cond → Bool
  | .code _ _ _ _ => true
  | _ => false
theorem all_split {L : List Jvm.Cond} {P : Jvm.Cond → Bool} (h1 : L.all (fun c => isCode c || P c) = true) (h2 : ∀ c ∈ L.filter isCode, P c = true) : L.all P = true := by
  refine List.all_eq_true.mpr fun c hc => ?_
  have h := List.all_eq_true.mp h1 c hc
  rcases Bool.eq_false_or_eq_true (isCode c) with hi | hi
  · exact h2 c (List.mem_filter.mpr ⟨hc, hi⟩)
  · simpa [hi] using h
set_option maxRecDepth 65536 in
theorem w_c0 : (Jvm.Cond.code x code maxLocals ret).before args0 about1 = true := code_word (m := ⟨1, 1⟩) (meth := k1m1) (c := k1c1) (by decide +kernel) rfl rfl rfl (by decide +kernel)
set_option maxRecDepth 65536 in
theorem w_c1 : (Jvm.Cond.code ({ cls := "com/example/palamedes/palamedes/core/ReadingBudget", name := "<init>", desc := "()V" } : Jvm.MethodName) prog_25_method_1_code (1 : Nat) (Option.none : Option Jvm.ClassFile.FieldType)).before args0 about1 = true := code_word (m := ⟨2, 0⟩) (meth := k2m0) (c := k2c0) (by decide +kernel) rfl rfl rfl (by decide +kernel)
set_option maxRecDepth 65536 in
theorem w_c2 : (Jvm.Cond.code ({ cls := "com/example/palamedes/palamedes/core/ReadingBudget", name := "<init>", desc := "(Lcom/example/palamedes/palamedes/core/ReadingBounds;)V" } : Jvm.MethodName) prog_25_method_2_code (2 : Nat) (Option.none : Option Jvm.ClassFile.FieldType)).before args0 about1 = true := code_word (m := ⟨2, 1⟩) (meth := k2m1) (c := k2c1) (by decide +kernel) rfl rfl rfl (by decide +kernel)
set_option maxRecDepth 65536 in
theorem w_c3 : (Jvm.Cond.code ({ cls := "java/lang/Object", name := "<init>", desc := "()V" } : Jvm.MethodName) object_method_1_code (1 : Nat) (Option.none : Option Jvm.ClassFile.FieldType)).before args0 about1 = true := code_word (m := ⟨0, 0⟩) (meth := k0m0) (c := k0c0) (by decide +kernel) rfl rfl rfl (by decide +kernel)
set_option maxRecDepth 65536 in
theorem w_c4 : (Jvm.Cond.code ({ cls := "com/example/palamedes/palamedes/core/ReadingBudget", name := "bytesLeft", desc := "()J" } : Jvm.MethodName) prog_25_method_5_code (1 : Nat) (Option.some Jvm.ClassFile.FieldType.long)).before args0 about1 = true := code_word (m := ⟨2, 2⟩) (meth := k2m2) (c := k2c2) (by decide +kernel) rfl rfl rfl (by decide +kernel)
set_option maxRecDepth 65536 in
theorem w_c5 : (Jvm.Cond.code ({ cls := "com/example/palamedes/palamedes/core/ReadingBounds", name := "fileSize", desc := "()I" } : Jvm.MethodName) prog_24_method_5_code (1 : Nat) (Option.some Jvm.ClassFile.FieldType.int)).before args0 about1 = true := code_word (m := ⟨3, 0⟩) (meth := k3m0) (c := k3c0) (by decide +kernel) rfl rfl rfl (by decide +kernel)
set_option maxRecDepth 65536 in
theorem w_c6 : (Jvm.Cond.code ({ cls := "com/example/palamedes/palamedes/core/ReadingBudget", name := "takeBytes", desc := "(Ljava/lang/String;I)V" } : Jvm.MethodName) prog_25_method_6_code (3 : Nat) (Option.none : Option Jvm.ClassFile.FieldType)).before args0 about1 = true := code_word (m := ⟨2, 3⟩) (meth := k2m3) (c := k2c3) (by decide +kernel) rfl rfl rfl (by decide +kernel)
set_option maxRecDepth 65536 in
theorem w_c7 : (Jvm.Cond.code ({ cls := "com/example/palamedes/palamedes/core/ReadingBudget", name := "takeAlias", desc := "(Ljava/lang/String;IIJJ)V" } : Jvm.MethodName) prog_25_method_7_code (9 : Nat) (Option.none : Option Jvm.ClassFile.FieldType)).before args0 about1 = true := code_word (m := ⟨2, 4⟩) (meth := k2m4) (c := k2c4) (by decide +kernel) rfl rfl rfl (by decide +kernel)
set_option maxRecDepth 65536 in
theorem w_c8 : (Jvm.Cond.code ({ cls := "com/example/palamedes/palamedes/core/ReadingBounds", name := "aliasNodes", desc := "()I" } : Jvm.MethodName) prog_24_method_7_code (1 : Nat) (Option.some Jvm.ClassFile.FieldType.int)).before args0 about1 = true := code_word (m := ⟨3, 1⟩) (meth := k3m1) (c := k3c1) (by decide +kernel) rfl rfl rfl (by decide +kernel)
set_option maxRecDepth 65536 in
theorem w_c9 : (Jvm.Cond.code ({ cls := "com/example/palamedes/palamedes/core/ReadingBounds", name := "aliasCharacters", desc := "()I" } : Jvm.MethodName) prog_24_method_8_code (1 : Nat) (Option.some Jvm.ClassFile.FieldType.int)).before args0 about1 = true := code_word (m := ⟨3, 2⟩) (meth := k3m2) (c := k3c2) (by decide +kernel) rfl rfl rfl (by decide +kernel)
def codes1 : List Jvm.Cond := [Jvm.Cond.code x code maxLocals ret, Jvm.Cond.code ({ cls := "com/example/palamedes/palamedes/core/ReadingBudget", name := "<init>", desc := "()V" } : Jvm.MethodName) prog_25_method_1_code (1 : Nat) (Option.none : Option Jvm.ClassFile.FieldType), Jvm.Cond.code ({ cls := "com/example/palamedes/palamedes/core/ReadingBudget", name := "<init>", desc := "(Lcom/example/palamedes/palamedes/core/ReadingBounds;)V" } : Jvm.MethodName) prog_25_method_2_code (2 : Nat) (Option.none : Option Jvm.ClassFile.FieldType), Jvm.Cond.code ({ cls := "java/lang/Object", name := "<init>", desc := "()V" } : Jvm.MethodName) object_method_1_code (1 : Nat) (Option.none : Option Jvm.ClassFile.FieldType), Jvm.Cond.code ({ cls := "com/example/palamedes/palamedes/core/ReadingBudget", name := "bytesLeft", desc := "()J" } : Jvm.MethodName) prog_25_method_5_code (1 : Nat) (Option.some Jvm.ClassFile.FieldType.long), Jvm.Cond.code ({ cls := "com/example/palamedes/palamedes/core/ReadingBounds", name := "fileSize", desc := "()I" } : Jvm.MethodName) prog_24_method_5_code (1 : Nat) (Option.some Jvm.ClassFile.FieldType.int), Jvm.Cond.code ({ cls := "com/example/palamedes/palamedes/core/ReadingBudget", name := "takeBytes", desc := "(Ljava/lang/String;I)V" } : Jvm.MethodName) prog_25_method_6_code (3 : Nat) (Option.none : Option Jvm.ClassFile.FieldType), Jvm.Cond.code ({ cls := "com/example/palamedes/palamedes/core/ReadingBudget", name := "takeAlias", desc := "(Ljava/lang/String;IIJJ)V" } : Jvm.MethodName) prog_25_method_7_code (9 : Nat) (Option.none : Option Jvm.ClassFile.FieldType), Jvm.Cond.code ({ cls := "com/example/palamedes/palamedes/core/ReadingBounds", name := "aliasNodes", desc := "()I" } : Jvm.MethodName) prog_24_method_7_code (1 : Nat) (Option.some Jvm.ClassFile.FieldType.int), Jvm.Cond.code ({ cls := "com/example/palamedes/palamedes/core/ReadingBounds", name := "aliasCharacters", desc := "()I" } : Jvm.MethodName) prog_24_method_8_code (1 : Nat) (Option.some Jvm.ClassFile.FieldType.int)]
set_option maxRecDepth 65536 in
theorem codes_eq : words1.filter isCode = codes1 := rfl
theorem w_codes : ∀ c ∈ words1.filter isCode, c.before args0 about1 = true := by
  rw [codes_eq]
  intro c hc
  simp only [codes1, List.mem_cons, List.not_mem_nil, or_false] at hc
  rcases hc with rfl | rfl | rfl | rfl | rfl | rfl | rfl | rfl | rfl | rfl
  · exact w_c0
  · exact w_c1
  · exact w_c2
  · exact w_c3
  · exact w_c4
  · exact w_c5
  · exact w_c6
  · exact w_c7
  · exact w_c8
  · exact w_c9
set_option maxRecDepth 65536 in
theorem w_t1 : (words1.take 24).all (fun c => isCode c || c.before args0 about1) = true := by decide +kernel
set_option maxRecDepth 65536 in
theorem w_t2 : ((words1.drop 24).take 24).all (fun c => isCode c || c.before args0 about1) = true := by decide +kernel
set_option maxRecDepth 65536 in
theorem w_t3 : ((words1.drop 24).drop 24).all (fun c => isCode c || c.before args0 about1) = true := by decide +kernel
theorem w_tables : (allAtoms (Jvm.Cond.code x code maxLocals ret :: tables_1)).before args0 about1 = true := by
  rw [allAtoms_all]
  show words1.all (fun c => c.before args0 about1) = true
  refine all_split ?_ w_codes
  rw [← List.take_append_drop 24 words1, List.all_append, w_t1, ← List.take_append_drop 24 (words1.drop 24), List.all_append, w_t2, w_t3]
  rfl
set_option maxRecDepth 65536 in
theorem w_case : (Jvm.Cond.and given_1 narrow_1).before args0 about1 = true := by decide +kernel
theorem w_applies : (headSpec (Jvm.Cond.code x code maxLocals ret :: tables_1) room_1).applies x e0.platform about1 = true :=
  (Spec.applies_iff w_frames).mpr ⟨w_running, w_runnable, w_alone, w_named, w_hears, w_ripe, w_room, w_tables⟩
theorem atStart : AtStart classFile x code maxLocals ret World_1 tables_1 room_1 Calls_1 rest_1 Pre_1 launch0 p0 e0 about1 theMethod args0 below0 :=
  ⟨lists_1, trivial, launch0.admits_env _ _ _, launch0.least_env, fairChoices_fair.cas, fairChoices_fair.clock, w_frames, w_args, w_heap, w_applies, trivial, trivial, w_case⟩
end start1
theorem witness_1 : WitnessClaimed_1 := ⟨start1.p0, start1.e0, start1.about1, start1.theMethod, start1.args0, start1.below0, start1.atStart⟩
end Jvm.Pilot.@@N@@
