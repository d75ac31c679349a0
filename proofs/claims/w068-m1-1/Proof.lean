import JvmDerived
import JvmDerived.Pilot.@@N@@Statement
import JvmDerived.Pilot.@@N@@Code
set_option linter.unusedVariables false
set_option linter.unusedSimpArgs false

namespace Jvm.RoadKit
open Sem ClassFile Op Lib Jvm.Stand Jvm.Free Jvm.LawKit
section New
variable {p : Program} {l : Launch} {e : Env} {R : Room} {s : State} {m : MethodId} {args : Array Value} {below : List Frame} {meth : Method} {c : Code} {T : State} {locs : List Loc} {cells slots : Nat}
theorem retI (X : Stand p l e R s m args below meth c T locs cells slots) (hx : p.tables.exec = Jvm.exec) {pc : Nat} {Ls : Array Slot} {z : Int32} {rest : List Value} (hret : meth.sig.returnType = some .int) (hd : decode c.code pc = .ok (.ireturn, 1)) {fs : List Frame}
    (hl : ∀ (f : JFrame) (acts : List Action), f.method = m → f.locked = none → f.entered = [] → (doReturn e (T.setTop f) acts (some (.int z))).1 = T.setFrames fs) : Steps p.tables e below (T.setTop (mkF m pc Ls (.int z :: rest))) (T.setFrames fs) := by
  have hm' : T.vm.method? m = some meth := X.method'
  have hn : narrow .int (.int z) = .int z := rfl
  show Steps p.tables e below (T.setTop { method := m, pc := pc, locals := Ls, stack := _ :: rest, locked := none }) _
  jvm_step X.here [X.here.top, hx, hd, hm', hret, hn]
  first | (intro acts; rw [hl _ acts rfl rfl rfl]) | rw [hl _ _ rfl rfl rfl]
  exact Steps.refl _
end New
end Jvm.RoadKit

namespace Jvm.Pilot.@@N@@
open Jvm Jvm.ClassFile Sem Op Lib Jvm.Free Jvm.Stand Jvm.LawKit Jvm.RoadKit Bundle Jvm.Pilot.@@N@@.Jvm.D

theorem own_eqfld {args : Array Value} {s : State} {t : Term} {C n d : String} {k : Int32} {x : Addr} (h : (Jvm.Cond.eq (Term.field t C n d) (Term.int k)).value args s none s [] = some true) (ht : t.eval args s none [] s = some (.ref x)) : s.fieldOf? x C n d = some (.int k) := (fld_at ht).symm.trans (eqv_i (F := Term.int k) (y := k) rfl h)

def own_fp (a f1 f2 f3 f4 : Addr) : Int32 := if a = f1 then 1 else if a = f2 then 1 else if a = f3 then 1 else if a = f4 then 1 else 0
theorem own_k37 (x : Int32) : (x &&& 2147483647) % 37 = 0 ∨ (x &&& 2147483647) % 37 = 1 ∨ (x &&& 2147483647) % 37 = 2 ∨ (x &&& 2147483647) % 37 = 3 ∨ (x &&& 2147483647) % 37 = 4 ∨ (x &&& 2147483647) % 37 = 5 ∨ (x &&& 2147483647) % 37 = 6 ∨ (x &&& 2147483647) % 37 = 7 ∨ (x &&& 2147483647) % 37 = 8 ∨ (x &&& 2147483647) % 37 = 9 ∨ (x &&& 2147483647) % 37 = 10 ∨ (x &&& 2147483647) % 37 = 11 ∨ (x &&& 2147483647) % 37 = 12 ∨ (x &&& 2147483647) % 37 = 13 ∨ (x &&& 2147483647) % 37 = 14 ∨ (x &&& 2147483647) % 37 = 15 ∨ (x &&& 2147483647) % 37 = 16 ∨ (x &&& 2147483647) % 37 = 17 ∨ (x &&& 2147483647) % 37 = 18 ∨ (x &&& 2147483647) % 37 = 19 ∨ (x &&& 2147483647) % 37 = 20 ∨ (x &&& 2147483647) % 37 = 21 ∨ (x &&& 2147483647) % 37 = 22 ∨ (x &&& 2147483647) % 37 = 23 ∨ (x &&& 2147483647) % 37 = 24 ∨ (x &&& 2147483647) % 37 = 25 ∨ (x &&& 2147483647) % 37 = 26 ∨ (x &&& 2147483647) % 37 = 27 ∨ (x &&& 2147483647) % 37 = 28 ∨ (x &&& 2147483647) % 37 = 29 ∨ (x &&& 2147483647) % 37 = 30 ∨ (x &&& 2147483647) % 37 = 31 ∨ (x &&& 2147483647) % 37 = 32 ∨ (x &&& 2147483647) % 37 = 33 ∨ (x &&& 2147483647) % 37 = 34 ∨ (x &&& 2147483647) % 37 = 35 ∨ (x &&& 2147483647) % 37 = 36 := by
  have h1 := (c_and x 2147483647 (by decide)).1
  have h2 := (c_irem (x &&& 2147483647) 37 37 (by decide)).1 h1
  simp only [← Int32.toInt_inj]
  have e0 : (0 : Int32).toInt = 0 := by decide
  have e1 : (1 : Int32).toInt = 1 := by decide
  have e2 : (2 : Int32).toInt = 2 := by decide
  have e3 : (3 : Int32).toInt = 3 := by decide
  have e4 : (4 : Int32).toInt = 4 := by decide
  have e5 : (5 : Int32).toInt = 5 := by decide
  have e6 : (6 : Int32).toInt = 6 := by decide
  have e7 : (7 : Int32).toInt = 7 := by decide
  have e8 : (8 : Int32).toInt = 8 := by decide
  have e9 : (9 : Int32).toInt = 9 := by decide
  have e10 : (10 : Int32).toInt = 10 := by decide
  have e11 : (11 : Int32).toInt = 11 := by decide
  have e12 : (12 : Int32).toInt = 12 := by decide
  have e13 : (13 : Int32).toInt = 13 := by decide
  have e14 : (14 : Int32).toInt = 14 := by decide
  have e15 : (15 : Int32).toInt = 15 := by decide
  have e16 : (16 : Int32).toInt = 16 := by decide
  have e17 : (17 : Int32).toInt = 17 := by decide
  have e18 : (18 : Int32).toInt = 18 := by decide
  have e19 : (19 : Int32).toInt = 19 := by decide
  have e20 : (20 : Int32).toInt = 20 := by decide
  have e21 : (21 : Int32).toInt = 21 := by decide
  have e22 : (22 : Int32).toInt = 22 := by decide
  have e23 : (23 : Int32).toInt = 23 := by decide
  have e24 : (24 : Int32).toInt = 24 := by decide
  have e25 : (25 : Int32).toInt = 25 := by decide
  have e26 : (26 : Int32).toInt = 26 := by decide
  have e27 : (27 : Int32).toInt = 27 := by decide
  have e28 : (28 : Int32).toInt = 28 := by decide
  have e29 : (29 : Int32).toInt = 29 := by decide
  have e30 : (30 : Int32).toInt = 30 := by decide
  have e31 : (31 : Int32).toInt = 31 := by decide
  have e32 : (32 : Int32).toInt = 32 := by decide
  have e33 : (33 : Int32).toInt = 33 := by decide
  have e34 : (34 : Int32).toInt = 34 := by decide
  have e35 : (35 : Int32).toInt = 35 := by decide
  have e36 : (36 : Int32).toInt = 36 := by decide
  omega

theorem d1_0 : decode prog_100_method_7_code 0 = .ok (.aload_n 0, 1) := by decide +kernel
theorem d1_1 : decode prog_100_method_7_code 1 = .ok (.getstatic 31, 3) := by decide +kernel
theorem d1_4 : decode prog_100_method_7_code 4 = .ok (.if_acmp .eq 24, 3) := by decide +kernel
theorem d1_7 : decode prog_100_method_7_code 7 = .ok (.aload_n 0, 1) := by decide +kernel
theorem d1_8 : decode prog_100_method_7_code 8 = .ok (.getstatic 34, 3) := by decide +kernel
theorem d1_11 : decode prog_100_method_7_code 11 = .ok (.if_acmp .eq 17, 3) := by decide +kernel
theorem d1_14 : decode prog_100_method_7_code 14 = .ok (.aload_n 0, 1) := by decide +kernel
theorem d1_15 : decode prog_100_method_7_code 15 = .ok (.getstatic 37, 3) := by decide +kernel
theorem d1_18 : decode prog_100_method_7_code 18 = .ok (.if_acmp .eq 10, 3) := by decide +kernel
theorem d1_21 : decode prog_100_method_7_code 21 = .ok (.aload_n 0, 1) := by decide +kernel
theorem d1_22 : decode prog_100_method_7_code 22 = .ok (.getstatic 40, 3) := by decide +kernel
theorem d1_25 : decode prog_100_method_7_code 25 = .ok (.if_acmp .ne 7, 3) := by decide +kernel
theorem d1_28 : decode prog_100_method_7_code 28 = .ok (.iconst 1, 1) := by decide +kernel
theorem d1_29 : decode prog_100_method_7_code 29 = .ok (.goto 4, 3) := by decide +kernel
theorem d1_32 : decode prog_100_method_7_code 32 = .ok (.iconst 0, 1) := by decide +kernel
theorem d1_33 : decode prog_100_method_7_code 33 = .ok (.ireturn, 1) := by decide +kernel
theorem pn_com_example_idlsmith_idlsmith_idl_Builtin : plainName "com/example/idlsmith/idlsmith/idl/Builtin" = true := by first | (simp [plainName, overriddenIn]; done) | decide +kernel
theorem ef_1 (m : MethodId) (x0 : Addr) : entryFrame m #[(.ref x0)] 1 = mkF m 0 #[.val (.ref x0)] [] := by first | (simp [entryFrame, mkF, argsToLocals, Value.category]; done) | rfl
def Q1 (a1 f1 f2 f3 f4 : Addr) (h0 : Heap) (n0 : Nat) (v : Option Value) (h : Heap) (L : List Loc) : Prop := v = some (.int (own_fp a1 f1 f2 f3 f4)) ∧ Fr n0 L ∧ h = h0
set_option maxRecDepth 65536 in
set_option maxHeartbeats 40000000 in
theorem rm1 (l : Launch) (Z : State) (a0 : Array Value) (hw : ∀ d ∈ tables_1, d.before a0 Z = true) (ws : List Jvm.Cond) (a1 f1 f2 f3 f4 : Addr) (h0 : Heap) (n0 : Nat) (O0 : Old Z n0 h0) (S1 : Sta Z h0 "com/example/idlsmith/idlsmith/idl/Builtin" "FLOAT" "Lcom/example/idlsmith/idlsmith/idl/Builtin;" (.ref f1)) (S2 : Sta Z h0 "com/example/idlsmith/idlsmith/idl/Builtin" "UNRESTRICTED_FLOAT" "Lcom/example/idlsmith/idlsmith/idl/Builtin;" (.ref f2)) (S3 : Sta Z h0 "com/example/idlsmith/idlsmith/idl/Builtin" "DOUBLE" "Lcom/example/idlsmith/idlsmith/idl/Builtin;" (.ref f3)) (S4 : Sta Z h0 "com/example/idlsmith/idlsmith/idl/Builtin" "UNRESTRICTED_DOUBLE" "Lcom/example/idlsmith/idlsmith/idl/Builtin;" (.ref f4)) :
    MetFree l (⟨"com/example/idlsmith/idlsmith/idl/Builtin", "isFloatingPoint", "()Z"⟩ : MethodName) (head1 (Jvm.Cond.code (⟨"com/example/idlsmith/idlsmith/idl/Builtin", "isFloatingPoint", "()Z"⟩ : MethodName) prog_100_method_7_code 1 (some .boolean) :: ws) ({ frames := 0, cells := 0, slots := 0, locals := 0 } : Room)) (fun aQ U => aQ = #[(.ref a1)] ∧ Z.Warmed39 U.vm ∧ U.heap = h0) (fun _ _ _ _ _ => True) (fun _ U o U' => ∃ v L, o = .returned v ∧ Q1 a1 f1 f2 f3 f4 h0 n0 v U'.heap L ∧ FrameEnd U o U' L ({ frames := 0, cells := 0, slots := 0, locals := 0 } : Room).cells ({ frames := 0, cells := 0, slots := 0, locals := 0 } : Room).slots) := by
  refine MetFree.of_bodySF (plainFor_of_name pn_com_example_idlsmith_idlsmith_idl_Builtin) hisR ?_
  intro p e s m args below meth kode s₁ Bd hml0 hP hK
  obtain ⟨rfl, hZ, hh⟩ := hP
  have hx := Bd.exec
  have hby := Bd.bytes
  have hml : kode.maxLocals = 1 := hml0
  have hown : s.vm.findClass "com/example/idlsmith/idlsmith/idl/Builtin" = some m.cls := findClass_of_methodNamed Bd.named
  have hnm := (name_of_methodNamed Bd.named Bd.method).1
  have X0 : Stand p l e ({ frames := 0, cells := 0, slots := 0, locals := 0 } : Room) s m #[(.ref a1)] below meth kode s₁ [] 0 0 := Stand.of_body Bd
  have e0 : s₁.heap = h0 := by rw [← hh, Bd.state]; rfl
  have N0 := Fr.nil n0
  have pre0 : ∀ t, Steps p.tables e below (s₁.setTop (mkF m 0 #[.val (.ref a1)] [])) t → Steps p.tables e below (s₁.setTop (entryFrame m #[(.ref a1)] 1)) t := fun t k => castTop (ef_1 m a1) k
  have cn1 := fun (t : State) (kt : Steps p.tables e below (s₁.setTop (mkF m 1 #[.val (.ref a1)] [(.ref a1)])) t) => pre0 t (by
    refine XS.aloadN X0.here hx rfl (hb hby d1_0) rfl rfl ?_
    show Steps p.tables e below (s₁.setTop (mkF m 1 #[.val (.ref a1)] [(.ref a1)])) _
    exact kt)
  obtain ⟨T2, X2, e2, st2⟩ := getS2 X0 hx hZ hown (host := "") (Or.inl (hw _ (List.mem_of_getElem? (i := 84) rfl))) Via.refl e0 S1 (g := (mkF m 1 #[.val (.ref a1)] [(.ref a1)])) rfl (hb hby d1_1)
  have cn3 := fun (t : State) (kt : Steps p.tables e below (T2.setTop (mkF m 4 #[.val (.ref a1)] [(.ref f1), (.ref a1)])) t) => cn1 t (by
    refine st2 _ ?_
    show Steps p.tables e below (T2.setTop (mkF m 4 #[.val (.ref a1)] [(.ref f1), (.ref a1)])) _
    exact kt)
  by_cases hc4_4 : a1 = f1
  · have cn5 := fun (t : State) (kt : Steps p.tables e below (T2.setTop (mkF m 33 #[.val (.ref a1)] [(.int (1 : Int32))])) t) => cn3 t (by
      refine Jvm.RoadKit.acmp (g := (mkF m 4 #[.val (.ref a1)] [(.ref f1), (.ref a1)])) X2 hx rfl rfl rfl (pc0 := 4) (pc' := 28) (same := true) rfl (hb hby d1_4) rfl (decide_eq_true (congrArg Value.ref hc4_4)) (by decide) (by decide) ?_
      show Steps p.tables e below (T2.setTop (mkF m 28 #[.val (.ref a1)] [])) _
      refine XS.iconst X2.here hx rfl (hb hby d1_28) ?_
      show Steps p.tables e below (T2.setTop (mkF m 29 #[.val (.ref a1)] [(.int (1 : Int32))])) _
      refine XS.goto X2.here hx rfl (pc0 := 29) (pc' := 33) rfl (hb hby d1_29) (by decide) (by decide) ?_
      show Steps p.tables e below (T2.setTop (mkF m 33 #[.val (.ref a1)] [(.int (1 : Int32))])) _
      exact kt)
    obtain ⟨frs, hr, hrun, hended, hW, hsame⟩ := X2.leave (v := some (.int (1 : Int32))) (fun h => by rw [Bd.returns] at h; cases h)
    refine ⟨_, _, cn5 _ ?_, hrun, hended, _, _, rfl, ?_, ⟨_, rfl⟩, hW, hsame.mono (by decide) (by decide)⟩
    · exact retN X2 hx (t := .boolean) Bd.returns (by simp) (hb hby d1_33) hr
    · show Q1 a1 f1 f2 f3 f4 h0 n0 _ T2.heap _
      rw [e2]
      exact ⟨by simp [own_fp, hc4_4], N0, rfl⟩
  · have cn6 := fun (t : State) (kt : Steps p.tables e below (T2.setTop (mkF m 8 #[.val (.ref a1)] [(.ref a1)])) t) => cn3 t (by
      refine Jvm.RoadKit.acmp (g := (mkF m 4 #[.val (.ref a1)] [(.ref f1), (.ref a1)])) X2 hx rfl rfl rfl (pc0 := 4) (pc' := 7) (same := false) rfl (hb hby d1_4) rfl (decide_eq_false fun q => hc4_4 (Value.ref.inj q)) (by decide) (by decide) ?_
      show Steps p.tables e below (T2.setTop (mkF m 7 #[.val (.ref a1)] [])) _
      refine XS.aloadN X2.here hx rfl (hb hby d1_7) rfl rfl ?_
      show Steps p.tables e below (T2.setTop (mkF m 8 #[.val (.ref a1)] [(.ref a1)])) _
      exact kt)
    obtain ⟨T7, X7, e7, st7⟩ := getS2 X2 hx hZ hown (host := "") (Or.inl (hw _ (List.mem_of_getElem? (i := 85) rfl))) Via.refl e2 S2 (g := (mkF m 8 #[.val (.ref a1)] [(.ref a1)])) rfl (hb hby d1_8)
    have cn8 := fun (t : State) (kt : Steps p.tables e below (T7.setTop (mkF m 11 #[.val (.ref a1)] [(.ref f2), (.ref a1)])) t) => cn6 t (by
      refine st7 _ ?_
      show Steps p.tables e below (T7.setTop (mkF m 11 #[.val (.ref a1)] [(.ref f2), (.ref a1)])) _
      exact kt)
    by_cases hc11_9 : a1 = f2
    · have cn10 := fun (t : State) (kt : Steps p.tables e below (T7.setTop (mkF m 33 #[.val (.ref a1)] [(.int (1 : Int32))])) t) => cn8 t (by
        refine Jvm.RoadKit.acmp (g := (mkF m 11 #[.val (.ref a1)] [(.ref f2), (.ref a1)])) X7 hx rfl rfl rfl (pc0 := 11) (pc' := 28) (same := true) rfl (hb hby d1_11) rfl (decide_eq_true (congrArg Value.ref hc11_9)) (by decide) (by decide) ?_
        show Steps p.tables e below (T7.setTop (mkF m 28 #[.val (.ref a1)] [])) _
        refine XS.iconst X7.here hx rfl (hb hby d1_28) ?_
        show Steps p.tables e below (T7.setTop (mkF m 29 #[.val (.ref a1)] [(.int (1 : Int32))])) _
        refine XS.goto X7.here hx rfl (pc0 := 29) (pc' := 33) rfl (hb hby d1_29) (by decide) (by decide) ?_
        show Steps p.tables e below (T7.setTop (mkF m 33 #[.val (.ref a1)] [(.int (1 : Int32))])) _
        exact kt)
      obtain ⟨frs, hr, hrun, hended, hW, hsame⟩ := X7.leave (v := some (.int (1 : Int32))) (fun h => by rw [Bd.returns] at h; cases h)
      refine ⟨_, _, cn10 _ ?_, hrun, hended, _, _, rfl, ?_, ⟨_, rfl⟩, hW, hsame.mono (by decide) (by decide)⟩
      · exact retN X7 hx (t := .boolean) Bd.returns (by simp) (hb hby d1_33) hr
      · show Q1 a1 f1 f2 f3 f4 h0 n0 _ T7.heap _
        rw [e7]
        exact ⟨by simp [own_fp, hc4_4, hc11_9], N0, rfl⟩
    · have cn11 := fun (t : State) (kt : Steps p.tables e below (T7.setTop (mkF m 15 #[.val (.ref a1)] [(.ref a1)])) t) => cn8 t (by
        refine Jvm.RoadKit.acmp (g := (mkF m 11 #[.val (.ref a1)] [(.ref f2), (.ref a1)])) X7 hx rfl rfl rfl (pc0 := 11) (pc' := 14) (same := false) rfl (hb hby d1_11) rfl (decide_eq_false fun q => hc11_9 (Value.ref.inj q)) (by decide) (by decide) ?_
        show Steps p.tables e below (T7.setTop (mkF m 14 #[.val (.ref a1)] [])) _
        refine XS.aloadN X7.here hx rfl (hb hby d1_14) rfl rfl ?_
        show Steps p.tables e below (T7.setTop (mkF m 15 #[.val (.ref a1)] [(.ref a1)])) _
        exact kt)
      obtain ⟨T12, X12, e12, st12⟩ := getS2 X7 hx hZ hown (host := "") (Or.inl (hw _ (List.mem_of_getElem? (i := 86) rfl))) Via.refl e7 S3 (g := (mkF m 15 #[.val (.ref a1)] [(.ref a1)])) rfl (hb hby d1_15)
      have cn13 := fun (t : State) (kt : Steps p.tables e below (T12.setTop (mkF m 18 #[.val (.ref a1)] [(.ref f3), (.ref a1)])) t) => cn11 t (by
        refine st12 _ ?_
        show Steps p.tables e below (T12.setTop (mkF m 18 #[.val (.ref a1)] [(.ref f3), (.ref a1)])) _
        exact kt)
      by_cases hc18_14 : a1 = f3
      · have cn15 := fun (t : State) (kt : Steps p.tables e below (T12.setTop (mkF m 33 #[.val (.ref a1)] [(.int (1 : Int32))])) t) => cn13 t (by
          refine Jvm.RoadKit.acmp (g := (mkF m 18 #[.val (.ref a1)] [(.ref f3), (.ref a1)])) X12 hx rfl rfl rfl (pc0 := 18) (pc' := 28) (same := true) rfl (hb hby d1_18) rfl (decide_eq_true (congrArg Value.ref hc18_14)) (by decide) (by decide) ?_
          show Steps p.tables e below (T12.setTop (mkF m 28 #[.val (.ref a1)] [])) _
          refine XS.iconst X12.here hx rfl (hb hby d1_28) ?_
          show Steps p.tables e below (T12.setTop (mkF m 29 #[.val (.ref a1)] [(.int (1 : Int32))])) _
          refine XS.goto X12.here hx rfl (pc0 := 29) (pc' := 33) rfl (hb hby d1_29) (by decide) (by decide) ?_
          show Steps p.tables e below (T12.setTop (mkF m 33 #[.val (.ref a1)] [(.int (1 : Int32))])) _
          exact kt)
        obtain ⟨frs, hr, hrun, hended, hW, hsame⟩ := X12.leave (v := some (.int (1 : Int32))) (fun h => by rw [Bd.returns] at h; cases h)
        refine ⟨_, _, cn15 _ ?_, hrun, hended, _, _, rfl, ?_, ⟨_, rfl⟩, hW, hsame.mono (by decide) (by decide)⟩
        · exact retN X12 hx (t := .boolean) Bd.returns (by simp) (hb hby d1_33) hr
        · show Q1 a1 f1 f2 f3 f4 h0 n0 _ T12.heap _
          rw [e12]
          exact ⟨by simp [own_fp, hc4_4, hc11_9, hc18_14], N0, rfl⟩
      · have cn16 := fun (t : State) (kt : Steps p.tables e below (T12.setTop (mkF m 22 #[.val (.ref a1)] [(.ref a1)])) t) => cn13 t (by
          refine Jvm.RoadKit.acmp (g := (mkF m 18 #[.val (.ref a1)] [(.ref f3), (.ref a1)])) X12 hx rfl rfl rfl (pc0 := 18) (pc' := 21) (same := false) rfl (hb hby d1_18) rfl (decide_eq_false fun q => hc18_14 (Value.ref.inj q)) (by decide) (by decide) ?_
          show Steps p.tables e below (T12.setTop (mkF m 21 #[.val (.ref a1)] [])) _
          refine XS.aloadN X12.here hx rfl (hb hby d1_21) rfl rfl ?_
          show Steps p.tables e below (T12.setTop (mkF m 22 #[.val (.ref a1)] [(.ref a1)])) _
          exact kt)
        obtain ⟨T17, X17, e17, st17⟩ := getS2 X12 hx hZ hown (host := "") (Or.inl (hw _ (List.mem_of_getElem? (i := 87) rfl))) Via.refl e12 S4 (g := (mkF m 22 #[.val (.ref a1)] [(.ref a1)])) rfl (hb hby d1_22)
        have cn18 := fun (t : State) (kt : Steps p.tables e below (T17.setTop (mkF m 25 #[.val (.ref a1)] [(.ref f4), (.ref a1)])) t) => cn16 t (by
          refine st17 _ ?_
          show Steps p.tables e below (T17.setTop (mkF m 25 #[.val (.ref a1)] [(.ref f4), (.ref a1)])) _
          exact kt)
        by_cases hc25_19 : a1 = f4
        · have cn20 := fun (t : State) (kt : Steps p.tables e below (T17.setTop (mkF m 33 #[.val (.ref a1)] [(.int (1 : Int32))])) t) => cn18 t (by
            refine Jvm.RoadKit.acmp (g := (mkF m 25 #[.val (.ref a1)] [(.ref f4), (.ref a1)])) X17 hx rfl rfl rfl (pc0 := 25) (pc' := 28) (same := true) rfl (hb hby d1_25) rfl (decide_eq_true (congrArg Value.ref hc25_19)) (by decide) (by decide) ?_
            show Steps p.tables e below (T17.setTop (mkF m 28 #[.val (.ref a1)] [])) _
            refine XS.iconst X17.here hx rfl (hb hby d1_28) ?_
            show Steps p.tables e below (T17.setTop (mkF m 29 #[.val (.ref a1)] [(.int (1 : Int32))])) _
            refine XS.goto X17.here hx rfl (pc0 := 29) (pc' := 33) rfl (hb hby d1_29) (by decide) (by decide) ?_
            show Steps p.tables e below (T17.setTop (mkF m 33 #[.val (.ref a1)] [(.int (1 : Int32))])) _
            exact kt)
          obtain ⟨frs, hr, hrun, hended, hW, hsame⟩ := X17.leave (v := some (.int (1 : Int32))) (fun h => by rw [Bd.returns] at h; cases h)
          refine ⟨_, _, cn20 _ ?_, hrun, hended, _, _, rfl, ?_, ⟨_, rfl⟩, hW, hsame.mono (by decide) (by decide)⟩
          · exact retN X17 hx (t := .boolean) Bd.returns (by simp) (hb hby d1_33) hr
          · show Q1 a1 f1 f2 f3 f4 h0 n0 _ T17.heap _
            rw [e17]
            exact ⟨by simp [own_fp, hc4_4, hc11_9, hc18_14, hc25_19], N0, rfl⟩
        · have cn21 := fun (t : State) (kt : Steps p.tables e below (T17.setTop (mkF m 33 #[.val (.ref a1)] [(.int (0 : Int32))])) t) => cn18 t (by
            refine Jvm.RoadKit.acmp (g := (mkF m 25 #[.val (.ref a1)] [(.ref f4), (.ref a1)])) X17 hx rfl rfl rfl (pc0 := 25) (pc' := 32) (same := false) rfl (hb hby d1_25) rfl (decide_eq_false fun q => hc25_19 (Value.ref.inj q)) (by decide) (by decide) ?_
            show Steps p.tables e below (T17.setTop (mkF m 32 #[.val (.ref a1)] [])) _
            refine XS.iconst X17.here hx rfl (hb hby d1_32) ?_
            show Steps p.tables e below (T17.setTop (mkF m 33 #[.val (.ref a1)] [(.int (0 : Int32))])) _
            exact kt)
          obtain ⟨frs, hr, hrun, hended, hW, hsame⟩ := X17.leave (v := some (.int (0 : Int32))) (fun h => by rw [Bd.returns] at h; cases h)
          refine ⟨_, _, cn21 _ ?_, hrun, hended, _, _, rfl, ?_, ⟨_, rfl⟩, hW, hsame.mono (by decide) (by decide)⟩
          · exact retN X17 hx (t := .boolean) Bd.returns (by simp) (hb hby d1_33) hr
          · show Q1 a1 f1 f2 f3 f4 h0 n0 _ T17.heap _
            rw [e17]
            exact ⟨by simp [own_fp, hc4_4, hc11_9, hc18_14, hc25_19], N0, rfl⟩

theorem own_fp0 {a f1 f2 f3 f4 : Addr} (h1 : a ≠ f1) (h2 : a ≠ f2) (h3 : a ≠ f3) (h4 : a ≠ f4) : own_fp a f1 f2 f3 f4 = (0 : Int32) := by unfold own_fp; rw [if_neg h1, if_neg h2, if_neg h3, if_neg h4]
theorem own_pick (Z : State) (p1 : Int32) (aBOOLEAN : Addr) (aBYTE : Addr) (aOCTET : Addr) (aSHORT : Addr) (aUNSIGNED_SHORT : Addr) (aLONG : Addr) (aUNSIGNED_LONG : Addr) (aLONG_LONG : Addr) (aUNSIGNED_LONG_LONG : Addr) (aFLOAT : Addr) (aUNRESTRICTED_FLOAT : Addr) (aDOUBLE : Addr) (aUNRESTRICTED_DOUBLE : Addr) (aBIGINT : Addr) (aDOMSTRING : Addr) (aBYTE_STRING : Addr) (aUSV_STRING : Addr) (aOBJECT : Addr) (aSYMBOL : Addr) (aANY : Addr) (aUNDEFINED : Addr) (aDATE : Addr) (aARRAY_BUFFER : Addr) (aSHARED_ARRAY_BUFFER : Addr) (aDATA_VIEW : Addr) (aINT8_ARRAY : Addr) (aINT16_ARRAY : Addr) (aINT32_ARRAY : Addr) (aUINT8_ARRAY : Addr) (aUINT16_ARRAY : Addr) (aUINT32_ARRAY : Addr) (aUINT8_CLAMPED_ARRAY : Addr) (aBIG_INT64_ARRAY : Addr) (aBIG_UINT64_ARRAY : Addr) (aFLOAT16_ARRAY : Addr) (aFLOAT32_ARRAY : Addr) (aFLOAT64_ARRAY : Addr) (E_BOOLEAN : Exa Z Z.heap aBOOLEAN "com/example/idlsmith/idlsmith/idl/Builtin") (F_BOOLEAN_ordinal : Fld Z Z.heap aBOOLEAN "java/lang/Enum" "ordinal" "I" (.int (0 : Int32))) (E_BYTE : Exa Z Z.heap aBYTE "com/example/idlsmith/idlsmith/idl/Builtin") (F_BYTE_ordinal : Fld Z Z.heap aBYTE "java/lang/Enum" "ordinal" "I" (.int (1 : Int32))) (E_OCTET : Exa Z Z.heap aOCTET "com/example/idlsmith/idlsmith/idl/Builtin") (F_OCTET_ordinal : Fld Z Z.heap aOCTET "java/lang/Enum" "ordinal" "I" (.int (2 : Int32))) (E_SHORT : Exa Z Z.heap aSHORT "com/example/idlsmith/idlsmith/idl/Builtin") (F_SHORT_ordinal : Fld Z Z.heap aSHORT "java/lang/Enum" "ordinal" "I" (.int (3 : Int32))) (E_UNSIGNED_SHORT : Exa Z Z.heap aUNSIGNED_SHORT "com/example/idlsmith/idlsmith/idl/Builtin") (F_UNSIGNED_SHORT_ordinal : Fld Z Z.heap aUNSIGNED_SHORT "java/lang/Enum" "ordinal" "I" (.int (4 : Int32))) (E_LONG : Exa Z Z.heap aLONG "com/example/idlsmith/idlsmith/idl/Builtin") (F_LONG_ordinal : Fld Z Z.heap aLONG "java/lang/Enum" "ordinal" "I" (.int (5 : Int32))) (E_UNSIGNED_LONG : Exa Z Z.heap aUNSIGNED_LONG "com/example/idlsmith/idlsmith/idl/Builtin") (F_UNSIGNED_LONG_ordinal : Fld Z Z.heap aUNSIGNED_LONG "java/lang/Enum" "ordinal" "I" (.int (6 : Int32))) (E_LONG_LONG : Exa Z Z.heap aLONG_LONG "com/example/idlsmith/idlsmith/idl/Builtin") (F_LONG_LONG_ordinal : Fld Z Z.heap aLONG_LONG "java/lang/Enum" "ordinal" "I" (.int (7 : Int32))) (E_UNSIGNED_LONG_LONG : Exa Z Z.heap aUNSIGNED_LONG_LONG "com/example/idlsmith/idlsmith/idl/Builtin") (F_UNSIGNED_LONG_LONG_ordinal : Fld Z Z.heap aUNSIGNED_LONG_LONG "java/lang/Enum" "ordinal" "I" (.int (8 : Int32))) (E_FLOAT : Exa Z Z.heap aFLOAT "com/example/idlsmith/idlsmith/idl/Builtin") (F_FLOAT_ordinal : Fld Z Z.heap aFLOAT "java/lang/Enum" "ordinal" "I" (.int (9 : Int32))) (E_UNRESTRICTED_FLOAT : Exa Z Z.heap aUNRESTRICTED_FLOAT "com/example/idlsmith/idlsmith/idl/Builtin") (F_UNRESTRICTED_FLOAT_ordinal : Fld Z Z.heap aUNRESTRICTED_FLOAT "java/lang/Enum" "ordinal" "I" (.int (10 : Int32))) (E_DOUBLE : Exa Z Z.heap aDOUBLE "com/example/idlsmith/idlsmith/idl/Builtin") (F_DOUBLE_ordinal : Fld Z Z.heap aDOUBLE "java/lang/Enum" "ordinal" "I" (.int (11 : Int32))) (E_UNRESTRICTED_DOUBLE : Exa Z Z.heap aUNRESTRICTED_DOUBLE "com/example/idlsmith/idlsmith/idl/Builtin") (F_UNRESTRICTED_DOUBLE_ordinal : Fld Z Z.heap aUNRESTRICTED_DOUBLE "java/lang/Enum" "ordinal" "I" (.int (12 : Int32))) (E_BIGINT : Exa Z Z.heap aBIGINT "com/example/idlsmith/idlsmith/idl/Builtin") (F_BIGINT_ordinal : Fld Z Z.heap aBIGINT "java/lang/Enum" "ordinal" "I" (.int (13 : Int32))) (E_DOMSTRING : Exa Z Z.heap aDOMSTRING "com/example/idlsmith/idlsmith/idl/Builtin") (F_DOMSTRING_ordinal : Fld Z Z.heap aDOMSTRING "java/lang/Enum" "ordinal" "I" (.int (14 : Int32))) (E_BYTE_STRING : Exa Z Z.heap aBYTE_STRING "com/example/idlsmith/idlsmith/idl/Builtin") (F_BYTE_STRING_ordinal : Fld Z Z.heap aBYTE_STRING "java/lang/Enum" "ordinal" "I" (.int (15 : Int32))) (E_USV_STRING : Exa Z Z.heap aUSV_STRING "com/example/idlsmith/idlsmith/idl/Builtin") (F_USV_STRING_ordinal : Fld Z Z.heap aUSV_STRING "java/lang/Enum" "ordinal" "I" (.int (16 : Int32))) (E_OBJECT : Exa Z Z.heap aOBJECT "com/example/idlsmith/idlsmith/idl/Builtin") (F_OBJECT_ordinal : Fld Z Z.heap aOBJECT "java/lang/Enum" "ordinal" "I" (.int (17 : Int32))) (E_SYMBOL : Exa Z Z.heap aSYMBOL "com/example/idlsmith/idlsmith/idl/Builtin") (F_SYMBOL_ordinal : Fld Z Z.heap aSYMBOL "java/lang/Enum" "ordinal" "I" (.int (18 : Int32))) (E_ANY : Exa Z Z.heap aANY "com/example/idlsmith/idlsmith/idl/Builtin") (F_ANY_ordinal : Fld Z Z.heap aANY "java/lang/Enum" "ordinal" "I" (.int (19 : Int32))) (E_UNDEFINED : Exa Z Z.heap aUNDEFINED "com/example/idlsmith/idlsmith/idl/Builtin") (F_UNDEFINED_ordinal : Fld Z Z.heap aUNDEFINED "java/lang/Enum" "ordinal" "I" (.int (20 : Int32))) (E_DATE : Exa Z Z.heap aDATE "com/example/idlsmith/idlsmith/idl/Builtin") (F_DATE_ordinal : Fld Z Z.heap aDATE "java/lang/Enum" "ordinal" "I" (.int (21 : Int32))) (E_ARRAY_BUFFER : Exa Z Z.heap aARRAY_BUFFER "com/example/idlsmith/idlsmith/idl/Builtin") (F_ARRAY_BUFFER_ordinal : Fld Z Z.heap aARRAY_BUFFER "java/lang/Enum" "ordinal" "I" (.int (22 : Int32))) (E_SHARED_ARRAY_BUFFER : Exa Z Z.heap aSHARED_ARRAY_BUFFER "com/example/idlsmith/idlsmith/idl/Builtin") (F_SHARED_ARRAY_BUFFER_ordinal : Fld Z Z.heap aSHARED_ARRAY_BUFFER "java/lang/Enum" "ordinal" "I" (.int (23 : Int32))) (E_DATA_VIEW : Exa Z Z.heap aDATA_VIEW "com/example/idlsmith/idlsmith/idl/Builtin") (F_DATA_VIEW_ordinal : Fld Z Z.heap aDATA_VIEW "java/lang/Enum" "ordinal" "I" (.int (24 : Int32))) (E_INT8_ARRAY : Exa Z Z.heap aINT8_ARRAY "com/example/idlsmith/idlsmith/idl/Builtin") (F_INT8_ARRAY_ordinal : Fld Z Z.heap aINT8_ARRAY "java/lang/Enum" "ordinal" "I" (.int (25 : Int32))) (E_INT16_ARRAY : Exa Z Z.heap aINT16_ARRAY "com/example/idlsmith/idlsmith/idl/Builtin") (F_INT16_ARRAY_ordinal : Fld Z Z.heap aINT16_ARRAY "java/lang/Enum" "ordinal" "I" (.int (26 : Int32))) (E_INT32_ARRAY : Exa Z Z.heap aINT32_ARRAY "com/example/idlsmith/idlsmith/idl/Builtin") (F_INT32_ARRAY_ordinal : Fld Z Z.heap aINT32_ARRAY "java/lang/Enum" "ordinal" "I" (.int (27 : Int32))) (E_UINT8_ARRAY : Exa Z Z.heap aUINT8_ARRAY "com/example/idlsmith/idlsmith/idl/Builtin") (F_UINT8_ARRAY_ordinal : Fld Z Z.heap aUINT8_ARRAY "java/lang/Enum" "ordinal" "I" (.int (28 : Int32))) (E_UINT16_ARRAY : Exa Z Z.heap aUINT16_ARRAY "com/example/idlsmith/idlsmith/idl/Builtin") (F_UINT16_ARRAY_ordinal : Fld Z Z.heap aUINT16_ARRAY "java/lang/Enum" "ordinal" "I" (.int (29 : Int32))) (E_UINT32_ARRAY : Exa Z Z.heap aUINT32_ARRAY "com/example/idlsmith/idlsmith/idl/Builtin") (F_UINT32_ARRAY_ordinal : Fld Z Z.heap aUINT32_ARRAY "java/lang/Enum" "ordinal" "I" (.int (30 : Int32))) (E_UINT8_CLAMPED_ARRAY : Exa Z Z.heap aUINT8_CLAMPED_ARRAY "com/example/idlsmith/idlsmith/idl/Builtin") (F_UINT8_CLAMPED_ARRAY_ordinal : Fld Z Z.heap aUINT8_CLAMPED_ARRAY "java/lang/Enum" "ordinal" "I" (.int (31 : Int32))) (E_BIG_INT64_ARRAY : Exa Z Z.heap aBIG_INT64_ARRAY "com/example/idlsmith/idlsmith/idl/Builtin") (F_BIG_INT64_ARRAY_ordinal : Fld Z Z.heap aBIG_INT64_ARRAY "java/lang/Enum" "ordinal" "I" (.int (32 : Int32))) (E_BIG_UINT64_ARRAY : Exa Z Z.heap aBIG_UINT64_ARRAY "com/example/idlsmith/idlsmith/idl/Builtin") (F_BIG_UINT64_ARRAY_ordinal : Fld Z Z.heap aBIG_UINT64_ARRAY "java/lang/Enum" "ordinal" "I" (.int (33 : Int32))) (E_FLOAT16_ARRAY : Exa Z Z.heap aFLOAT16_ARRAY "com/example/idlsmith/idlsmith/idl/Builtin") (F_FLOAT16_ARRAY_ordinal : Fld Z Z.heap aFLOAT16_ARRAY "java/lang/Enum" "ordinal" "I" (.int (34 : Int32))) (E_FLOAT32_ARRAY : Exa Z Z.heap aFLOAT32_ARRAY "com/example/idlsmith/idlsmith/idl/Builtin") (F_FLOAT32_ARRAY_ordinal : Fld Z Z.heap aFLOAT32_ARRAY "java/lang/Enum" "ordinal" "I" (.int (35 : Int32))) (E_FLOAT64_ARRAY : Exa Z Z.heap aFLOAT64_ARRAY "com/example/idlsmith/idlsmith/idl/Builtin") (F_FLOAT64_ARRAY_ordinal : Fld Z Z.heap aFLOAT64_ARRAY "java/lang/Enum" "ordinal" "I" (.int (36 : Int32))) : ∃ oo : Addr, ([(.ref aBOOLEAN), (.ref aBYTE), (.ref aOCTET), (.ref aSHORT), (.ref aUNSIGNED_SHORT), (.ref aLONG), (.ref aUNSIGNED_LONG), (.ref aLONG_LONG), (.ref aUNSIGNED_LONG_LONG), (.ref aFLOAT), (.ref aUNRESTRICTED_FLOAT), (.ref aDOUBLE), (.ref aUNRESTRICTED_DOUBLE), (.ref aBIGINT), (.ref aDOMSTRING), (.ref aBYTE_STRING), (.ref aUSV_STRING), (.ref aOBJECT), (.ref aSYMBOL), (.ref aANY), (.ref aUNDEFINED), (.ref aDATE), (.ref aARRAY_BUFFER), (.ref aSHARED_ARRAY_BUFFER), (.ref aDATA_VIEW), (.ref aINT8_ARRAY), (.ref aINT16_ARRAY), (.ref aINT32_ARRAY), (.ref aUINT8_ARRAY), (.ref aUINT16_ARRAY), (.ref aUINT32_ARRAY), (.ref aUINT8_CLAMPED_ARRAY), (.ref aBIG_INT64_ARRAY), (.ref aBIG_UINT64_ARRAY), (.ref aFLOAT16_ARRAY), (.ref aFLOAT32_ARRAY), (.ref aFLOAT64_ARRAY)] : List Value).getD (((p1 &&& (2147483647 : Int32)) % (37 : Int32))).toNatClampNeg .null = Value.ref oo ∧ Exa Z Z.heap oo "com/example/idlsmith/idlsmith/idl/Builtin" ∧ (((p1 &&& (2147483647 : Int32)) % (37 : Int32)) < (9 : Int32) → own_fp oo aFLOAT aUNRESTRICTED_FLOAT aDOUBLE aUNRESTRICTED_DOUBLE = (0 : Int32)) ∧ (¬ ((p1 &&& (2147483647 : Int32)) % (37 : Int32)) < (9 : Int32) → ¬ (12 : Int32) < ((p1 &&& (2147483647 : Int32)) % (37 : Int32)) → own_fp oo aFLOAT aUNRESTRICTED_FLOAT aDOUBLE aUNRESTRICTED_DOUBLE = (1 : Int32)) ∧ ((12 : Int32) < ((p1 &&& (2147483647 : Int32)) % (37 : Int32)) → own_fp oo aFLOAT aUNRESTRICTED_FLOAT aDOUBLE aUNRESTRICTED_DOUBLE = (0 : Int32)) ∧ ¬ ((p1 &&& (2147483647 : Int32)) % (37 : Int32)) < 0 ∧ ((p1 &&& (2147483647 : Int32)) % (37 : Int32)) < (37 : Int32) := by
  rcases own_k37 p1 with hk | hk | hk | hk | hk | hk | hk | hk | hk | hk | hk | hk | hk | hk | hk | hk | hk | hk | hk | hk | hk | hk | hk | hk | hk | hk | hk | hk | hk | hk | hk | hk | hk | hk | hk | hk | hk
  · exact ⟨aBOOLEAN, by rw [hk] <;> rfl, E_BOOLEAN, fun _ => (own_fp0 (Fld.ne F_BOOLEAN_ordinal F_FLOAT_ordinal (by decide)) (Fld.ne F_BOOLEAN_ordinal F_UNRESTRICTED_FLOAT_ordinal (by decide)) (Fld.ne F_BOOLEAN_ordinal F_DOUBLE_ordinal (by decide)) (Fld.ne F_BOOLEAN_ordinal F_UNRESTRICTED_DOUBLE_ordinal (by decide))), fun q => absurd (by rw [hk] <;> decide) q, fun q => absurd q (by rw [hk] <;> decide), by rw [hk] <;> decide, by rw [hk] <;> decide⟩
  · exact ⟨aBYTE, by rw [hk] <;> rfl, E_BYTE, fun _ => (own_fp0 (Fld.ne F_BYTE_ordinal F_FLOAT_ordinal (by decide)) (Fld.ne F_BYTE_ordinal F_UNRESTRICTED_FLOAT_ordinal (by decide)) (Fld.ne F_BYTE_ordinal F_DOUBLE_ordinal (by decide)) (Fld.ne F_BYTE_ordinal F_UNRESTRICTED_DOUBLE_ordinal (by decide))), fun q => absurd (by rw [hk] <;> decide) q, fun q => absurd q (by rw [hk] <;> decide), by rw [hk] <;> decide, by rw [hk] <;> decide⟩
  · exact ⟨aOCTET, by rw [hk] <;> rfl, E_OCTET, fun _ => (own_fp0 (Fld.ne F_OCTET_ordinal F_FLOAT_ordinal (by decide)) (Fld.ne F_OCTET_ordinal F_UNRESTRICTED_FLOAT_ordinal (by decide)) (Fld.ne F_OCTET_ordinal F_DOUBLE_ordinal (by decide)) (Fld.ne F_OCTET_ordinal F_UNRESTRICTED_DOUBLE_ordinal (by decide))), fun q => absurd (by rw [hk] <;> decide) q, fun q => absurd q (by rw [hk] <;> decide), by rw [hk] <;> decide, by rw [hk] <;> decide⟩
  · exact ⟨aSHORT, by rw [hk] <;> rfl, E_SHORT, fun _ => (own_fp0 (Fld.ne F_SHORT_ordinal F_FLOAT_ordinal (by decide)) (Fld.ne F_SHORT_ordinal F_UNRESTRICTED_FLOAT_ordinal (by decide)) (Fld.ne F_SHORT_ordinal F_DOUBLE_ordinal (by decide)) (Fld.ne F_SHORT_ordinal F_UNRESTRICTED_DOUBLE_ordinal (by decide))), fun q => absurd (by rw [hk] <;> decide) q, fun q => absurd q (by rw [hk] <;> decide), by rw [hk] <;> decide, by rw [hk] <;> decide⟩
  · exact ⟨aUNSIGNED_SHORT, by rw [hk] <;> rfl, E_UNSIGNED_SHORT, fun _ => (own_fp0 (Fld.ne F_UNSIGNED_SHORT_ordinal F_FLOAT_ordinal (by decide)) (Fld.ne F_UNSIGNED_SHORT_ordinal F_UNRESTRICTED_FLOAT_ordinal (by decide)) (Fld.ne F_UNSIGNED_SHORT_ordinal F_DOUBLE_ordinal (by decide)) (Fld.ne F_UNSIGNED_SHORT_ordinal F_UNRESTRICTED_DOUBLE_ordinal (by decide))), fun q => absurd (by rw [hk] <;> decide) q, fun q => absurd q (by rw [hk] <;> decide), by rw [hk] <;> decide, by rw [hk] <;> decide⟩
  · exact ⟨aLONG, by rw [hk] <;> rfl, E_LONG, fun _ => (own_fp0 (Fld.ne F_LONG_ordinal F_FLOAT_ordinal (by decide)) (Fld.ne F_LONG_ordinal F_UNRESTRICTED_FLOAT_ordinal (by decide)) (Fld.ne F_LONG_ordinal F_DOUBLE_ordinal (by decide)) (Fld.ne F_LONG_ordinal F_UNRESTRICTED_DOUBLE_ordinal (by decide))), fun q => absurd (by rw [hk] <;> decide) q, fun q => absurd q (by rw [hk] <;> decide), by rw [hk] <;> decide, by rw [hk] <;> decide⟩
  · exact ⟨aUNSIGNED_LONG, by rw [hk] <;> rfl, E_UNSIGNED_LONG, fun _ => (own_fp0 (Fld.ne F_UNSIGNED_LONG_ordinal F_FLOAT_ordinal (by decide)) (Fld.ne F_UNSIGNED_LONG_ordinal F_UNRESTRICTED_FLOAT_ordinal (by decide)) (Fld.ne F_UNSIGNED_LONG_ordinal F_DOUBLE_ordinal (by decide)) (Fld.ne F_UNSIGNED_LONG_ordinal F_UNRESTRICTED_DOUBLE_ordinal (by decide))), fun q => absurd (by rw [hk] <;> decide) q, fun q => absurd q (by rw [hk] <;> decide), by rw [hk] <;> decide, by rw [hk] <;> decide⟩
  · exact ⟨aLONG_LONG, by rw [hk] <;> rfl, E_LONG_LONG, fun _ => (own_fp0 (Fld.ne F_LONG_LONG_ordinal F_FLOAT_ordinal (by decide)) (Fld.ne F_LONG_LONG_ordinal F_UNRESTRICTED_FLOAT_ordinal (by decide)) (Fld.ne F_LONG_LONG_ordinal F_DOUBLE_ordinal (by decide)) (Fld.ne F_LONG_LONG_ordinal F_UNRESTRICTED_DOUBLE_ordinal (by decide))), fun q => absurd (by rw [hk] <;> decide) q, fun q => absurd q (by rw [hk] <;> decide), by rw [hk] <;> decide, by rw [hk] <;> decide⟩
  · exact ⟨aUNSIGNED_LONG_LONG, by rw [hk] <;> rfl, E_UNSIGNED_LONG_LONG, fun _ => (own_fp0 (Fld.ne F_UNSIGNED_LONG_LONG_ordinal F_FLOAT_ordinal (by decide)) (Fld.ne F_UNSIGNED_LONG_LONG_ordinal F_UNRESTRICTED_FLOAT_ordinal (by decide)) (Fld.ne F_UNSIGNED_LONG_LONG_ordinal F_DOUBLE_ordinal (by decide)) (Fld.ne F_UNSIGNED_LONG_LONG_ordinal F_UNRESTRICTED_DOUBLE_ordinal (by decide))), fun q => absurd (by rw [hk] <;> decide) q, fun q => absurd q (by rw [hk] <;> decide), by rw [hk] <;> decide, by rw [hk] <;> decide⟩
  · exact ⟨aFLOAT, by rw [hk] <;> rfl, E_FLOAT, fun q => absurd q (by rw [hk] <;> decide), fun _ _ => (by simp [own_fp]), fun q => absurd q (by rw [hk] <;> decide), by rw [hk] <;> decide, by rw [hk] <;> decide⟩
  · exact ⟨aUNRESTRICTED_FLOAT, by rw [hk] <;> rfl, E_UNRESTRICTED_FLOAT, fun q => absurd q (by rw [hk] <;> decide), fun _ _ => (by simp [own_fp]), fun q => absurd q (by rw [hk] <;> decide), by rw [hk] <;> decide, by rw [hk] <;> decide⟩
  · exact ⟨aDOUBLE, by rw [hk] <;> rfl, E_DOUBLE, fun q => absurd q (by rw [hk] <;> decide), fun _ _ => (by simp [own_fp]), fun q => absurd q (by rw [hk] <;> decide), by rw [hk] <;> decide, by rw [hk] <;> decide⟩
  · exact ⟨aUNRESTRICTED_DOUBLE, by rw [hk] <;> rfl, E_UNRESTRICTED_DOUBLE, fun q => absurd q (by rw [hk] <;> decide), fun _ _ => (by simp [own_fp]), fun q => absurd q (by rw [hk] <;> decide), by rw [hk] <;> decide, by rw [hk] <;> decide⟩
  · exact ⟨aBIGINT, by rw [hk] <;> rfl, E_BIGINT, fun q => absurd q (by rw [hk] <;> decide), fun _ q => absurd (by rw [hk] <;> decide) q, fun _ => (own_fp0 (Fld.ne F_BIGINT_ordinal F_FLOAT_ordinal (by decide)) (Fld.ne F_BIGINT_ordinal F_UNRESTRICTED_FLOAT_ordinal (by decide)) (Fld.ne F_BIGINT_ordinal F_DOUBLE_ordinal (by decide)) (Fld.ne F_BIGINT_ordinal F_UNRESTRICTED_DOUBLE_ordinal (by decide))), by rw [hk] <;> decide, by rw [hk] <;> decide⟩
  · exact ⟨aDOMSTRING, by rw [hk] <;> rfl, E_DOMSTRING, fun q => absurd q (by rw [hk] <;> decide), fun _ q => absurd (by rw [hk] <;> decide) q, fun _ => (own_fp0 (Fld.ne F_DOMSTRING_ordinal F_FLOAT_ordinal (by decide)) (Fld.ne F_DOMSTRING_ordinal F_UNRESTRICTED_FLOAT_ordinal (by decide)) (Fld.ne F_DOMSTRING_ordinal F_DOUBLE_ordinal (by decide)) (Fld.ne F_DOMSTRING_ordinal F_UNRESTRICTED_DOUBLE_ordinal (by decide))), by rw [hk] <;> decide, by rw [hk] <;> decide⟩
  · exact ⟨aBYTE_STRING, by rw [hk] <;> rfl, E_BYTE_STRING, fun q => absurd q (by rw [hk] <;> decide), fun _ q => absurd (by rw [hk] <;> decide) q, fun _ => (own_fp0 (Fld.ne F_BYTE_STRING_ordinal F_FLOAT_ordinal (by decide)) (Fld.ne F_BYTE_STRING_ordinal F_UNRESTRICTED_FLOAT_ordinal (by decide)) (Fld.ne F_BYTE_STRING_ordinal F_DOUBLE_ordinal (by decide)) (Fld.ne F_BYTE_STRING_ordinal F_UNRESTRICTED_DOUBLE_ordinal (by decide))), by rw [hk] <;> decide, by rw [hk] <;> decide⟩
  · exact ⟨aUSV_STRING, by rw [hk] <;> rfl, E_USV_STRING, fun q => absurd q (by rw [hk] <;> decide), fun _ q => absurd (by rw [hk] <;> decide) q, fun _ => (own_fp0 (Fld.ne F_USV_STRING_ordinal F_FLOAT_ordinal (by decide)) (Fld.ne F_USV_STRING_ordinal F_UNRESTRICTED_FLOAT_ordinal (by decide)) (Fld.ne F_USV_STRING_ordinal F_DOUBLE_ordinal (by decide)) (Fld.ne F_USV_STRING_ordinal F_UNRESTRICTED_DOUBLE_ordinal (by decide))), by rw [hk] <;> decide, by rw [hk] <;> decide⟩
  · exact ⟨aOBJECT, by rw [hk] <;> rfl, E_OBJECT, fun q => absurd q (by rw [hk] <;> decide), fun _ q => absurd (by rw [hk] <;> decide) q, fun _ => (own_fp0 (Fld.ne F_OBJECT_ordinal F_FLOAT_ordinal (by decide)) (Fld.ne F_OBJECT_ordinal F_UNRESTRICTED_FLOAT_ordinal (by decide)) (Fld.ne F_OBJECT_ordinal F_DOUBLE_ordinal (by decide)) (Fld.ne F_OBJECT_ordinal F_UNRESTRICTED_DOUBLE_ordinal (by decide))), by rw [hk] <;> decide, by rw [hk] <;> decide⟩
  · exact ⟨aSYMBOL, by rw [hk] <;> rfl, E_SYMBOL, fun q => absurd q (by rw [hk] <;> decide), fun _ q => absurd (by rw [hk] <;> decide) q, fun _ => (own_fp0 (Fld.ne F_SYMBOL_ordinal F_FLOAT_ordinal (by decide)) (Fld.ne F_SYMBOL_ordinal F_UNRESTRICTED_FLOAT_ordinal (by decide)) (Fld.ne F_SYMBOL_ordinal F_DOUBLE_ordinal (by decide)) (Fld.ne F_SYMBOL_ordinal F_UNRESTRICTED_DOUBLE_ordinal (by decide))), by rw [hk] <;> decide, by rw [hk] <;> decide⟩
  · exact ⟨aANY, by rw [hk] <;> rfl, E_ANY, fun q => absurd q (by rw [hk] <;> decide), fun _ q => absurd (by rw [hk] <;> decide) q, fun _ => (own_fp0 (Fld.ne F_ANY_ordinal F_FLOAT_ordinal (by decide)) (Fld.ne F_ANY_ordinal F_UNRESTRICTED_FLOAT_ordinal (by decide)) (Fld.ne F_ANY_ordinal F_DOUBLE_ordinal (by decide)) (Fld.ne F_ANY_ordinal F_UNRESTRICTED_DOUBLE_ordinal (by decide))), by rw [hk] <;> decide, by rw [hk] <;> decide⟩
  · exact ⟨aUNDEFINED, by rw [hk] <;> rfl, E_UNDEFINED, fun q => absurd q (by rw [hk] <;> decide), fun _ q => absurd (by rw [hk] <;> decide) q, fun _ => (own_fp0 (Fld.ne F_UNDEFINED_ordinal F_FLOAT_ordinal (by decide)) (Fld.ne F_UNDEFINED_ordinal F_UNRESTRICTED_FLOAT_ordinal (by decide)) (Fld.ne F_UNDEFINED_ordinal F_DOUBLE_ordinal (by decide)) (Fld.ne F_UNDEFINED_ordinal F_UNRESTRICTED_DOUBLE_ordinal (by decide))), by rw [hk] <;> decide, by rw [hk] <;> decide⟩
  · exact ⟨aDATE, by rw [hk] <;> rfl, E_DATE, fun q => absurd q (by rw [hk] <;> decide), fun _ q => absurd (by rw [hk] <;> decide) q, fun _ => (own_fp0 (Fld.ne F_DATE_ordinal F_FLOAT_ordinal (by decide)) (Fld.ne F_DATE_ordinal F_UNRESTRICTED_FLOAT_ordinal (by decide)) (Fld.ne F_DATE_ordinal F_DOUBLE_ordinal (by decide)) (Fld.ne F_DATE_ordinal F_UNRESTRICTED_DOUBLE_ordinal (by decide))), by rw [hk] <;> decide, by rw [hk] <;> decide⟩
  · exact ⟨aARRAY_BUFFER, by rw [hk] <;> rfl, E_ARRAY_BUFFER, fun q => absurd q (by rw [hk] <;> decide), fun _ q => absurd (by rw [hk] <;> decide) q, fun _ => (own_fp0 (Fld.ne F_ARRAY_BUFFER_ordinal F_FLOAT_ordinal (by decide)) (Fld.ne F_ARRAY_BUFFER_ordinal F_UNRESTRICTED_FLOAT_ordinal (by decide)) (Fld.ne F_ARRAY_BUFFER_ordinal F_DOUBLE_ordinal (by decide)) (Fld.ne F_ARRAY_BUFFER_ordinal F_UNRESTRICTED_DOUBLE_ordinal (by decide))), by rw [hk] <;> decide, by rw [hk] <;> decide⟩
  · exact ⟨aSHARED_ARRAY_BUFFER, by rw [hk] <;> rfl, E_SHARED_ARRAY_BUFFER, fun q => absurd q (by rw [hk] <;> decide), fun _ q => absurd (by rw [hk] <;> decide) q, fun _ => (own_fp0 (Fld.ne F_SHARED_ARRAY_BUFFER_ordinal F_FLOAT_ordinal (by decide)) (Fld.ne F_SHARED_ARRAY_BUFFER_ordinal F_UNRESTRICTED_FLOAT_ordinal (by decide)) (Fld.ne F_SHARED_ARRAY_BUFFER_ordinal F_DOUBLE_ordinal (by decide)) (Fld.ne F_SHARED_ARRAY_BUFFER_ordinal F_UNRESTRICTED_DOUBLE_ordinal (by decide))), by rw [hk] <;> decide, by rw [hk] <;> decide⟩
  · exact ⟨aDATA_VIEW, by rw [hk] <;> rfl, E_DATA_VIEW, fun q => absurd q (by rw [hk] <;> decide), fun _ q => absurd (by rw [hk] <;> decide) q, fun _ => (own_fp0 (Fld.ne F_DATA_VIEW_ordinal F_FLOAT_ordinal (by decide)) (Fld.ne F_DATA_VIEW_ordinal F_UNRESTRICTED_FLOAT_ordinal (by decide)) (Fld.ne F_DATA_VIEW_ordinal F_DOUBLE_ordinal (by decide)) (Fld.ne F_DATA_VIEW_ordinal F_UNRESTRICTED_DOUBLE_ordinal (by decide))), by rw [hk] <;> decide, by rw [hk] <;> decide⟩
  · exact ⟨aINT8_ARRAY, by rw [hk] <;> rfl, E_INT8_ARRAY, fun q => absurd q (by rw [hk] <;> decide), fun _ q => absurd (by rw [hk] <;> decide) q, fun _ => (own_fp0 (Fld.ne F_INT8_ARRAY_ordinal F_FLOAT_ordinal (by decide)) (Fld.ne F_INT8_ARRAY_ordinal F_UNRESTRICTED_FLOAT_ordinal (by decide)) (Fld.ne F_INT8_ARRAY_ordinal F_DOUBLE_ordinal (by decide)) (Fld.ne F_INT8_ARRAY_ordinal F_UNRESTRICTED_DOUBLE_ordinal (by decide))), by rw [hk] <;> decide, by rw [hk] <;> decide⟩
  · exact ⟨aINT16_ARRAY, by rw [hk] <;> rfl, E_INT16_ARRAY, fun q => absurd q (by rw [hk] <;> decide), fun _ q => absurd (by rw [hk] <;> decide) q, fun _ => (own_fp0 (Fld.ne F_INT16_ARRAY_ordinal F_FLOAT_ordinal (by decide)) (Fld.ne F_INT16_ARRAY_ordinal F_UNRESTRICTED_FLOAT_ordinal (by decide)) (Fld.ne F_INT16_ARRAY_ordinal F_DOUBLE_ordinal (by decide)) (Fld.ne F_INT16_ARRAY_ordinal F_UNRESTRICTED_DOUBLE_ordinal (by decide))), by rw [hk] <;> decide, by rw [hk] <;> decide⟩
  · exact ⟨aINT32_ARRAY, by rw [hk] <;> rfl, E_INT32_ARRAY, fun q => absurd q (by rw [hk] <;> decide), fun _ q => absurd (by rw [hk] <;> decide) q, fun _ => (own_fp0 (Fld.ne F_INT32_ARRAY_ordinal F_FLOAT_ordinal (by decide)) (Fld.ne F_INT32_ARRAY_ordinal F_UNRESTRICTED_FLOAT_ordinal (by decide)) (Fld.ne F_INT32_ARRAY_ordinal F_DOUBLE_ordinal (by decide)) (Fld.ne F_INT32_ARRAY_ordinal F_UNRESTRICTED_DOUBLE_ordinal (by decide))), by rw [hk] <;> decide, by rw [hk] <;> decide⟩
  · exact ⟨aUINT8_ARRAY, by rw [hk] <;> rfl, E_UINT8_ARRAY, fun q => absurd q (by rw [hk] <;> decide), fun _ q => absurd (by rw [hk] <;> decide) q, fun _ => (own_fp0 (Fld.ne F_UINT8_ARRAY_ordinal F_FLOAT_ordinal (by decide)) (Fld.ne F_UINT8_ARRAY_ordinal F_UNRESTRICTED_FLOAT_ordinal (by decide)) (Fld.ne F_UINT8_ARRAY_ordinal F_DOUBLE_ordinal (by decide)) (Fld.ne F_UINT8_ARRAY_ordinal F_UNRESTRICTED_DOUBLE_ordinal (by decide))), by rw [hk] <;> decide, by rw [hk] <;> decide⟩
  · exact ⟨aUINT16_ARRAY, by rw [hk] <;> rfl, E_UINT16_ARRAY, fun q => absurd q (by rw [hk] <;> decide), fun _ q => absurd (by rw [hk] <;> decide) q, fun _ => (own_fp0 (Fld.ne F_UINT16_ARRAY_ordinal F_FLOAT_ordinal (by decide)) (Fld.ne F_UINT16_ARRAY_ordinal F_UNRESTRICTED_FLOAT_ordinal (by decide)) (Fld.ne F_UINT16_ARRAY_ordinal F_DOUBLE_ordinal (by decide)) (Fld.ne F_UINT16_ARRAY_ordinal F_UNRESTRICTED_DOUBLE_ordinal (by decide))), by rw [hk] <;> decide, by rw [hk] <;> decide⟩
  · exact ⟨aUINT32_ARRAY, by rw [hk] <;> rfl, E_UINT32_ARRAY, fun q => absurd q (by rw [hk] <;> decide), fun _ q => absurd (by rw [hk] <;> decide) q, fun _ => (own_fp0 (Fld.ne F_UINT32_ARRAY_ordinal F_FLOAT_ordinal (by decide)) (Fld.ne F_UINT32_ARRAY_ordinal F_UNRESTRICTED_FLOAT_ordinal (by decide)) (Fld.ne F_UINT32_ARRAY_ordinal F_DOUBLE_ordinal (by decide)) (Fld.ne F_UINT32_ARRAY_ordinal F_UNRESTRICTED_DOUBLE_ordinal (by decide))), by rw [hk] <;> decide, by rw [hk] <;> decide⟩
  · exact ⟨aUINT8_CLAMPED_ARRAY, by rw [hk] <;> rfl, E_UINT8_CLAMPED_ARRAY, fun q => absurd q (by rw [hk] <;> decide), fun _ q => absurd (by rw [hk] <;> decide) q, fun _ => (own_fp0 (Fld.ne F_UINT8_CLAMPED_ARRAY_ordinal F_FLOAT_ordinal (by decide)) (Fld.ne F_UINT8_CLAMPED_ARRAY_ordinal F_UNRESTRICTED_FLOAT_ordinal (by decide)) (Fld.ne F_UINT8_CLAMPED_ARRAY_ordinal F_DOUBLE_ordinal (by decide)) (Fld.ne F_UINT8_CLAMPED_ARRAY_ordinal F_UNRESTRICTED_DOUBLE_ordinal (by decide))), by rw [hk] <;> decide, by rw [hk] <;> decide⟩
  · exact ⟨aBIG_INT64_ARRAY, by rw [hk] <;> rfl, E_BIG_INT64_ARRAY, fun q => absurd q (by rw [hk] <;> decide), fun _ q => absurd (by rw [hk] <;> decide) q, fun _ => (own_fp0 (Fld.ne F_BIG_INT64_ARRAY_ordinal F_FLOAT_ordinal (by decide)) (Fld.ne F_BIG_INT64_ARRAY_ordinal F_UNRESTRICTED_FLOAT_ordinal (by decide)) (Fld.ne F_BIG_INT64_ARRAY_ordinal F_DOUBLE_ordinal (by decide)) (Fld.ne F_BIG_INT64_ARRAY_ordinal F_UNRESTRICTED_DOUBLE_ordinal (by decide))), by rw [hk] <;> decide, by rw [hk] <;> decide⟩
  · exact ⟨aBIG_UINT64_ARRAY, by rw [hk] <;> rfl, E_BIG_UINT64_ARRAY, fun q => absurd q (by rw [hk] <;> decide), fun _ q => absurd (by rw [hk] <;> decide) q, fun _ => (own_fp0 (Fld.ne F_BIG_UINT64_ARRAY_ordinal F_FLOAT_ordinal (by decide)) (Fld.ne F_BIG_UINT64_ARRAY_ordinal F_UNRESTRICTED_FLOAT_ordinal (by decide)) (Fld.ne F_BIG_UINT64_ARRAY_ordinal F_DOUBLE_ordinal (by decide)) (Fld.ne F_BIG_UINT64_ARRAY_ordinal F_UNRESTRICTED_DOUBLE_ordinal (by decide))), by rw [hk] <;> decide, by rw [hk] <;> decide⟩
  · exact ⟨aFLOAT16_ARRAY, by rw [hk] <;> rfl, E_FLOAT16_ARRAY, fun q => absurd q (by rw [hk] <;> decide), fun _ q => absurd (by rw [hk] <;> decide) q, fun _ => (own_fp0 (Fld.ne F_FLOAT16_ARRAY_ordinal F_FLOAT_ordinal (by decide)) (Fld.ne F_FLOAT16_ARRAY_ordinal F_UNRESTRICTED_FLOAT_ordinal (by decide)) (Fld.ne F_FLOAT16_ARRAY_ordinal F_DOUBLE_ordinal (by decide)) (Fld.ne F_FLOAT16_ARRAY_ordinal F_UNRESTRICTED_DOUBLE_ordinal (by decide))), by rw [hk] <;> decide, by rw [hk] <;> decide⟩
  · exact ⟨aFLOAT32_ARRAY, by rw [hk] <;> rfl, E_FLOAT32_ARRAY, fun q => absurd q (by rw [hk] <;> decide), fun _ q => absurd (by rw [hk] <;> decide) q, fun _ => (own_fp0 (Fld.ne F_FLOAT32_ARRAY_ordinal F_FLOAT_ordinal (by decide)) (Fld.ne F_FLOAT32_ARRAY_ordinal F_UNRESTRICTED_FLOAT_ordinal (by decide)) (Fld.ne F_FLOAT32_ARRAY_ordinal F_DOUBLE_ordinal (by decide)) (Fld.ne F_FLOAT32_ARRAY_ordinal F_UNRESTRICTED_DOUBLE_ordinal (by decide))), by rw [hk] <;> decide, by rw [hk] <;> decide⟩
  · exact ⟨aFLOAT64_ARRAY, by rw [hk] <;> rfl, E_FLOAT64_ARRAY, fun q => absurd q (by rw [hk] <;> decide), fun _ q => absurd (by rw [hk] <;> decide) q, fun _ => (own_fp0 (Fld.ne F_FLOAT64_ARRAY_ordinal F_FLOAT_ordinal (by decide)) (Fld.ne F_FLOAT64_ARRAY_ordinal F_UNRESTRICTED_FLOAT_ordinal (by decide)) (Fld.ne F_FLOAT64_ARRAY_ordinal F_DOUBLE_ordinal (by decide)) (Fld.ne F_FLOAT64_ARRAY_ordinal F_UNRESTRICTED_DOUBLE_ordinal (by decide))), by rw [hk] <;> decide, by rw [hk] <;> decide⟩

theorem pd_0 : parseMethodDescriptor "()Z" = some ⟨[], some .boolean⟩ := by decide +kernel
theorem pn_com_example_idlsmith_idlsmith_idl_BuiltinIsFloatingPointPinLaw : plainName "com/example/idlsmith/idlsmith/idl/BuiltinIsFloatingPointPinLaw" = true := by first | (simp [plainName, overriddenIn]; done) | decide +kernel
theorem ef_0 (m : MethodId) (x0 : Int32) : entryFrame m #[(.int x0)] maxLocals = mkF m 0 #[.val (.int x0), .unset, .unset, .unset] [] := by first | (simp [entryFrame, mkF, argsToLocals, Value.category, maxLocals]; done) | rfl
def Q0 (n0 : Nat) (v : Option Value) (h : Heap) (L : List Loc) : Prop := v = some (.int 1) ∧ Fr n0 L
set_option maxRecDepth 65536 in
set_option maxHeartbeats 40000000 in
theorem rm0 (l : Launch) (Z : State) (a0 : Array Value) (hw : ∀ d ∈ tables_1, d.before a0 Z = true) (ws : List Jvm.Cond) (p1 : Int32) (aBOOLEAN : Addr) (aBYTE : Addr) (aOCTET : Addr) (aSHORT : Addr) (aUNSIGNED_SHORT : Addr) (aLONG : Addr) (aUNSIGNED_LONG : Addr) (aLONG_LONG : Addr) (aUNSIGNED_LONG_LONG : Addr) (aFLOAT : Addr) (aUNRESTRICTED_FLOAT : Addr) (aDOUBLE : Addr) (aUNRESTRICTED_DOUBLE : Addr) (aBIGINT : Addr) (aDOMSTRING : Addr) (aBYTE_STRING : Addr) (aUSV_STRING : Addr) (aOBJECT : Addr) (aSYMBOL : Addr) (aANY : Addr) (aUNDEFINED : Addr) (aDATE : Addr) (aARRAY_BUFFER : Addr) (aSHARED_ARRAY_BUFFER : Addr) (aDATA_VIEW : Addr) (aINT8_ARRAY : Addr) (aINT16_ARRAY : Addr) (aINT32_ARRAY : Addr) (aUINT8_ARRAY : Addr) (aUINT16_ARRAY : Addr) (aUINT32_ARRAY : Addr) (aUINT8_CLAMPED_ARRAY : Addr) (aBIG_INT64_ARRAY : Addr) (aBIG_UINT64_ARRAY : Addr) (aFLOAT16_ARRAY : Addr) (aFLOAT32_ARRAY : Addr) (aFLOAT64_ARRAY : Addr) (h0 : Heap) (n0 : Nat) (O0 : Old Z n0 h0) (S_BOOLEAN : Sta Z Z.heap "com/example/idlsmith/idlsmith/idl/Builtin" "BOOLEAN" "Lcom/example/idlsmith/idlsmith/idl/Builtin;" (.ref aBOOLEAN)) (E_BOOLEAN : Exa Z Z.heap aBOOLEAN "com/example/idlsmith/idlsmith/idl/Builtin") (F_BOOLEAN_ordinal : Fld Z Z.heap aBOOLEAN "java/lang/Enum" "ordinal" "I" (.int (0 : Int32))) (S_BYTE : Sta Z Z.heap "com/example/idlsmith/idlsmith/idl/Builtin" "BYTE" "Lcom/example/idlsmith/idlsmith/idl/Builtin;" (.ref aBYTE)) (E_BYTE : Exa Z Z.heap aBYTE "com/example/idlsmith/idlsmith/idl/Builtin") (F_BYTE_ordinal : Fld Z Z.heap aBYTE "java/lang/Enum" "ordinal" "I" (.int (1 : Int32))) (S_OCTET : Sta Z Z.heap "com/example/idlsmith/idlsmith/idl/Builtin" "OCTET" "Lcom/example/idlsmith/idlsmith/idl/Builtin;" (.ref aOCTET)) (E_OCTET : Exa Z Z.heap aOCTET "com/example/idlsmith/idlsmith/idl/Builtin") (F_OCTET_ordinal : Fld Z Z.heap aOCTET "java/lang/Enum" "ordinal" "I" (.int (2 : Int32))) (S_SHORT : Sta Z Z.heap "com/example/idlsmith/idlsmith/idl/Builtin" "SHORT" "Lcom/example/idlsmith/idlsmith/idl/Builtin;" (.ref aSHORT)) (E_SHORT : Exa Z Z.heap aSHORT "com/example/idlsmith/idlsmith/idl/Builtin") (F_SHORT_ordinal : Fld Z Z.heap aSHORT "java/lang/Enum" "ordinal" "I" (.int (3 : Int32))) (S_UNSIGNED_SHORT : Sta Z Z.heap "com/example/idlsmith/idlsmith/idl/Builtin" "UNSIGNED_SHORT" "Lcom/example/idlsmith/idlsmith/idl/Builtin;" (.ref aUNSIGNED_SHORT)) (E_UNSIGNED_SHORT : Exa Z Z.heap aUNSIGNED_SHORT "com/example/idlsmith/idlsmith/idl/Builtin") (F_UNSIGNED_SHORT_ordinal : Fld Z Z.heap aUNSIGNED_SHORT "java/lang/Enum" "ordinal" "I" (.int (4 : Int32))) (S_LONG : Sta Z Z.heap "com/example/idlsmith/idlsmith/idl/Builtin" "LONG" "Lcom/example/idlsmith/idlsmith/idl/Builtin;" (.ref aLONG)) (E_LONG : Exa Z Z.heap aLONG "com/example/idlsmith/idlsmith/idl/Builtin") (F_LONG_ordinal : Fld Z Z.heap aLONG "java/lang/Enum" "ordinal" "I" (.int (5 : Int32))) (S_UNSIGNED_LONG : Sta Z Z.heap "com/example/idlsmith/idlsmith/idl/Builtin" "UNSIGNED_LONG" "Lcom/example/idlsmith/idlsmith/idl/Builtin;" (.ref aUNSIGNED_LONG)) (E_UNSIGNED_LONG : Exa Z Z.heap aUNSIGNED_LONG "com/example/idlsmith/idlsmith/idl/Builtin") (F_UNSIGNED_LONG_ordinal : Fld Z Z.heap aUNSIGNED_LONG "java/lang/Enum" "ordinal" "I" (.int (6 : Int32))) (S_LONG_LONG : Sta Z Z.heap "com/example/idlsmith/idlsmith/idl/Builtin" "LONG_LONG" "Lcom/example/idlsmith/idlsmith/idl/Builtin;" (.ref aLONG_LONG)) (E_LONG_LONG : Exa Z Z.heap aLONG_LONG "com/example/idlsmith/idlsmith/idl/Builtin") (F_LONG_LONG_ordinal : Fld Z Z.heap aLONG_LONG "java/lang/Enum" "ordinal" "I" (.int (7 : Int32))) (S_UNSIGNED_LONG_LONG : Sta Z Z.heap "com/example/idlsmith/idlsmith/idl/Builtin" "UNSIGNED_LONG_LONG" "Lcom/example/idlsmith/idlsmith/idl/Builtin;" (.ref aUNSIGNED_LONG_LONG)) (E_UNSIGNED_LONG_LONG : Exa Z Z.heap aUNSIGNED_LONG_LONG "com/example/idlsmith/idlsmith/idl/Builtin") (F_UNSIGNED_LONG_LONG_ordinal : Fld Z Z.heap aUNSIGNED_LONG_LONG "java/lang/Enum" "ordinal" "I" (.int (8 : Int32))) (S_FLOAT : Sta Z Z.heap "com/example/idlsmith/idlsmith/idl/Builtin" "FLOAT" "Lcom/example/idlsmith/idlsmith/idl/Builtin;" (.ref aFLOAT)) (E_FLOAT : Exa Z Z.heap aFLOAT "com/example/idlsmith/idlsmith/idl/Builtin") (F_FLOAT_ordinal : Fld Z Z.heap aFLOAT "java/lang/Enum" "ordinal" "I" (.int (9 : Int32))) (S_UNRESTRICTED_FLOAT : Sta Z Z.heap "com/example/idlsmith/idlsmith/idl/Builtin" "UNRESTRICTED_FLOAT" "Lcom/example/idlsmith/idlsmith/idl/Builtin;" (.ref aUNRESTRICTED_FLOAT)) (E_UNRESTRICTED_FLOAT : Exa Z Z.heap aUNRESTRICTED_FLOAT "com/example/idlsmith/idlsmith/idl/Builtin") (F_UNRESTRICTED_FLOAT_ordinal : Fld Z Z.heap aUNRESTRICTED_FLOAT "java/lang/Enum" "ordinal" "I" (.int (10 : Int32))) (S_DOUBLE : Sta Z Z.heap "com/example/idlsmith/idlsmith/idl/Builtin" "DOUBLE" "Lcom/example/idlsmith/idlsmith/idl/Builtin;" (.ref aDOUBLE)) (E_DOUBLE : Exa Z Z.heap aDOUBLE "com/example/idlsmith/idlsmith/idl/Builtin") (F_DOUBLE_ordinal : Fld Z Z.heap aDOUBLE "java/lang/Enum" "ordinal" "I" (.int (11 : Int32))) (S_UNRESTRICTED_DOUBLE : Sta Z Z.heap "com/example/idlsmith/idlsmith/idl/Builtin" "UNRESTRICTED_DOUBLE" "Lcom/example/idlsmith/idlsmith/idl/Builtin;" (.ref aUNRESTRICTED_DOUBLE)) (E_UNRESTRICTED_DOUBLE : Exa Z Z.heap aUNRESTRICTED_DOUBLE "com/example/idlsmith/idlsmith/idl/Builtin") (F_UNRESTRICTED_DOUBLE_ordinal : Fld Z Z.heap aUNRESTRICTED_DOUBLE "java/lang/Enum" "ordinal" "I" (.int (12 : Int32))) (S_BIGINT : Sta Z Z.heap "com/example/idlsmith/idlsmith/idl/Builtin" "BIGINT" "Lcom/example/idlsmith/idlsmith/idl/Builtin;" (.ref aBIGINT)) (E_BIGINT : Exa Z Z.heap aBIGINT "com/example/idlsmith/idlsmith/idl/Builtin") (F_BIGINT_ordinal : Fld Z Z.heap aBIGINT "java/lang/Enum" "ordinal" "I" (.int (13 : Int32))) (S_DOMSTRING : Sta Z Z.heap "com/example/idlsmith/idlsmith/idl/Builtin" "DOMSTRING" "Lcom/example/idlsmith/idlsmith/idl/Builtin;" (.ref aDOMSTRING)) (E_DOMSTRING : Exa Z Z.heap aDOMSTRING "com/example/idlsmith/idlsmith/idl/Builtin") (F_DOMSTRING_ordinal : Fld Z Z.heap aDOMSTRING "java/lang/Enum" "ordinal" "I" (.int (14 : Int32))) (S_BYTE_STRING : Sta Z Z.heap "com/example/idlsmith/idlsmith/idl/Builtin" "BYTE_STRING" "Lcom/example/idlsmith/idlsmith/idl/Builtin;" (.ref aBYTE_STRING)) (E_BYTE_STRING : Exa Z Z.heap aBYTE_STRING "com/example/idlsmith/idlsmith/idl/Builtin") (F_BYTE_STRING_ordinal : Fld Z Z.heap aBYTE_STRING "java/lang/Enum" "ordinal" "I" (.int (15 : Int32))) (S_USV_STRING : Sta Z Z.heap "com/example/idlsmith/idlsmith/idl/Builtin" "USV_STRING" "Lcom/example/idlsmith/idlsmith/idl/Builtin;" (.ref aUSV_STRING)) (E_USV_STRING : Exa Z Z.heap aUSV_STRING "com/example/idlsmith/idlsmith/idl/Builtin") (F_USV_STRING_ordinal : Fld Z Z.heap aUSV_STRING "java/lang/Enum" "ordinal" "I" (.int (16 : Int32))) (S_OBJECT : Sta Z Z.heap "com/example/idlsmith/idlsmith/idl/Builtin" "OBJECT" "Lcom/example/idlsmith/idlsmith/idl/Builtin;" (.ref aOBJECT)) (E_OBJECT : Exa Z Z.heap aOBJECT "com/example/idlsmith/idlsmith/idl/Builtin") (F_OBJECT_ordinal : Fld Z Z.heap aOBJECT "java/lang/Enum" "ordinal" "I" (.int (17 : Int32))) (S_SYMBOL : Sta Z Z.heap "com/example/idlsmith/idlsmith/idl/Builtin" "SYMBOL" "Lcom/example/idlsmith/idlsmith/idl/Builtin;" (.ref aSYMBOL)) (E_SYMBOL : Exa Z Z.heap aSYMBOL "com/example/idlsmith/idlsmith/idl/Builtin") (F_SYMBOL_ordinal : Fld Z Z.heap aSYMBOL "java/lang/Enum" "ordinal" "I" (.int (18 : Int32))) (S_ANY : Sta Z Z.heap "com/example/idlsmith/idlsmith/idl/Builtin" "ANY" "Lcom/example/idlsmith/idlsmith/idl/Builtin;" (.ref aANY)) (E_ANY : Exa Z Z.heap aANY "com/example/idlsmith/idlsmith/idl/Builtin") (F_ANY_ordinal : Fld Z Z.heap aANY "java/lang/Enum" "ordinal" "I" (.int (19 : Int32))) (S_UNDEFINED : Sta Z Z.heap "com/example/idlsmith/idlsmith/idl/Builtin" "UNDEFINED" "Lcom/example/idlsmith/idlsmith/idl/Builtin;" (.ref aUNDEFINED)) (E_UNDEFINED : Exa Z Z.heap aUNDEFINED "com/example/idlsmith/idlsmith/idl/Builtin") (F_UNDEFINED_ordinal : Fld Z Z.heap aUNDEFINED "java/lang/Enum" "ordinal" "I" (.int (20 : Int32))) (S_DATE : Sta Z Z.heap "com/example/idlsmith/idlsmith/idl/Builtin" "DATE" "Lcom/example/idlsmith/idlsmith/idl/Builtin;" (.ref aDATE)) (E_DATE : Exa Z Z.heap aDATE "com/example/idlsmith/idlsmith/idl/Builtin") (F_DATE_ordinal : Fld Z Z.heap aDATE "java/lang/Enum" "ordinal" "I" (.int (21 : Int32))) (S_ARRAY_BUFFER : Sta Z Z.heap "com/example/idlsmith/idlsmith/idl/Builtin" "ARRAY_BUFFER" "Lcom/example/idlsmith/idlsmith/idl/Builtin;" (.ref aARRAY_BUFFER)) (E_ARRAY_BUFFER : Exa Z Z.heap aARRAY_BUFFER "com/example/idlsmith/idlsmith/idl/Builtin") (F_ARRAY_BUFFER_ordinal : Fld Z Z.heap aARRAY_BUFFER "java/lang/Enum" "ordinal" "I" (.int (22 : Int32))) (S_SHARED_ARRAY_BUFFER : Sta Z Z.heap "com/example/idlsmith/idlsmith/idl/Builtin" "SHARED_ARRAY_BUFFER" "Lcom/example/idlsmith/idlsmith/idl/Builtin;" (.ref aSHARED_ARRAY_BUFFER)) (E_SHARED_ARRAY_BUFFER : Exa Z Z.heap aSHARED_ARRAY_BUFFER "com/example/idlsmith/idlsmith/idl/Builtin") (F_SHARED_ARRAY_BUFFER_ordinal : Fld Z Z.heap aSHARED_ARRAY_BUFFER "java/lang/Enum" "ordinal" "I" (.int (23 : Int32))) (S_DATA_VIEW : Sta Z Z.heap "com/example/idlsmith/idlsmith/idl/Builtin" "DATA_VIEW" "Lcom/example/idlsmith/idlsmith/idl/Builtin;" (.ref aDATA_VIEW)) (E_DATA_VIEW : Exa Z Z.heap aDATA_VIEW "com/example/idlsmith/idlsmith/idl/Builtin") (F_DATA_VIEW_ordinal : Fld Z Z.heap aDATA_VIEW "java/lang/Enum" "ordinal" "I" (.int (24 : Int32))) (S_INT8_ARRAY : Sta Z Z.heap "com/example/idlsmith/idlsmith/idl/Builtin" "INT8_ARRAY" "Lcom/example/idlsmith/idlsmith/idl/Builtin;" (.ref aINT8_ARRAY)) (E_INT8_ARRAY : Exa Z Z.heap aINT8_ARRAY "com/example/idlsmith/idlsmith/idl/Builtin") (F_INT8_ARRAY_ordinal : Fld Z Z.heap aINT8_ARRAY "java/lang/Enum" "ordinal" "I" (.int (25 : Int32))) (S_INT16_ARRAY : Sta Z Z.heap "com/example/idlsmith/idlsmith/idl/Builtin" "INT16_ARRAY" "Lcom/example/idlsmith/idlsmith/idl/Builtin;" (.ref aINT16_ARRAY)) (E_INT16_ARRAY : Exa Z Z.heap aINT16_ARRAY "com/example/idlsmith/idlsmith/idl/Builtin") (F_INT16_ARRAY_ordinal : Fld Z Z.heap aINT16_ARRAY "java/lang/Enum" "ordinal" "I" (.int (26 : Int32))) (S_INT32_ARRAY : Sta Z Z.heap "com/example/idlsmith/idlsmith/idl/Builtin" "INT32_ARRAY" "Lcom/example/idlsmith/idlsmith/idl/Builtin;" (.ref aINT32_ARRAY)) (E_INT32_ARRAY : Exa Z Z.heap aINT32_ARRAY "com/example/idlsmith/idlsmith/idl/Builtin") (F_INT32_ARRAY_ordinal : Fld Z Z.heap aINT32_ARRAY "java/lang/Enum" "ordinal" "I" (.int (27 : Int32))) (S_UINT8_ARRAY : Sta Z Z.heap "com/example/idlsmith/idlsmith/idl/Builtin" "UINT8_ARRAY" "Lcom/example/idlsmith/idlsmith/idl/Builtin;" (.ref aUINT8_ARRAY)) (E_UINT8_ARRAY : Exa Z Z.heap aUINT8_ARRAY "com/example/idlsmith/idlsmith/idl/Builtin") (F_UINT8_ARRAY_ordinal : Fld Z Z.heap aUINT8_ARRAY "java/lang/Enum" "ordinal" "I" (.int (28 : Int32))) (S_UINT16_ARRAY : Sta Z Z.heap "com/example/idlsmith/idlsmith/idl/Builtin" "UINT16_ARRAY" "Lcom/example/idlsmith/idlsmith/idl/Builtin;" (.ref aUINT16_ARRAY)) (E_UINT16_ARRAY : Exa Z Z.heap aUINT16_ARRAY "com/example/idlsmith/idlsmith/idl/Builtin") (F_UINT16_ARRAY_ordinal : Fld Z Z.heap aUINT16_ARRAY "java/lang/Enum" "ordinal" "I" (.int (29 : Int32))) (S_UINT32_ARRAY : Sta Z Z.heap "com/example/idlsmith/idlsmith/idl/Builtin" "UINT32_ARRAY" "Lcom/example/idlsmith/idlsmith/idl/Builtin;" (.ref aUINT32_ARRAY)) (E_UINT32_ARRAY : Exa Z Z.heap aUINT32_ARRAY "com/example/idlsmith/idlsmith/idl/Builtin") (F_UINT32_ARRAY_ordinal : Fld Z Z.heap aUINT32_ARRAY "java/lang/Enum" "ordinal" "I" (.int (30 : Int32))) (S_UINT8_CLAMPED_ARRAY : Sta Z Z.heap "com/example/idlsmith/idlsmith/idl/Builtin" "UINT8_CLAMPED_ARRAY" "Lcom/example/idlsmith/idlsmith/idl/Builtin;" (.ref aUINT8_CLAMPED_ARRAY)) (E_UINT8_CLAMPED_ARRAY : Exa Z Z.heap aUINT8_CLAMPED_ARRAY "com/example/idlsmith/idlsmith/idl/Builtin") (F_UINT8_CLAMPED_ARRAY_ordinal : Fld Z Z.heap aUINT8_CLAMPED_ARRAY "java/lang/Enum" "ordinal" "I" (.int (31 : Int32))) (S_BIG_INT64_ARRAY : Sta Z Z.heap "com/example/idlsmith/idlsmith/idl/Builtin" "BIG_INT64_ARRAY" "Lcom/example/idlsmith/idlsmith/idl/Builtin;" (.ref aBIG_INT64_ARRAY)) (E_BIG_INT64_ARRAY : Exa Z Z.heap aBIG_INT64_ARRAY "com/example/idlsmith/idlsmith/idl/Builtin") (F_BIG_INT64_ARRAY_ordinal : Fld Z Z.heap aBIG_INT64_ARRAY "java/lang/Enum" "ordinal" "I" (.int (32 : Int32))) (S_BIG_UINT64_ARRAY : Sta Z Z.heap "com/example/idlsmith/idlsmith/idl/Builtin" "BIG_UINT64_ARRAY" "Lcom/example/idlsmith/idlsmith/idl/Builtin;" (.ref aBIG_UINT64_ARRAY)) (E_BIG_UINT64_ARRAY : Exa Z Z.heap aBIG_UINT64_ARRAY "com/example/idlsmith/idlsmith/idl/Builtin") (F_BIG_UINT64_ARRAY_ordinal : Fld Z Z.heap aBIG_UINT64_ARRAY "java/lang/Enum" "ordinal" "I" (.int (33 : Int32))) (S_FLOAT16_ARRAY : Sta Z Z.heap "com/example/idlsmith/idlsmith/idl/Builtin" "FLOAT16_ARRAY" "Lcom/example/idlsmith/idlsmith/idl/Builtin;" (.ref aFLOAT16_ARRAY)) (E_FLOAT16_ARRAY : Exa Z Z.heap aFLOAT16_ARRAY "com/example/idlsmith/idlsmith/idl/Builtin") (F_FLOAT16_ARRAY_ordinal : Fld Z Z.heap aFLOAT16_ARRAY "java/lang/Enum" "ordinal" "I" (.int (34 : Int32))) (S_FLOAT32_ARRAY : Sta Z Z.heap "com/example/idlsmith/idlsmith/idl/Builtin" "FLOAT32_ARRAY" "Lcom/example/idlsmith/idlsmith/idl/Builtin;" (.ref aFLOAT32_ARRAY)) (E_FLOAT32_ARRAY : Exa Z Z.heap aFLOAT32_ARRAY "com/example/idlsmith/idlsmith/idl/Builtin") (F_FLOAT32_ARRAY_ordinal : Fld Z Z.heap aFLOAT32_ARRAY "java/lang/Enum" "ordinal" "I" (.int (35 : Int32))) (S_FLOAT64_ARRAY : Sta Z Z.heap "com/example/idlsmith/idlsmith/idl/Builtin" "FLOAT64_ARRAY" "Lcom/example/idlsmith/idlsmith/idl/Builtin;" (.ref aFLOAT64_ARRAY)) (E_FLOAT64_ARRAY : Exa Z Z.heap aFLOAT64_ARRAY "com/example/idlsmith/idlsmith/idl/Builtin") (F_FLOAT64_ARRAY_ordinal : Fld Z Z.heap aFLOAT64_ARRAY "java/lang/Enum" "ordinal" "I" (.int (36 : Int32))) :
    MetFree l x (head1 (Jvm.Cond.code x code maxLocals ret :: ws) room_1) (fun aQ U => aQ = #[(.int p1)] ∧ Z.Warmed39 U.vm ∧ U.heap = h0) (fun _ _ _ _ _ => True) (fun _ U o U' => ∃ v L, o = .returned v ∧ Q0 n0 v U'.heap L ∧ FrameEnd U o U' L 1 37) := by
  refine MetFree.of_bodySF (plainFor_of_name pn_com_example_idlsmith_idlsmith_idl_BuiltinIsFloatingPointPinLaw) hisR ?_
  intro p e s m args below meth kode s₁ Bd hml0 hP hK
  obtain ⟨rfl, hZ, hh⟩ := hP
  have hx := Bd.exec
  have hby := Bd.bytes
  have hml : kode.maxLocals = 4 := hml0
  have hown : s.vm.findClass "com/example/idlsmith/idlsmith/idl/BuiltinIsFloatingPointPinLaw" = some m.cls := findClass_of_methodNamed Bd.named
  have hnm := (name_of_methodNamed Bd.named Bd.method).1
  have X0 : Stand p l e room_1 s m #[(.int p1)] below meth kode s₁ [] 0 0 := Stand.of_body Bd
  have e0 : s₁.heap = h0 := by rw [← hh, Bd.state]; rfl
  have N0 := Fr.nil n0
  have pre0 : ∀ t, Steps p.tables e below (s₁.setTop (mkF m 0 #[.val (.int p1), .unset, .unset, .unset] [])) t → Steps p.tables e below (s₁.setTop (entryFrame m #[(.int p1)] maxLocals)) t := fun t k => castTop (ef_0 m p1) k
  have cn1 := fun (t : State) (kt : Steps p.tables e below (s₁.setTop (mkF m 2 #[.val (.int p1), .unset, .unset, .unset] [(.int (37 : Int32))])) t) => pre0 t (by
    refine XS.bipush X0.here hx rfl (hb hby at_0) ?_
    show Steps p.tables e below (s₁.setTop (mkF m 2 #[.val (.int p1), .unset, .unset, .unset] [(.int (37 : Int32))])) _
    exact kt)
  obtain ⟨T2, h2, k2, X2, e2, E2, A2, O_2, st2⟩ := newR X0 hx hZ hown (hw _ (List.mem_of_getElem? (i := 0) rfl)) (hw _ (List.mem_of_getElem? (i := 1) rfl)) e0 (g := (mkF m 2 #[.val (.int p1), .unset, .unset, .unset] [(.int (37 : Int32))])) rfl (hb hby at_2) rfl (by decide) (cap := 37) (by decide) (by decide) (by decide) (by decide)
  obtain ⟨b2, g2⟩ : ∃ z, z = h0.size := ⟨_, rfl⟩
  rw [← g2] at A2 st2
  have sz_b2 : h0.size ≤ b2 := Nat.le_trans (Keep.refl h0 []).1 (Nat.le_of_eq g2.symm)
  have g_b2 : n0 ≤ b2 := Nat.le_trans (O0.1 ▸ O0.2.1) sz_b2
  have O2 := O0.ext E2
  have K2 : Keep h0 h2 [] := (Keep.refl h0 []).ext E2
  have V2 : Arv Z h2 b2 k2 (.object "com/example/idlsmith/idlsmith/idl/Builtin") (37 : Int32) [.null, .null, .null, .null, .null, .null, .null, .null, .null, .null, .null, .null, .null, .null, .null, .null, .null, .null, .null, .null, .null, .null, .null, .null, .null, .null, .null, .null, .null, .null, .null, .null, .null, .null, .null, .null, .null] .null := (Arv.new A2 (by decide)).pad (pad_rep [] .null 37)
  have cn3 := fun (t : State) (kt : Steps p.tables e below (T2.setTop (mkF m 7 #[.val (.int p1), .unset, .unset, .unset] [(.int (0 : Int32)), (.ref b2), (.ref b2)])) t) => cn1 t (by
    refine st2 _ ?_
    show Steps p.tables e below (T2.setTop (mkF m 5 #[.val (.int p1), .unset, .unset, .unset] [(.ref b2)])) _
    refine XS.dup X2.here hx rfl (hb hby at_5) rfl rfl ?_
    show Steps p.tables e below (T2.setTop (mkF m 6 #[.val (.int p1), .unset, .unset, .unset] [(.ref b2), (.ref b2)])) _
    refine XS.iconst X2.here hx rfl (hb hby at_6) ?_
    show Steps p.tables e below (T2.setTop (mkF m 7 #[.val (.int p1), .unset, .unset, .unset] [(.int (0 : Int32)), (.ref b2), (.ref b2)])) _
    exact kt)
  obtain ⟨T4, X4, e4, st4⟩ := getS2 X2 hx hZ hown (host := "") (Or.inl (hw _ (List.mem_of_getElem? (i := 2) rfl))) Via.refl e2 (S_BOOLEAN.ext O2.2) (g := (mkF m 7 #[.val (.int p1), .unset, .unset, .unset] [(.int (0 : Int32)), (.ref b2), (.ref b2)])) rfl (hb hby at_7)
  have cn5 := fun (t : State) (kt : Steps p.tables e below (T4.setTop (mkF m 10 #[.val (.int p1), .unset, .unset, .unset] [(.ref aBOOLEAN), (.int (0 : Int32)), (.ref b2), (.ref b2)])) t) => cn3 t (by
    refine st4 _ ?_
    show Steps p.tables e below (T4.setTop (mkF m 10 #[.val (.int p1), .unset, .unset, .unset] [(.ref aBOOLEAN), (.int (0 : Int32)), (.ref b2), (.ref b2)])) _
    exact kt)
  have Vx6 := V2
  obtain ⟨cl6, Ar6, q6, S6, M6, H6, G6⟩ := Vx6
  have hin6 : ¬ ((0 : Int32) < 0 ∨ cl6.slots.size ≤ ((0 : Int32)).toNatClampNeg) := inb_of S6 ⟨by decide, by decide⟩
  obtain ⟨T7, h7, X7, e7, W7, st7⟩ := stR X4 hx hZ e4 Ar6 (j := (0 : Int32)) hin6 rfl (Sto.ofV Ar6 q6 O_2 (Ins.self (E_BOOLEAN.ext O2.2))) (g := (mkF m 10 #[.val (.int p1), .unset, .unset, .unset] [(.ref aBOOLEAN), (.int (0 : Int32)), (.ref b2), (.ref b2)])) rfl rfl (hb hby at_10)
  have V7 : Arv Z h7 b2 k2 (.object "com/example/idlsmith/idlsmith/idl/Builtin") (37 : Int32) [(.ref aBOOLEAN), .null, .null, .null, .null, .null, .null, .null, .null, .null, .null, .null, .null, .null, .null, .null, .null, .null, .null, .null, .null, .null, .null, .null, .null, .null, .null, .null, .null, .null, .null, .null, .null, .null, .null, .null, .null] .null := Arv.set Ar6 q6 S6 M6 H6 G6 rfl W7 0 rfl (Nat.le_of_ble_eq_true rfl)
  have N7 := Fr.snoc X7 N0 g_b2
  have O7 := O2.wr W7 g_b2
  have K7 : Keep h0 h7 [] := K2.wr W7 (Or.inr sz_b2)
  have cn8 := fun (t : State) (kt : Steps p.tables e below (T7.setTop (mkF m 13 #[.val (.int p1), .unset, .unset, .unset] [(.int (1 : Int32)), (.ref b2), (.ref b2)])) t) => cn5 t (by
    refine st7 _ ?_
    show Steps p.tables e below (T7.setTop (mkF m 11 #[.val (.int p1), .unset, .unset, .unset] [(.ref b2)])) _
    refine XS.dup X7.here hx rfl (hb hby at_11) rfl rfl ?_
    show Steps p.tables e below (T7.setTop (mkF m 12 #[.val (.int p1), .unset, .unset, .unset] [(.ref b2), (.ref b2)])) _
    refine XS.iconst X7.here hx rfl (hb hby at_12) ?_
    show Steps p.tables e below (T7.setTop (mkF m 13 #[.val (.int p1), .unset, .unset, .unset] [(.int (1 : Int32)), (.ref b2), (.ref b2)])) _
    exact kt)
  obtain ⟨T9, X9, e9, st9⟩ := getS2 X7 hx hZ hown (host := "") (Or.inl (hw _ (List.mem_of_getElem? (i := 6) rfl))) Via.refl e7 (S_BYTE.ext O7.2) (g := (mkF m 13 #[.val (.int p1), .unset, .unset, .unset] [(.int (1 : Int32)), (.ref b2), (.ref b2)])) rfl (hb hby at_13)
  have cn10 := fun (t : State) (kt : Steps p.tables e below (T9.setTop (mkF m 16 #[.val (.int p1), .unset, .unset, .unset] [(.ref aBYTE), (.int (1 : Int32)), (.ref b2), (.ref b2)])) t) => cn8 t (by
    refine st9 _ ?_
    show Steps p.tables e below (T9.setTop (mkF m 16 #[.val (.int p1), .unset, .unset, .unset] [(.ref aBYTE), (.int (1 : Int32)), (.ref b2), (.ref b2)])) _
    exact kt)
  have Vx11 := V7
  obtain ⟨cl11, Ar11, q11, S11, M11, H11, G11⟩ := Vx11
  have hin11 : ¬ ((1 : Int32) < 0 ∨ cl11.slots.size ≤ ((1 : Int32)).toNatClampNeg) := inb_of S11 ⟨by decide, by decide⟩
  obtain ⟨T12, h12, X12, e12, W12, st12⟩ := stR X9 hx hZ e9 Ar11 (j := (1 : Int32)) hin11 rfl (Sto.ofV Ar11 q11 O_2 (Ins.self (E_BYTE.ext O7.2))) (g := (mkF m 16 #[.val (.int p1), .unset, .unset, .unset] [(.ref aBYTE), (.int (1 : Int32)), (.ref b2), (.ref b2)])) rfl rfl (hb hby at_16)
  have V12 : Arv Z h12 b2 k2 (.object "com/example/idlsmith/idlsmith/idl/Builtin") (37 : Int32) [(.ref aBOOLEAN), (.ref aBYTE), .null, .null, .null, .null, .null, .null, .null, .null, .null, .null, .null, .null, .null, .null, .null, .null, .null, .null, .null, .null, .null, .null, .null, .null, .null, .null, .null, .null, .null, .null, .null, .null, .null, .null, .null] .null := Arv.set Ar11 q11 S11 M11 H11 G11 rfl W12 1 rfl (Nat.le_of_ble_eq_true rfl)
  have N12 := Fr.snoc X12 N7 g_b2
  have O12 := O7.wr W12 g_b2
  have K12 : Keep h0 h12 [] := K7.wr W12 (Or.inr sz_b2)
  have cn13 := fun (t : State) (kt : Steps p.tables e below (T12.setTop (mkF m 19 #[.val (.int p1), .unset, .unset, .unset] [(.int (2 : Int32)), (.ref b2), (.ref b2)])) t) => cn10 t (by
    refine st12 _ ?_
    show Steps p.tables e below (T12.setTop (mkF m 17 #[.val (.int p1), .unset, .unset, .unset] [(.ref b2)])) _
    refine XS.dup X12.here hx rfl (hb hby at_17) rfl rfl ?_
    show Steps p.tables e below (T12.setTop (mkF m 18 #[.val (.int p1), .unset, .unset, .unset] [(.ref b2), (.ref b2)])) _
    refine XS.iconst X12.here hx rfl (hb hby at_18) ?_
    show Steps p.tables e below (T12.setTop (mkF m 19 #[.val (.int p1), .unset, .unset, .unset] [(.int (2 : Int32)), (.ref b2), (.ref b2)])) _
    exact kt)
  obtain ⟨T14, X14, e14, st14⟩ := getS2 X12 hx hZ hown (host := "") (Or.inl (hw _ (List.mem_of_getElem? (i := 8) rfl))) Via.refl e12 (S_OCTET.ext O12.2) (g := (mkF m 19 #[.val (.int p1), .unset, .unset, .unset] [(.int (2 : Int32)), (.ref b2), (.ref b2)])) rfl (hb hby at_19)
  have cn15 := fun (t : State) (kt : Steps p.tables e below (T14.setTop (mkF m 22 #[.val (.int p1), .unset, .unset, .unset] [(.ref aOCTET), (.int (2 : Int32)), (.ref b2), (.ref b2)])) t) => cn13 t (by
    refine st14 _ ?_
    show Steps p.tables e below (T14.setTop (mkF m 22 #[.val (.int p1), .unset, .unset, .unset] [(.ref aOCTET), (.int (2 : Int32)), (.ref b2), (.ref b2)])) _
    exact kt)
  have Vx16 := V12
  obtain ⟨cl16, Ar16, q16, S16, M16, H16, G16⟩ := Vx16
  have hin16 : ¬ ((2 : Int32) < 0 ∨ cl16.slots.size ≤ ((2 : Int32)).toNatClampNeg) := inb_of S16 ⟨by decide, by decide⟩
  obtain ⟨T17, h17, X17, e17, W17, st17⟩ := stR X14 hx hZ e14 Ar16 (j := (2 : Int32)) hin16 rfl (Sto.ofV Ar16 q16 O_2 (Ins.self (E_OCTET.ext O12.2))) (g := (mkF m 22 #[.val (.int p1), .unset, .unset, .unset] [(.ref aOCTET), (.int (2 : Int32)), (.ref b2), (.ref b2)])) rfl rfl (hb hby at_22)
  have V17 : Arv Z h17 b2 k2 (.object "com/example/idlsmith/idlsmith/idl/Builtin") (37 : Int32) [(.ref aBOOLEAN), (.ref aBYTE), (.ref aOCTET), .null, .null, .null, .null, .null, .null, .null, .null, .null, .null, .null, .null, .null, .null, .null, .null, .null, .null, .null, .null, .null, .null, .null, .null, .null, .null, .null, .null, .null, .null, .null, .null, .null, .null] .null := Arv.set Ar16 q16 S16 M16 H16 G16 rfl W17 2 rfl (Nat.le_of_ble_eq_true rfl)
  have N17 := Fr.snoc X17 N12 g_b2
  have O17 := O12.wr W17 g_b2
  have K17 : Keep h0 h17 [] := K12.wr W17 (Or.inr sz_b2)
  have cn18 := fun (t : State) (kt : Steps p.tables e below (T17.setTop (mkF m 25 #[.val (.int p1), .unset, .unset, .unset] [(.int (3 : Int32)), (.ref b2), (.ref b2)])) t) => cn15 t (by
    refine st17 _ ?_
    show Steps p.tables e below (T17.setTop (mkF m 23 #[.val (.int p1), .unset, .unset, .unset] [(.ref b2)])) _
    refine XS.dup X17.here hx rfl (hb hby at_23) rfl rfl ?_
    show Steps p.tables e below (T17.setTop (mkF m 24 #[.val (.int p1), .unset, .unset, .unset] [(.ref b2), (.ref b2)])) _
    refine XS.iconst X17.here hx rfl (hb hby at_24) ?_
    show Steps p.tables e below (T17.setTop (mkF m 25 #[.val (.int p1), .unset, .unset, .unset] [(.int (3 : Int32)), (.ref b2), (.ref b2)])) _
    exact kt)
  obtain ⟨T19, X19, e19, st19⟩ := getS2 X17 hx hZ hown (host := "") (Or.inl (hw _ (List.mem_of_getElem? (i := 10) rfl))) Via.refl e17 (S_SHORT.ext O17.2) (g := (mkF m 25 #[.val (.int p1), .unset, .unset, .unset] [(.int (3 : Int32)), (.ref b2), (.ref b2)])) rfl (hb hby at_25)
  have cn20 := fun (t : State) (kt : Steps p.tables e below (T19.setTop (mkF m 28 #[.val (.int p1), .unset, .unset, .unset] [(.ref aSHORT), (.int (3 : Int32)), (.ref b2), (.ref b2)])) t) => cn18 t (by
    refine st19 _ ?_
    show Steps p.tables e below (T19.setTop (mkF m 28 #[.val (.int p1), .unset, .unset, .unset] [(.ref aSHORT), (.int (3 : Int32)), (.ref b2), (.ref b2)])) _
    exact kt)
  have Vx21 := V17
  obtain ⟨cl21, Ar21, q21, S21, M21, H21, G21⟩ := Vx21
  have hin21 : ¬ ((3 : Int32) < 0 ∨ cl21.slots.size ≤ ((3 : Int32)).toNatClampNeg) := inb_of S21 ⟨by decide, by decide⟩
  obtain ⟨T22, h22, X22, e22, W22, st22⟩ := stR X19 hx hZ e19 Ar21 (j := (3 : Int32)) hin21 rfl (Sto.ofV Ar21 q21 O_2 (Ins.self (E_SHORT.ext O17.2))) (g := (mkF m 28 #[.val (.int p1), .unset, .unset, .unset] [(.ref aSHORT), (.int (3 : Int32)), (.ref b2), (.ref b2)])) rfl rfl (hb hby at_28)
  have V22 : Arv Z h22 b2 k2 (.object "com/example/idlsmith/idlsmith/idl/Builtin") (37 : Int32) [(.ref aBOOLEAN), (.ref aBYTE), (.ref aOCTET), (.ref aSHORT), .null, .null, .null, .null, .null, .null, .null, .null, .null, .null, .null, .null, .null, .null, .null, .null, .null, .null, .null, .null, .null, .null, .null, .null, .null, .null, .null, .null, .null, .null, .null, .null, .null] .null := Arv.set Ar21 q21 S21 M21 H21 G21 rfl W22 3 rfl (Nat.le_of_ble_eq_true rfl)
  have N22 := Fr.snoc X22 N17 g_b2
  have O22 := O17.wr W22 g_b2
  have K22 : Keep h0 h22 [] := K17.wr W22 (Or.inr sz_b2)
  have cn23 := fun (t : State) (kt : Steps p.tables e below (T22.setTop (mkF m 31 #[.val (.int p1), .unset, .unset, .unset] [(.int (4 : Int32)), (.ref b2), (.ref b2)])) t) => cn20 t (by
    refine st22 _ ?_
    show Steps p.tables e below (T22.setTop (mkF m 29 #[.val (.int p1), .unset, .unset, .unset] [(.ref b2)])) _
    refine XS.dup X22.here hx rfl (hb hby at_29) rfl rfl ?_
    show Steps p.tables e below (T22.setTop (mkF m 30 #[.val (.int p1), .unset, .unset, .unset] [(.ref b2), (.ref b2)])) _
    refine XS.iconst X22.here hx rfl (hb hby at_30) ?_
    show Steps p.tables e below (T22.setTop (mkF m 31 #[.val (.int p1), .unset, .unset, .unset] [(.int (4 : Int32)), (.ref b2), (.ref b2)])) _
    exact kt)
  obtain ⟨T24, X24, e24, st24⟩ := getS2 X22 hx hZ hown (host := "") (Or.inl (hw _ (List.mem_of_getElem? (i := 12) rfl))) Via.refl e22 (S_UNSIGNED_SHORT.ext O22.2) (g := (mkF m 31 #[.val (.int p1), .unset, .unset, .unset] [(.int (4 : Int32)), (.ref b2), (.ref b2)])) rfl (hb hby at_31)
  have cn25 := fun (t : State) (kt : Steps p.tables e below (T24.setTop (mkF m 34 #[.val (.int p1), .unset, .unset, .unset] [(.ref aUNSIGNED_SHORT), (.int (4 : Int32)), (.ref b2), (.ref b2)])) t) => cn23 t (by
    refine st24 _ ?_
    show Steps p.tables e below (T24.setTop (mkF m 34 #[.val (.int p1), .unset, .unset, .unset] [(.ref aUNSIGNED_SHORT), (.int (4 : Int32)), (.ref b2), (.ref b2)])) _
    exact kt)
  have Vx26 := V22
  obtain ⟨cl26, Ar26, q26, S26, M26, H26, G26⟩ := Vx26
  have hin26 : ¬ ((4 : Int32) < 0 ∨ cl26.slots.size ≤ ((4 : Int32)).toNatClampNeg) := inb_of S26 ⟨by decide, by decide⟩
  obtain ⟨T27, h27, X27, e27, W27, st27⟩ := stR X24 hx hZ e24 Ar26 (j := (4 : Int32)) hin26 rfl (Sto.ofV Ar26 q26 O_2 (Ins.self (E_UNSIGNED_SHORT.ext O22.2))) (g := (mkF m 34 #[.val (.int p1), .unset, .unset, .unset] [(.ref aUNSIGNED_SHORT), (.int (4 : Int32)), (.ref b2), (.ref b2)])) rfl rfl (hb hby at_34)
  have V27 : Arv Z h27 b2 k2 (.object "com/example/idlsmith/idlsmith/idl/Builtin") (37 : Int32) [(.ref aBOOLEAN), (.ref aBYTE), (.ref aOCTET), (.ref aSHORT), (.ref aUNSIGNED_SHORT), .null, .null, .null, .null, .null, .null, .null, .null, .null, .null, .null, .null, .null, .null, .null, .null, .null, .null, .null, .null, .null, .null, .null, .null, .null, .null, .null, .null, .null, .null, .null, .null] .null := Arv.set Ar26 q26 S26 M26 H26 G26 rfl W27 4 rfl (Nat.le_of_ble_eq_true rfl)
  have N27 := Fr.snoc X27 N22 g_b2
  have O27 := O22.wr W27 g_b2
  have K27 : Keep h0 h27 [] := K22.wr W27 (Or.inr sz_b2)
  have cn28 := fun (t : State) (kt : Steps p.tables e below (T27.setTop (mkF m 37 #[.val (.int p1), .unset, .unset, .unset] [(.int (5 : Int32)), (.ref b2), (.ref b2)])) t) => cn25 t (by
    refine st27 _ ?_
    show Steps p.tables e below (T27.setTop (mkF m 35 #[.val (.int p1), .unset, .unset, .unset] [(.ref b2)])) _
    refine XS.dup X27.here hx rfl (hb hby at_35) rfl rfl ?_
    show Steps p.tables e below (T27.setTop (mkF m 36 #[.val (.int p1), .unset, .unset, .unset] [(.ref b2), (.ref b2)])) _
    refine XS.iconst X27.here hx rfl (hb hby at_36) ?_
    show Steps p.tables e below (T27.setTop (mkF m 37 #[.val (.int p1), .unset, .unset, .unset] [(.int (5 : Int32)), (.ref b2), (.ref b2)])) _
    exact kt)
  obtain ⟨T29, X29, e29, st29⟩ := getS2 X27 hx hZ hown (host := "") (Or.inl (hw _ (List.mem_of_getElem? (i := 14) rfl))) Via.refl e27 (S_LONG.ext O27.2) (g := (mkF m 37 #[.val (.int p1), .unset, .unset, .unset] [(.int (5 : Int32)), (.ref b2), (.ref b2)])) rfl (hb hby at_37)
  have cn30 := fun (t : State) (kt : Steps p.tables e below (T29.setTop (mkF m 40 #[.val (.int p1), .unset, .unset, .unset] [(.ref aLONG), (.int (5 : Int32)), (.ref b2), (.ref b2)])) t) => cn28 t (by
    refine st29 _ ?_
    show Steps p.tables e below (T29.setTop (mkF m 40 #[.val (.int p1), .unset, .unset, .unset] [(.ref aLONG), (.int (5 : Int32)), (.ref b2), (.ref b2)])) _
    exact kt)
  have Vx31 := V27
  obtain ⟨cl31, Ar31, q31, S31, M31, H31, G31⟩ := Vx31
  have hin31 : ¬ ((5 : Int32) < 0 ∨ cl31.slots.size ≤ ((5 : Int32)).toNatClampNeg) := inb_of S31 ⟨by decide, by decide⟩
  obtain ⟨T32, h32, X32, e32, W32, st32⟩ := stR X29 hx hZ e29 Ar31 (j := (5 : Int32)) hin31 rfl (Sto.ofV Ar31 q31 O_2 (Ins.self (E_LONG.ext O27.2))) (g := (mkF m 40 #[.val (.int p1), .unset, .unset, .unset] [(.ref aLONG), (.int (5 : Int32)), (.ref b2), (.ref b2)])) rfl rfl (hb hby at_40)
  have V32 : Arv Z h32 b2 k2 (.object "com/example/idlsmith/idlsmith/idl/Builtin") (37 : Int32) [(.ref aBOOLEAN), (.ref aBYTE), (.ref aOCTET), (.ref aSHORT), (.ref aUNSIGNED_SHORT), (.ref aLONG), .null, .null, .null, .null, .null, .null, .null, .null, .null, .null, .null, .null, .null, .null, .null, .null, .null, .null, .null, .null, .null, .null, .null, .null, .null, .null, .null, .null, .null, .null, .null] .null := Arv.set Ar31 q31 S31 M31 H31 G31 rfl W32 5 rfl (Nat.le_of_ble_eq_true rfl)
  have N32 := Fr.snoc X32 N27 g_b2
  have O32 := O27.wr W32 g_b2
  have K32 : Keep h0 h32 [] := K27.wr W32 (Or.inr sz_b2)
  have cn33 := fun (t : State) (kt : Steps p.tables e below (T32.setTop (mkF m 44 #[.val (.int p1), .unset, .unset, .unset] [(.int (6 : Int32)), (.ref b2), (.ref b2)])) t) => cn30 t (by
    refine st32 _ ?_
    show Steps p.tables e below (T32.setTop (mkF m 41 #[.val (.int p1), .unset, .unset, .unset] [(.ref b2)])) _
    refine XS.dup X32.here hx rfl (hb hby at_41) rfl rfl ?_
    show Steps p.tables e below (T32.setTop (mkF m 42 #[.val (.int p1), .unset, .unset, .unset] [(.ref b2), (.ref b2)])) _
    refine XS.bipush X32.here hx rfl (hb hby at_42) ?_
    show Steps p.tables e below (T32.setTop (mkF m 44 #[.val (.int p1), .unset, .unset, .unset] [(.int (6 : Int32)), (.ref b2), (.ref b2)])) _
    exact kt)
  obtain ⟨T34, X34, e34, st34⟩ := getS2 X32 hx hZ hown (host := "") (Or.inl (hw _ (List.mem_of_getElem? (i := 16) rfl))) Via.refl e32 (S_UNSIGNED_LONG.ext O32.2) (g := (mkF m 44 #[.val (.int p1), .unset, .unset, .unset] [(.int (6 : Int32)), (.ref b2), (.ref b2)])) rfl (hb hby at_44)
  have cn35 := fun (t : State) (kt : Steps p.tables e below (T34.setTop (mkF m 47 #[.val (.int p1), .unset, .unset, .unset] [(.ref aUNSIGNED_LONG), (.int (6 : Int32)), (.ref b2), (.ref b2)])) t) => cn33 t (by
    refine st34 _ ?_
    show Steps p.tables e below (T34.setTop (mkF m 47 #[.val (.int p1), .unset, .unset, .unset] [(.ref aUNSIGNED_LONG), (.int (6 : Int32)), (.ref b2), (.ref b2)])) _
    exact kt)
  have Vx36 := V32
  obtain ⟨cl36, Ar36, q36, S36, M36, H36, G36⟩ := Vx36
  have hin36 : ¬ ((6 : Int32) < 0 ∨ cl36.slots.size ≤ ((6 : Int32)).toNatClampNeg) := inb_of S36 ⟨by decide, by decide⟩
  obtain ⟨T37, h37, X37, e37, W37, st37⟩ := stR X34 hx hZ e34 Ar36 (j := (6 : Int32)) hin36 rfl (Sto.ofV Ar36 q36 O_2 (Ins.self (E_UNSIGNED_LONG.ext O32.2))) (g := (mkF m 47 #[.val (.int p1), .unset, .unset, .unset] [(.ref aUNSIGNED_LONG), (.int (6 : Int32)), (.ref b2), (.ref b2)])) rfl rfl (hb hby at_47)
  have V37 : Arv Z h37 b2 k2 (.object "com/example/idlsmith/idlsmith/idl/Builtin") (37 : Int32) [(.ref aBOOLEAN), (.ref aBYTE), (.ref aOCTET), (.ref aSHORT), (.ref aUNSIGNED_SHORT), (.ref aLONG), (.ref aUNSIGNED_LONG), .null, .null, .null, .null, .null, .null, .null, .null, .null, .null, .null, .null, .null, .null, .null, .null, .null, .null, .null, .null, .null, .null, .null, .null, .null, .null, .null, .null, .null, .null] .null := Arv.set Ar36 q36 S36 M36 H36 G36 rfl W37 6 rfl (Nat.le_of_ble_eq_true rfl)
  have N37 := Fr.snoc X37 N32 g_b2
  have O37 := O32.wr W37 g_b2
  have K37 : Keep h0 h37 [] := K32.wr W37 (Or.inr sz_b2)
  have cn38 := fun (t : State) (kt : Steps p.tables e below (T37.setTop (mkF m 51 #[.val (.int p1), .unset, .unset, .unset] [(.int (7 : Int32)), (.ref b2), (.ref b2)])) t) => cn35 t (by
    refine st37 _ ?_
    show Steps p.tables e below (T37.setTop (mkF m 48 #[.val (.int p1), .unset, .unset, .unset] [(.ref b2)])) _
    refine XS.dup X37.here hx rfl (hb hby at_48) rfl rfl ?_
    show Steps p.tables e below (T37.setTop (mkF m 49 #[.val (.int p1), .unset, .unset, .unset] [(.ref b2), (.ref b2)])) _
    refine XS.bipush X37.here hx rfl (hb hby at_49) ?_
    show Steps p.tables e below (T37.setTop (mkF m 51 #[.val (.int p1), .unset, .unset, .unset] [(.int (7 : Int32)), (.ref b2), (.ref b2)])) _
    exact kt)
  obtain ⟨T39, X39, e39, st39⟩ := getS2 X37 hx hZ hown (host := "") (Or.inl (hw _ (List.mem_of_getElem? (i := 18) rfl))) Via.refl e37 (S_LONG_LONG.ext O37.2) (g := (mkF m 51 #[.val (.int p1), .unset, .unset, .unset] [(.int (7 : Int32)), (.ref b2), (.ref b2)])) rfl (hb hby at_51)
  have cn40 := fun (t : State) (kt : Steps p.tables e below (T39.setTop (mkF m 54 #[.val (.int p1), .unset, .unset, .unset] [(.ref aLONG_LONG), (.int (7 : Int32)), (.ref b2), (.ref b2)])) t) => cn38 t (by
    refine st39 _ ?_
    show Steps p.tables e below (T39.setTop (mkF m 54 #[.val (.int p1), .unset, .unset, .unset] [(.ref aLONG_LONG), (.int (7 : Int32)), (.ref b2), (.ref b2)])) _
    exact kt)
  have Vx41 := V37
  obtain ⟨cl41, Ar41, q41, S41, M41, H41, G41⟩ := Vx41
  have hin41 : ¬ ((7 : Int32) < 0 ∨ cl41.slots.size ≤ ((7 : Int32)).toNatClampNeg) := inb_of S41 ⟨by decide, by decide⟩
  obtain ⟨T42, h42, X42, e42, W42, st42⟩ := stR X39 hx hZ e39 Ar41 (j := (7 : Int32)) hin41 rfl (Sto.ofV Ar41 q41 O_2 (Ins.self (E_LONG_LONG.ext O37.2))) (g := (mkF m 54 #[.val (.int p1), .unset, .unset, .unset] [(.ref aLONG_LONG), (.int (7 : Int32)), (.ref b2), (.ref b2)])) rfl rfl (hb hby at_54)
  have V42 : Arv Z h42 b2 k2 (.object "com/example/idlsmith/idlsmith/idl/Builtin") (37 : Int32) [(.ref aBOOLEAN), (.ref aBYTE), (.ref aOCTET), (.ref aSHORT), (.ref aUNSIGNED_SHORT), (.ref aLONG), (.ref aUNSIGNED_LONG), (.ref aLONG_LONG), .null, .null, .null, .null, .null, .null, .null, .null, .null, .null, .null, .null, .null, .null, .null, .null, .null, .null, .null, .null, .null, .null, .null, .null, .null, .null, .null, .null, .null] .null := Arv.set Ar41 q41 S41 M41 H41 G41 rfl W42 7 rfl (Nat.le_of_ble_eq_true rfl)
  have N42 := Fr.snoc X42 N37 g_b2
  have O42 := O37.wr W42 g_b2
  have K42 : Keep h0 h42 [] := K37.wr W42 (Or.inr sz_b2)
  have cn43 := fun (t : State) (kt : Steps p.tables e below (T42.setTop (mkF m 58 #[.val (.int p1), .unset, .unset, .unset] [(.int (8 : Int32)), (.ref b2), (.ref b2)])) t) => cn40 t (by
    refine st42 _ ?_
    show Steps p.tables e below (T42.setTop (mkF m 55 #[.val (.int p1), .unset, .unset, .unset] [(.ref b2)])) _
    refine XS.dup X42.here hx rfl (hb hby at_55) rfl rfl ?_
    show Steps p.tables e below (T42.setTop (mkF m 56 #[.val (.int p1), .unset, .unset, .unset] [(.ref b2), (.ref b2)])) _
    refine XS.bipush X42.here hx rfl (hb hby at_56) ?_
    show Steps p.tables e below (T42.setTop (mkF m 58 #[.val (.int p1), .unset, .unset, .unset] [(.int (8 : Int32)), (.ref b2), (.ref b2)])) _
    exact kt)
  obtain ⟨T44, X44, e44, st44⟩ := getS2 X42 hx hZ hown (host := "") (Or.inl (hw _ (List.mem_of_getElem? (i := 20) rfl))) Via.refl e42 (S_UNSIGNED_LONG_LONG.ext O42.2) (g := (mkF m 58 #[.val (.int p1), .unset, .unset, .unset] [(.int (8 : Int32)), (.ref b2), (.ref b2)])) rfl (hb hby at_58)
  have cn45 := fun (t : State) (kt : Steps p.tables e below (T44.setTop (mkF m 61 #[.val (.int p1), .unset, .unset, .unset] [(.ref aUNSIGNED_LONG_LONG), (.int (8 : Int32)), (.ref b2), (.ref b2)])) t) => cn43 t (by
    refine st44 _ ?_
    show Steps p.tables e below (T44.setTop (mkF m 61 #[.val (.int p1), .unset, .unset, .unset] [(.ref aUNSIGNED_LONG_LONG), (.int (8 : Int32)), (.ref b2), (.ref b2)])) _
    exact kt)
  have Vx46 := V42
  obtain ⟨cl46, Ar46, q46, S46, M46, H46, G46⟩ := Vx46
  have hin46 : ¬ ((8 : Int32) < 0 ∨ cl46.slots.size ≤ ((8 : Int32)).toNatClampNeg) := inb_of S46 ⟨by decide, by decide⟩
  obtain ⟨T47, h47, X47, e47, W47, st47⟩ := stR X44 hx hZ e44 Ar46 (j := (8 : Int32)) hin46 rfl (Sto.ofV Ar46 q46 O_2 (Ins.self (E_UNSIGNED_LONG_LONG.ext O42.2))) (g := (mkF m 61 #[.val (.int p1), .unset, .unset, .unset] [(.ref aUNSIGNED_LONG_LONG), (.int (8 : Int32)), (.ref b2), (.ref b2)])) rfl rfl (hb hby at_61)
  have V47 : Arv Z h47 b2 k2 (.object "com/example/idlsmith/idlsmith/idl/Builtin") (37 : Int32) [(.ref aBOOLEAN), (.ref aBYTE), (.ref aOCTET), (.ref aSHORT), (.ref aUNSIGNED_SHORT), (.ref aLONG), (.ref aUNSIGNED_LONG), (.ref aLONG_LONG), (.ref aUNSIGNED_LONG_LONG), .null, .null, .null, .null, .null, .null, .null, .null, .null, .null, .null, .null, .null, .null, .null, .null, .null, .null, .null, .null, .null, .null, .null, .null, .null, .null, .null, .null] .null := Arv.set Ar46 q46 S46 M46 H46 G46 rfl W47 8 rfl (Nat.le_of_ble_eq_true rfl)
  have N47 := Fr.snoc X47 N42 g_b2
  have O47 := O42.wr W47 g_b2
  have K47 : Keep h0 h47 [] := K42.wr W47 (Or.inr sz_b2)
  have cn48 := fun (t : State) (kt : Steps p.tables e below (T47.setTop (mkF m 65 #[.val (.int p1), .unset, .unset, .unset] [(.int (9 : Int32)), (.ref b2), (.ref b2)])) t) => cn45 t (by
    refine st47 _ ?_
    show Steps p.tables e below (T47.setTop (mkF m 62 #[.val (.int p1), .unset, .unset, .unset] [(.ref b2)])) _
    refine XS.dup X47.here hx rfl (hb hby at_62) rfl rfl ?_
    show Steps p.tables e below (T47.setTop (mkF m 63 #[.val (.int p1), .unset, .unset, .unset] [(.ref b2), (.ref b2)])) _
    refine XS.bipush X47.here hx rfl (hb hby at_63) ?_
    show Steps p.tables e below (T47.setTop (mkF m 65 #[.val (.int p1), .unset, .unset, .unset] [(.int (9 : Int32)), (.ref b2), (.ref b2)])) _
    exact kt)
  obtain ⟨T49, X49, e49, st49⟩ := getS2 X47 hx hZ hown (host := "") (Or.inl (hw _ (List.mem_of_getElem? (i := 22) rfl))) Via.refl e47 (S_FLOAT.ext O47.2) (g := (mkF m 65 #[.val (.int p1), .unset, .unset, .unset] [(.int (9 : Int32)), (.ref b2), (.ref b2)])) rfl (hb hby at_65)
  have cn50 := fun (t : State) (kt : Steps p.tables e below (T49.setTop (mkF m 68 #[.val (.int p1), .unset, .unset, .unset] [(.ref aFLOAT), (.int (9 : Int32)), (.ref b2), (.ref b2)])) t) => cn48 t (by
    refine st49 _ ?_
    show Steps p.tables e below (T49.setTop (mkF m 68 #[.val (.int p1), .unset, .unset, .unset] [(.ref aFLOAT), (.int (9 : Int32)), (.ref b2), (.ref b2)])) _
    exact kt)
  have Vx51 := V47
  obtain ⟨cl51, Ar51, q51, S51, M51, H51, G51⟩ := Vx51
  have hin51 : ¬ ((9 : Int32) < 0 ∨ cl51.slots.size ≤ ((9 : Int32)).toNatClampNeg) := inb_of S51 ⟨by decide, by decide⟩
  obtain ⟨T52, h52, X52, e52, W52, st52⟩ := stR X49 hx hZ e49 Ar51 (j := (9 : Int32)) hin51 rfl (Sto.ofV Ar51 q51 O_2 (Ins.self (E_FLOAT.ext O47.2))) (g := (mkF m 68 #[.val (.int p1), .unset, .unset, .unset] [(.ref aFLOAT), (.int (9 : Int32)), (.ref b2), (.ref b2)])) rfl rfl (hb hby at_68)
  have V52 : Arv Z h52 b2 k2 (.object "com/example/idlsmith/idlsmith/idl/Builtin") (37 : Int32) [(.ref aBOOLEAN), (.ref aBYTE), (.ref aOCTET), (.ref aSHORT), (.ref aUNSIGNED_SHORT), (.ref aLONG), (.ref aUNSIGNED_LONG), (.ref aLONG_LONG), (.ref aUNSIGNED_LONG_LONG), (.ref aFLOAT), .null, .null, .null, .null, .null, .null, .null, .null, .null, .null, .null, .null, .null, .null, .null, .null, .null, .null, .null, .null, .null, .null, .null, .null, .null, .null, .null] .null := Arv.set Ar51 q51 S51 M51 H51 G51 rfl W52 9 rfl (Nat.le_of_ble_eq_true rfl)
  have N52 := Fr.snoc X52 N47 g_b2
  have O52 := O47.wr W52 g_b2
  have K52 : Keep h0 h52 [] := K47.wr W52 (Or.inr sz_b2)
  have cn53 := fun (t : State) (kt : Steps p.tables e below (T52.setTop (mkF m 72 #[.val (.int p1), .unset, .unset, .unset] [(.int (10 : Int32)), (.ref b2), (.ref b2)])) t) => cn50 t (by
    refine st52 _ ?_
    show Steps p.tables e below (T52.setTop (mkF m 69 #[.val (.int p1), .unset, .unset, .unset] [(.ref b2)])) _
    refine XS.dup X52.here hx rfl (hb hby at_69) rfl rfl ?_
    show Steps p.tables e below (T52.setTop (mkF m 70 #[.val (.int p1), .unset, .unset, .unset] [(.ref b2), (.ref b2)])) _
    refine XS.bipush X52.here hx rfl (hb hby at_70) ?_
    show Steps p.tables e below (T52.setTop (mkF m 72 #[.val (.int p1), .unset, .unset, .unset] [(.int (10 : Int32)), (.ref b2), (.ref b2)])) _
    exact kt)
  obtain ⟨T54, X54, e54, st54⟩ := getS2 X52 hx hZ hown (host := "") (Or.inl (hw _ (List.mem_of_getElem? (i := 24) rfl))) Via.refl e52 (S_UNRESTRICTED_FLOAT.ext O52.2) (g := (mkF m 72 #[.val (.int p1), .unset, .unset, .unset] [(.int (10 : Int32)), (.ref b2), (.ref b2)])) rfl (hb hby at_72)
  have cn55 := fun (t : State) (kt : Steps p.tables e below (T54.setTop (mkF m 75 #[.val (.int p1), .unset, .unset, .unset] [(.ref aUNRESTRICTED_FLOAT), (.int (10 : Int32)), (.ref b2), (.ref b2)])) t) => cn53 t (by
    refine st54 _ ?_
    show Steps p.tables e below (T54.setTop (mkF m 75 #[.val (.int p1), .unset, .unset, .unset] [(.ref aUNRESTRICTED_FLOAT), (.int (10 : Int32)), (.ref b2), (.ref b2)])) _
    exact kt)
  have Vx56 := V52
  obtain ⟨cl56, Ar56, q56, S56, M56, H56, G56⟩ := Vx56
  have hin56 : ¬ ((10 : Int32) < 0 ∨ cl56.slots.size ≤ ((10 : Int32)).toNatClampNeg) := inb_of S56 ⟨by decide, by decide⟩
  obtain ⟨T57, h57, X57, e57, W57, st57⟩ := stR X54 hx hZ e54 Ar56 (j := (10 : Int32)) hin56 rfl (Sto.ofV Ar56 q56 O_2 (Ins.self (E_UNRESTRICTED_FLOAT.ext O52.2))) (g := (mkF m 75 #[.val (.int p1), .unset, .unset, .unset] [(.ref aUNRESTRICTED_FLOAT), (.int (10 : Int32)), (.ref b2), (.ref b2)])) rfl rfl (hb hby at_75)
  have V57 : Arv Z h57 b2 k2 (.object "com/example/idlsmith/idlsmith/idl/Builtin") (37 : Int32) [(.ref aBOOLEAN), (.ref aBYTE), (.ref aOCTET), (.ref aSHORT), (.ref aUNSIGNED_SHORT), (.ref aLONG), (.ref aUNSIGNED_LONG), (.ref aLONG_LONG), (.ref aUNSIGNED_LONG_LONG), (.ref aFLOAT), (.ref aUNRESTRICTED_FLOAT), .null, .null, .null, .null, .null, .null, .null, .null, .null, .null, .null, .null, .null, .null, .null, .null, .null, .null, .null, .null, .null, .null, .null, .null, .null, .null] .null := Arv.set Ar56 q56 S56 M56 H56 G56 rfl W57 10 rfl (Nat.le_of_ble_eq_true rfl)
  have N57 := Fr.snoc X57 N52 g_b2
  have O57 := O52.wr W57 g_b2
  have K57 : Keep h0 h57 [] := K52.wr W57 (Or.inr sz_b2)
  have cn58 := fun (t : State) (kt : Steps p.tables e below (T57.setTop (mkF m 79 #[.val (.int p1), .unset, .unset, .unset] [(.int (11 : Int32)), (.ref b2), (.ref b2)])) t) => cn55 t (by
    refine st57 _ ?_
    show Steps p.tables e below (T57.setTop (mkF m 76 #[.val (.int p1), .unset, .unset, .unset] [(.ref b2)])) _
    refine XS.dup X57.here hx rfl (hb hby at_76) rfl rfl ?_
    show Steps p.tables e below (T57.setTop (mkF m 77 #[.val (.int p1), .unset, .unset, .unset] [(.ref b2), (.ref b2)])) _
    refine XS.bipush X57.here hx rfl (hb hby at_77) ?_
    show Steps p.tables e below (T57.setTop (mkF m 79 #[.val (.int p1), .unset, .unset, .unset] [(.int (11 : Int32)), (.ref b2), (.ref b2)])) _
    exact kt)
  obtain ⟨T59, X59, e59, st59⟩ := getS2 X57 hx hZ hown (host := "") (Or.inl (hw _ (List.mem_of_getElem? (i := 26) rfl))) Via.refl e57 (S_DOUBLE.ext O57.2) (g := (mkF m 79 #[.val (.int p1), .unset, .unset, .unset] [(.int (11 : Int32)), (.ref b2), (.ref b2)])) rfl (hb hby at_79)
  have cn60 := fun (t : State) (kt : Steps p.tables e below (T59.setTop (mkF m 82 #[.val (.int p1), .unset, .unset, .unset] [(.ref aDOUBLE), (.int (11 : Int32)), (.ref b2), (.ref b2)])) t) => cn58 t (by
    refine st59 _ ?_
    show Steps p.tables e below (T59.setTop (mkF m 82 #[.val (.int p1), .unset, .unset, .unset] [(.ref aDOUBLE), (.int (11 : Int32)), (.ref b2), (.ref b2)])) _
    exact kt)
  have Vx61 := V57
  obtain ⟨cl61, Ar61, q61, S61, M61, H61, G61⟩ := Vx61
  have hin61 : ¬ ((11 : Int32) < 0 ∨ cl61.slots.size ≤ ((11 : Int32)).toNatClampNeg) := inb_of S61 ⟨by decide, by decide⟩
  obtain ⟨T62, h62, X62, e62, W62, st62⟩ := stR X59 hx hZ e59 Ar61 (j := (11 : Int32)) hin61 rfl (Sto.ofV Ar61 q61 O_2 (Ins.self (E_DOUBLE.ext O57.2))) (g := (mkF m 82 #[.val (.int p1), .unset, .unset, .unset] [(.ref aDOUBLE), (.int (11 : Int32)), (.ref b2), (.ref b2)])) rfl rfl (hb hby at_82)
  have V62 : Arv Z h62 b2 k2 (.object "com/example/idlsmith/idlsmith/idl/Builtin") (37 : Int32) [(.ref aBOOLEAN), (.ref aBYTE), (.ref aOCTET), (.ref aSHORT), (.ref aUNSIGNED_SHORT), (.ref aLONG), (.ref aUNSIGNED_LONG), (.ref aLONG_LONG), (.ref aUNSIGNED_LONG_LONG), (.ref aFLOAT), (.ref aUNRESTRICTED_FLOAT), (.ref aDOUBLE), .null, .null, .null, .null, .null, .null, .null, .null, .null, .null, .null, .null, .null, .null, .null, .null, .null, .null, .null, .null, .null, .null, .null, .null, .null] .null := Arv.set Ar61 q61 S61 M61 H61 G61 rfl W62 11 rfl (Nat.le_of_ble_eq_true rfl)
  have N62 := Fr.snoc X62 N57 g_b2
  have O62 := O57.wr W62 g_b2
  have K62 : Keep h0 h62 [] := K57.wr W62 (Or.inr sz_b2)
  have cn63 := fun (t : State) (kt : Steps p.tables e below (T62.setTop (mkF m 86 #[.val (.int p1), .unset, .unset, .unset] [(.int (12 : Int32)), (.ref b2), (.ref b2)])) t) => cn60 t (by
    refine st62 _ ?_
    show Steps p.tables e below (T62.setTop (mkF m 83 #[.val (.int p1), .unset, .unset, .unset] [(.ref b2)])) _
    refine XS.dup X62.here hx rfl (hb hby at_83) rfl rfl ?_
    show Steps p.tables e below (T62.setTop (mkF m 84 #[.val (.int p1), .unset, .unset, .unset] [(.ref b2), (.ref b2)])) _
    refine XS.bipush X62.here hx rfl (hb hby at_84) ?_
    show Steps p.tables e below (T62.setTop (mkF m 86 #[.val (.int p1), .unset, .unset, .unset] [(.int (12 : Int32)), (.ref b2), (.ref b2)])) _
    exact kt)
  obtain ⟨T64, X64, e64, st64⟩ := getS2 X62 hx hZ hown (host := "") (Or.inl (hw _ (List.mem_of_getElem? (i := 28) rfl))) Via.refl e62 (S_UNRESTRICTED_DOUBLE.ext O62.2) (g := (mkF m 86 #[.val (.int p1), .unset, .unset, .unset] [(.int (12 : Int32)), (.ref b2), (.ref b2)])) rfl (hb hby at_86)
  have cn65 := fun (t : State) (kt : Steps p.tables e below (T64.setTop (mkF m 89 #[.val (.int p1), .unset, .unset, .unset] [(.ref aUNRESTRICTED_DOUBLE), (.int (12 : Int32)), (.ref b2), (.ref b2)])) t) => cn63 t (by
    refine st64 _ ?_
    show Steps p.tables e below (T64.setTop (mkF m 89 #[.val (.int p1), .unset, .unset, .unset] [(.ref aUNRESTRICTED_DOUBLE), (.int (12 : Int32)), (.ref b2), (.ref b2)])) _
    exact kt)
  have Vx66 := V62
  obtain ⟨cl66, Ar66, q66, S66, M66, H66, G66⟩ := Vx66
  have hin66 : ¬ ((12 : Int32) < 0 ∨ cl66.slots.size ≤ ((12 : Int32)).toNatClampNeg) := inb_of S66 ⟨by decide, by decide⟩
  obtain ⟨T67, h67, X67, e67, W67, st67⟩ := stR X64 hx hZ e64 Ar66 (j := (12 : Int32)) hin66 rfl (Sto.ofV Ar66 q66 O_2 (Ins.self (E_UNRESTRICTED_DOUBLE.ext O62.2))) (g := (mkF m 89 #[.val (.int p1), .unset, .unset, .unset] [(.ref aUNRESTRICTED_DOUBLE), (.int (12 : Int32)), (.ref b2), (.ref b2)])) rfl rfl (hb hby at_89)
  have V67 : Arv Z h67 b2 k2 (.object "com/example/idlsmith/idlsmith/idl/Builtin") (37 : Int32) [(.ref aBOOLEAN), (.ref aBYTE), (.ref aOCTET), (.ref aSHORT), (.ref aUNSIGNED_SHORT), (.ref aLONG), (.ref aUNSIGNED_LONG), (.ref aLONG_LONG), (.ref aUNSIGNED_LONG_LONG), (.ref aFLOAT), (.ref aUNRESTRICTED_FLOAT), (.ref aDOUBLE), (.ref aUNRESTRICTED_DOUBLE), .null, .null, .null, .null, .null, .null, .null, .null, .null, .null, .null, .null, .null, .null, .null, .null, .null, .null, .null, .null, .null, .null, .null, .null] .null := Arv.set Ar66 q66 S66 M66 H66 G66 rfl W67 12 rfl (Nat.le_of_ble_eq_true rfl)
  have N67 := Fr.snoc X67 N62 g_b2
  have O67 := O62.wr W67 g_b2
  have K67 : Keep h0 h67 [] := K62.wr W67 (Or.inr sz_b2)
  have cn68 := fun (t : State) (kt : Steps p.tables e below (T67.setTop (mkF m 93 #[.val (.int p1), .unset, .unset, .unset] [(.int (13 : Int32)), (.ref b2), (.ref b2)])) t) => cn65 t (by
    refine st67 _ ?_
    show Steps p.tables e below (T67.setTop (mkF m 90 #[.val (.int p1), .unset, .unset, .unset] [(.ref b2)])) _
    refine XS.dup X67.here hx rfl (hb hby at_90) rfl rfl ?_
    show Steps p.tables e below (T67.setTop (mkF m 91 #[.val (.int p1), .unset, .unset, .unset] [(.ref b2), (.ref b2)])) _
    refine XS.bipush X67.here hx rfl (hb hby at_91) ?_
    show Steps p.tables e below (T67.setTop (mkF m 93 #[.val (.int p1), .unset, .unset, .unset] [(.int (13 : Int32)), (.ref b2), (.ref b2)])) _
    exact kt)
  obtain ⟨T69, X69, e69, st69⟩ := getS2 X67 hx hZ hown (host := "") (Or.inl (hw _ (List.mem_of_getElem? (i := 30) rfl))) Via.refl e67 (S_BIGINT.ext O67.2) (g := (mkF m 93 #[.val (.int p1), .unset, .unset, .unset] [(.int (13 : Int32)), (.ref b2), (.ref b2)])) rfl (hb hby at_93)
  have cn70 := fun (t : State) (kt : Steps p.tables e below (T69.setTop (mkF m 96 #[.val (.int p1), .unset, .unset, .unset] [(.ref aBIGINT), (.int (13 : Int32)), (.ref b2), (.ref b2)])) t) => cn68 t (by
    refine st69 _ ?_
    show Steps p.tables e below (T69.setTop (mkF m 96 #[.val (.int p1), .unset, .unset, .unset] [(.ref aBIGINT), (.int (13 : Int32)), (.ref b2), (.ref b2)])) _
    exact kt)
  have Vx71 := V67
  obtain ⟨cl71, Ar71, q71, S71, M71, H71, G71⟩ := Vx71
  have hin71 : ¬ ((13 : Int32) < 0 ∨ cl71.slots.size ≤ ((13 : Int32)).toNatClampNeg) := inb_of S71 ⟨by decide, by decide⟩
  obtain ⟨T72, h72, X72, e72, W72, st72⟩ := stR X69 hx hZ e69 Ar71 (j := (13 : Int32)) hin71 rfl (Sto.ofV Ar71 q71 O_2 (Ins.self (E_BIGINT.ext O67.2))) (g := (mkF m 96 #[.val (.int p1), .unset, .unset, .unset] [(.ref aBIGINT), (.int (13 : Int32)), (.ref b2), (.ref b2)])) rfl rfl (hb hby at_96)
  have V72 : Arv Z h72 b2 k2 (.object "com/example/idlsmith/idlsmith/idl/Builtin") (37 : Int32) [(.ref aBOOLEAN), (.ref aBYTE), (.ref aOCTET), (.ref aSHORT), (.ref aUNSIGNED_SHORT), (.ref aLONG), (.ref aUNSIGNED_LONG), (.ref aLONG_LONG), (.ref aUNSIGNED_LONG_LONG), (.ref aFLOAT), (.ref aUNRESTRICTED_FLOAT), (.ref aDOUBLE), (.ref aUNRESTRICTED_DOUBLE), (.ref aBIGINT), .null, .null, .null, .null, .null, .null, .null, .null, .null, .null, .null, .null, .null, .null, .null, .null, .null, .null, .null, .null, .null, .null, .null] .null := Arv.set Ar71 q71 S71 M71 H71 G71 rfl W72 13 rfl (Nat.le_of_ble_eq_true rfl)
  have N72 := Fr.snoc X72 N67 g_b2
  have O72 := O67.wr W72 g_b2
  have K72 : Keep h0 h72 [] := K67.wr W72 (Or.inr sz_b2)
  have cn73 := fun (t : State) (kt : Steps p.tables e below (T72.setTop (mkF m 100 #[.val (.int p1), .unset, .unset, .unset] [(.int (14 : Int32)), (.ref b2), (.ref b2)])) t) => cn70 t (by
    refine st72 _ ?_
    show Steps p.tables e below (T72.setTop (mkF m 97 #[.val (.int p1), .unset, .unset, .unset] [(.ref b2)])) _
    refine XS.dup X72.here hx rfl (hb hby at_97) rfl rfl ?_
    show Steps p.tables e below (T72.setTop (mkF m 98 #[.val (.int p1), .unset, .unset, .unset] [(.ref b2), (.ref b2)])) _
    refine XS.bipush X72.here hx rfl (hb hby at_98) ?_
    show Steps p.tables e below (T72.setTop (mkF m 100 #[.val (.int p1), .unset, .unset, .unset] [(.int (14 : Int32)), (.ref b2), (.ref b2)])) _
    exact kt)
  obtain ⟨T74, X74, e74, st74⟩ := getS2 X72 hx hZ hown (host := "") (Or.inl (hw _ (List.mem_of_getElem? (i := 32) rfl))) Via.refl e72 (S_DOMSTRING.ext O72.2) (g := (mkF m 100 #[.val (.int p1), .unset, .unset, .unset] [(.int (14 : Int32)), (.ref b2), (.ref b2)])) rfl (hb hby at_100)
  have cn75 := fun (t : State) (kt : Steps p.tables e below (T74.setTop (mkF m 103 #[.val (.int p1), .unset, .unset, .unset] [(.ref aDOMSTRING), (.int (14 : Int32)), (.ref b2), (.ref b2)])) t) => cn73 t (by
    refine st74 _ ?_
    show Steps p.tables e below (T74.setTop (mkF m 103 #[.val (.int p1), .unset, .unset, .unset] [(.ref aDOMSTRING), (.int (14 : Int32)), (.ref b2), (.ref b2)])) _
    exact kt)
  have Vx76 := V72
  obtain ⟨cl76, Ar76, q76, S76, M76, H76, G76⟩ := Vx76
  have hin76 : ¬ ((14 : Int32) < 0 ∨ cl76.slots.size ≤ ((14 : Int32)).toNatClampNeg) := inb_of S76 ⟨by decide, by decide⟩
  obtain ⟨T77, h77, X77, e77, W77, st77⟩ := stR X74 hx hZ e74 Ar76 (j := (14 : Int32)) hin76 rfl (Sto.ofV Ar76 q76 O_2 (Ins.self (E_DOMSTRING.ext O72.2))) (g := (mkF m 103 #[.val (.int p1), .unset, .unset, .unset] [(.ref aDOMSTRING), (.int (14 : Int32)), (.ref b2), (.ref b2)])) rfl rfl (hb hby at_103)
  have V77 : Arv Z h77 b2 k2 (.object "com/example/idlsmith/idlsmith/idl/Builtin") (37 : Int32) [(.ref aBOOLEAN), (.ref aBYTE), (.ref aOCTET), (.ref aSHORT), (.ref aUNSIGNED_SHORT), (.ref aLONG), (.ref aUNSIGNED_LONG), (.ref aLONG_LONG), (.ref aUNSIGNED_LONG_LONG), (.ref aFLOAT), (.ref aUNRESTRICTED_FLOAT), (.ref aDOUBLE), (.ref aUNRESTRICTED_DOUBLE), (.ref aBIGINT), (.ref aDOMSTRING), .null, .null, .null, .null, .null, .null, .null, .null, .null, .null, .null, .null, .null, .null, .null, .null, .null, .null, .null, .null, .null, .null] .null := Arv.set Ar76 q76 S76 M76 H76 G76 rfl W77 14 rfl (Nat.le_of_ble_eq_true rfl)
  have N77 := Fr.snoc X77 N72 g_b2
  have O77 := O72.wr W77 g_b2
  have K77 : Keep h0 h77 [] := K72.wr W77 (Or.inr sz_b2)
  have cn78 := fun (t : State) (kt : Steps p.tables e below (T77.setTop (mkF m 107 #[.val (.int p1), .unset, .unset, .unset] [(.int (15 : Int32)), (.ref b2), (.ref b2)])) t) => cn75 t (by
    refine st77 _ ?_
    show Steps p.tables e below (T77.setTop (mkF m 104 #[.val (.int p1), .unset, .unset, .unset] [(.ref b2)])) _
    refine XS.dup X77.here hx rfl (hb hby at_104) rfl rfl ?_
    show Steps p.tables e below (T77.setTop (mkF m 105 #[.val (.int p1), .unset, .unset, .unset] [(.ref b2), (.ref b2)])) _
    refine XS.bipush X77.here hx rfl (hb hby at_105) ?_
    show Steps p.tables e below (T77.setTop (mkF m 107 #[.val (.int p1), .unset, .unset, .unset] [(.int (15 : Int32)), (.ref b2), (.ref b2)])) _
    exact kt)
  obtain ⟨T79, X79, e79, st79⟩ := getS2 X77 hx hZ hown (host := "") (Or.inl (hw _ (List.mem_of_getElem? (i := 34) rfl))) Via.refl e77 (S_BYTE_STRING.ext O77.2) (g := (mkF m 107 #[.val (.int p1), .unset, .unset, .unset] [(.int (15 : Int32)), (.ref b2), (.ref b2)])) rfl (hb hby at_107)
  have cn80 := fun (t : State) (kt : Steps p.tables e below (T79.setTop (mkF m 110 #[.val (.int p1), .unset, .unset, .unset] [(.ref aBYTE_STRING), (.int (15 : Int32)), (.ref b2), (.ref b2)])) t) => cn78 t (by
    refine st79 _ ?_
    show Steps p.tables e below (T79.setTop (mkF m 110 #[.val (.int p1), .unset, .unset, .unset] [(.ref aBYTE_STRING), (.int (15 : Int32)), (.ref b2), (.ref b2)])) _
    exact kt)
  have Vx81 := V77
  obtain ⟨cl81, Ar81, q81, S81, M81, H81, G81⟩ := Vx81
  have hin81 : ¬ ((15 : Int32) < 0 ∨ cl81.slots.size ≤ ((15 : Int32)).toNatClampNeg) := inb_of S81 ⟨by decide, by decide⟩
  obtain ⟨T82, h82, X82, e82, W82, st82⟩ := stR X79 hx hZ e79 Ar81 (j := (15 : Int32)) hin81 rfl (Sto.ofV Ar81 q81 O_2 (Ins.self (E_BYTE_STRING.ext O77.2))) (g := (mkF m 110 #[.val (.int p1), .unset, .unset, .unset] [(.ref aBYTE_STRING), (.int (15 : Int32)), (.ref b2), (.ref b2)])) rfl rfl (hb hby at_110)
  have V82 : Arv Z h82 b2 k2 (.object "com/example/idlsmith/idlsmith/idl/Builtin") (37 : Int32) [(.ref aBOOLEAN), (.ref aBYTE), (.ref aOCTET), (.ref aSHORT), (.ref aUNSIGNED_SHORT), (.ref aLONG), (.ref aUNSIGNED_LONG), (.ref aLONG_LONG), (.ref aUNSIGNED_LONG_LONG), (.ref aFLOAT), (.ref aUNRESTRICTED_FLOAT), (.ref aDOUBLE), (.ref aUNRESTRICTED_DOUBLE), (.ref aBIGINT), (.ref aDOMSTRING), (.ref aBYTE_STRING), .null, .null, .null, .null, .null, .null, .null, .null, .null, .null, .null, .null, .null, .null, .null, .null, .null, .null, .null, .null, .null] .null := Arv.set Ar81 q81 S81 M81 H81 G81 rfl W82 15 rfl (Nat.le_of_ble_eq_true rfl)
  have N82 := Fr.snoc X82 N77 g_b2
  have O82 := O77.wr W82 g_b2
  have K82 : Keep h0 h82 [] := K77.wr W82 (Or.inr sz_b2)
  have cn83 := fun (t : State) (kt : Steps p.tables e below (T82.setTop (mkF m 114 #[.val (.int p1), .unset, .unset, .unset] [(.int (16 : Int32)), (.ref b2), (.ref b2)])) t) => cn80 t (by
    refine st82 _ ?_
    show Steps p.tables e below (T82.setTop (mkF m 111 #[.val (.int p1), .unset, .unset, .unset] [(.ref b2)])) _
    refine XS.dup X82.here hx rfl (hb hby at_111) rfl rfl ?_
    show Steps p.tables e below (T82.setTop (mkF m 112 #[.val (.int p1), .unset, .unset, .unset] [(.ref b2), (.ref b2)])) _
    refine XS.bipush X82.here hx rfl (hb hby at_112) ?_
    show Steps p.tables e below (T82.setTop (mkF m 114 #[.val (.int p1), .unset, .unset, .unset] [(.int (16 : Int32)), (.ref b2), (.ref b2)])) _
    exact kt)
  obtain ⟨T84, X84, e84, st84⟩ := getS2 X82 hx hZ hown (host := "") (Or.inl (hw _ (List.mem_of_getElem? (i := 36) rfl))) Via.refl e82 (S_USV_STRING.ext O82.2) (g := (mkF m 114 #[.val (.int p1), .unset, .unset, .unset] [(.int (16 : Int32)), (.ref b2), (.ref b2)])) rfl (hb hby at_114)
  have cn85 := fun (t : State) (kt : Steps p.tables e below (T84.setTop (mkF m 117 #[.val (.int p1), .unset, .unset, .unset] [(.ref aUSV_STRING), (.int (16 : Int32)), (.ref b2), (.ref b2)])) t) => cn83 t (by
    refine st84 _ ?_
    show Steps p.tables e below (T84.setTop (mkF m 117 #[.val (.int p1), .unset, .unset, .unset] [(.ref aUSV_STRING), (.int (16 : Int32)), (.ref b2), (.ref b2)])) _
    exact kt)
  have Vx86 := V82
  obtain ⟨cl86, Ar86, q86, S86, M86, H86, G86⟩ := Vx86
  have hin86 : ¬ ((16 : Int32) < 0 ∨ cl86.slots.size ≤ ((16 : Int32)).toNatClampNeg) := inb_of S86 ⟨by decide, by decide⟩
  obtain ⟨T87, h87, X87, e87, W87, st87⟩ := stR X84 hx hZ e84 Ar86 (j := (16 : Int32)) hin86 rfl (Sto.ofV Ar86 q86 O_2 (Ins.self (E_USV_STRING.ext O82.2))) (g := (mkF m 117 #[.val (.int p1), .unset, .unset, .unset] [(.ref aUSV_STRING), (.int (16 : Int32)), (.ref b2), (.ref b2)])) rfl rfl (hb hby at_117)
  have V87 : Arv Z h87 b2 k2 (.object "com/example/idlsmith/idlsmith/idl/Builtin") (37 : Int32) [(.ref aBOOLEAN), (.ref aBYTE), (.ref aOCTET), (.ref aSHORT), (.ref aUNSIGNED_SHORT), (.ref aLONG), (.ref aUNSIGNED_LONG), (.ref aLONG_LONG), (.ref aUNSIGNED_LONG_LONG), (.ref aFLOAT), (.ref aUNRESTRICTED_FLOAT), (.ref aDOUBLE), (.ref aUNRESTRICTED_DOUBLE), (.ref aBIGINT), (.ref aDOMSTRING), (.ref aBYTE_STRING), (.ref aUSV_STRING), .null, .null, .null, .null, .null, .null, .null, .null, .null, .null, .null, .null, .null, .null, .null, .null, .null, .null, .null, .null] .null := Arv.set Ar86 q86 S86 M86 H86 G86 rfl W87 16 rfl (Nat.le_of_ble_eq_true rfl)
  have N87 := Fr.snoc X87 N82 g_b2
  have O87 := O82.wr W87 g_b2
  have K87 : Keep h0 h87 [] := K82.wr W87 (Or.inr sz_b2)
  have cn88 := fun (t : State) (kt : Steps p.tables e below (T87.setTop (mkF m 121 #[.val (.int p1), .unset, .unset, .unset] [(.int (17 : Int32)), (.ref b2), (.ref b2)])) t) => cn85 t (by
    refine st87 _ ?_
    show Steps p.tables e below (T87.setTop (mkF m 118 #[.val (.int p1), .unset, .unset, .unset] [(.ref b2)])) _
    refine XS.dup X87.here hx rfl (hb hby at_118) rfl rfl ?_
    show Steps p.tables e below (T87.setTop (mkF m 119 #[.val (.int p1), .unset, .unset, .unset] [(.ref b2), (.ref b2)])) _
    refine XS.bipush X87.here hx rfl (hb hby at_119) ?_
    show Steps p.tables e below (T87.setTop (mkF m 121 #[.val (.int p1), .unset, .unset, .unset] [(.int (17 : Int32)), (.ref b2), (.ref b2)])) _
    exact kt)
  obtain ⟨T89, X89, e89, st89⟩ := getS2 X87 hx hZ hown (host := "") (Or.inl (hw _ (List.mem_of_getElem? (i := 38) rfl))) Via.refl e87 (S_OBJECT.ext O87.2) (g := (mkF m 121 #[.val (.int p1), .unset, .unset, .unset] [(.int (17 : Int32)), (.ref b2), (.ref b2)])) rfl (hb hby at_121)
  have cn90 := fun (t : State) (kt : Steps p.tables e below (T89.setTop (mkF m 124 #[.val (.int p1), .unset, .unset, .unset] [(.ref aOBJECT), (.int (17 : Int32)), (.ref b2), (.ref b2)])) t) => cn88 t (by
    refine st89 _ ?_
    show Steps p.tables e below (T89.setTop (mkF m 124 #[.val (.int p1), .unset, .unset, .unset] [(.ref aOBJECT), (.int (17 : Int32)), (.ref b2), (.ref b2)])) _
    exact kt)
  have Vx91 := V87
  obtain ⟨cl91, Ar91, q91, S91, M91, H91, G91⟩ := Vx91
  have hin91 : ¬ ((17 : Int32) < 0 ∨ cl91.slots.size ≤ ((17 : Int32)).toNatClampNeg) := inb_of S91 ⟨by decide, by decide⟩
  obtain ⟨T92, h92, X92, e92, W92, st92⟩ := stR X89 hx hZ e89 Ar91 (j := (17 : Int32)) hin91 rfl (Sto.ofV Ar91 q91 O_2 (Ins.self (E_OBJECT.ext O87.2))) (g := (mkF m 124 #[.val (.int p1), .unset, .unset, .unset] [(.ref aOBJECT), (.int (17 : Int32)), (.ref b2), (.ref b2)])) rfl rfl (hb hby at_124)
  have V92 : Arv Z h92 b2 k2 (.object "com/example/idlsmith/idlsmith/idl/Builtin") (37 : Int32) [(.ref aBOOLEAN), (.ref aBYTE), (.ref aOCTET), (.ref aSHORT), (.ref aUNSIGNED_SHORT), (.ref aLONG), (.ref aUNSIGNED_LONG), (.ref aLONG_LONG), (.ref aUNSIGNED_LONG_LONG), (.ref aFLOAT), (.ref aUNRESTRICTED_FLOAT), (.ref aDOUBLE), (.ref aUNRESTRICTED_DOUBLE), (.ref aBIGINT), (.ref aDOMSTRING), (.ref aBYTE_STRING), (.ref aUSV_STRING), (.ref aOBJECT), .null, .null, .null, .null, .null, .null, .null, .null, .null, .null, .null, .null, .null, .null, .null, .null, .null, .null, .null] .null := Arv.set Ar91 q91 S91 M91 H91 G91 rfl W92 17 rfl (Nat.le_of_ble_eq_true rfl)
  have N92 := Fr.snoc X92 N87 g_b2
  have O92 := O87.wr W92 g_b2
  have K92 : Keep h0 h92 [] := K87.wr W92 (Or.inr sz_b2)
  have cn93 := fun (t : State) (kt : Steps p.tables e below (T92.setTop (mkF m 128 #[.val (.int p1), .unset, .unset, .unset] [(.int (18 : Int32)), (.ref b2), (.ref b2)])) t) => cn90 t (by
    refine st92 _ ?_
    show Steps p.tables e below (T92.setTop (mkF m 125 #[.val (.int p1), .unset, .unset, .unset] [(.ref b2)])) _
    refine XS.dup X92.here hx rfl (hb hby at_125) rfl rfl ?_
    show Steps p.tables e below (T92.setTop (mkF m 126 #[.val (.int p1), .unset, .unset, .unset] [(.ref b2), (.ref b2)])) _
    refine XS.bipush X92.here hx rfl (hb hby at_126) ?_
    show Steps p.tables e below (T92.setTop (mkF m 128 #[.val (.int p1), .unset, .unset, .unset] [(.int (18 : Int32)), (.ref b2), (.ref b2)])) _
    exact kt)
  obtain ⟨T94, X94, e94, st94⟩ := getS2 X92 hx hZ hown (host := "") (Or.inl (hw _ (List.mem_of_getElem? (i := 40) rfl))) Via.refl e92 (S_SYMBOL.ext O92.2) (g := (mkF m 128 #[.val (.int p1), .unset, .unset, .unset] [(.int (18 : Int32)), (.ref b2), (.ref b2)])) rfl (hb hby at_128)
  have cn95 := fun (t : State) (kt : Steps p.tables e below (T94.setTop (mkF m 131 #[.val (.int p1), .unset, .unset, .unset] [(.ref aSYMBOL), (.int (18 : Int32)), (.ref b2), (.ref b2)])) t) => cn93 t (by
    refine st94 _ ?_
    show Steps p.tables e below (T94.setTop (mkF m 131 #[.val (.int p1), .unset, .unset, .unset] [(.ref aSYMBOL), (.int (18 : Int32)), (.ref b2), (.ref b2)])) _
    exact kt)
  have Vx96 := V92
  obtain ⟨cl96, Ar96, q96, S96, M96, H96, G96⟩ := Vx96
  have hin96 : ¬ ((18 : Int32) < 0 ∨ cl96.slots.size ≤ ((18 : Int32)).toNatClampNeg) := inb_of S96 ⟨by decide, by decide⟩
  obtain ⟨T97, h97, X97, e97, W97, st97⟩ := stR X94 hx hZ e94 Ar96 (j := (18 : Int32)) hin96 rfl (Sto.ofV Ar96 q96 O_2 (Ins.self (E_SYMBOL.ext O92.2))) (g := (mkF m 131 #[.val (.int p1), .unset, .unset, .unset] [(.ref aSYMBOL), (.int (18 : Int32)), (.ref b2), (.ref b2)])) rfl rfl (hb hby at_131)
  have V97 : Arv Z h97 b2 k2 (.object "com/example/idlsmith/idlsmith/idl/Builtin") (37 : Int32) [(.ref aBOOLEAN), (.ref aBYTE), (.ref aOCTET), (.ref aSHORT), (.ref aUNSIGNED_SHORT), (.ref aLONG), (.ref aUNSIGNED_LONG), (.ref aLONG_LONG), (.ref aUNSIGNED_LONG_LONG), (.ref aFLOAT), (.ref aUNRESTRICTED_FLOAT), (.ref aDOUBLE), (.ref aUNRESTRICTED_DOUBLE), (.ref aBIGINT), (.ref aDOMSTRING), (.ref aBYTE_STRING), (.ref aUSV_STRING), (.ref aOBJECT), (.ref aSYMBOL), .null, .null, .null, .null, .null, .null, .null, .null, .null, .null, .null, .null, .null, .null, .null, .null, .null, .null] .null := Arv.set Ar96 q96 S96 M96 H96 G96 rfl W97 18 rfl (Nat.le_of_ble_eq_true rfl)
  have N97 := Fr.snoc X97 N92 g_b2
  have O97 := O92.wr W97 g_b2
  have K97 : Keep h0 h97 [] := K92.wr W97 (Or.inr sz_b2)
  have cn98 := fun (t : State) (kt : Steps p.tables e below (T97.setTop (mkF m 135 #[.val (.int p1), .unset, .unset, .unset] [(.int (19 : Int32)), (.ref b2), (.ref b2)])) t) => cn95 t (by
    refine st97 _ ?_
    show Steps p.tables e below (T97.setTop (mkF m 132 #[.val (.int p1), .unset, .unset, .unset] [(.ref b2)])) _
    refine XS.dup X97.here hx rfl (hb hby at_132) rfl rfl ?_
    show Steps p.tables e below (T97.setTop (mkF m 133 #[.val (.int p1), .unset, .unset, .unset] [(.ref b2), (.ref b2)])) _
    refine XS.bipush X97.here hx rfl (hb hby at_133) ?_
    show Steps p.tables e below (T97.setTop (mkF m 135 #[.val (.int p1), .unset, .unset, .unset] [(.int (19 : Int32)), (.ref b2), (.ref b2)])) _
    exact kt)
  obtain ⟨T99, X99, e99, st99⟩ := getS2 X97 hx hZ hown (host := "") (Or.inl (hw _ (List.mem_of_getElem? (i := 42) rfl))) Via.refl e97 (S_ANY.ext O97.2) (g := (mkF m 135 #[.val (.int p1), .unset, .unset, .unset] [(.int (19 : Int32)), (.ref b2), (.ref b2)])) rfl (hb hby at_135)
  have cn100 := fun (t : State) (kt : Steps p.tables e below (T99.setTop (mkF m 138 #[.val (.int p1), .unset, .unset, .unset] [(.ref aANY), (.int (19 : Int32)), (.ref b2), (.ref b2)])) t) => cn98 t (by
    refine st99 _ ?_
    show Steps p.tables e below (T99.setTop (mkF m 138 #[.val (.int p1), .unset, .unset, .unset] [(.ref aANY), (.int (19 : Int32)), (.ref b2), (.ref b2)])) _
    exact kt)
  have Vx101 := V97
  obtain ⟨cl101, Ar101, q101, S101, M101, H101, G101⟩ := Vx101
  have hin101 : ¬ ((19 : Int32) < 0 ∨ cl101.slots.size ≤ ((19 : Int32)).toNatClampNeg) := inb_of S101 ⟨by decide, by decide⟩
  obtain ⟨T102, h102, X102, e102, W102, st102⟩ := stR X99 hx hZ e99 Ar101 (j := (19 : Int32)) hin101 rfl (Sto.ofV Ar101 q101 O_2 (Ins.self (E_ANY.ext O97.2))) (g := (mkF m 138 #[.val (.int p1), .unset, .unset, .unset] [(.ref aANY), (.int (19 : Int32)), (.ref b2), (.ref b2)])) rfl rfl (hb hby at_138)
  have V102 : Arv Z h102 b2 k2 (.object "com/example/idlsmith/idlsmith/idl/Builtin") (37 : Int32) [(.ref aBOOLEAN), (.ref aBYTE), (.ref aOCTET), (.ref aSHORT), (.ref aUNSIGNED_SHORT), (.ref aLONG), (.ref aUNSIGNED_LONG), (.ref aLONG_LONG), (.ref aUNSIGNED_LONG_LONG), (.ref aFLOAT), (.ref aUNRESTRICTED_FLOAT), (.ref aDOUBLE), (.ref aUNRESTRICTED_DOUBLE), (.ref aBIGINT), (.ref aDOMSTRING), (.ref aBYTE_STRING), (.ref aUSV_STRING), (.ref aOBJECT), (.ref aSYMBOL), (.ref aANY), .null, .null, .null, .null, .null, .null, .null, .null, .null, .null, .null, .null, .null, .null, .null, .null, .null] .null := Arv.set Ar101 q101 S101 M101 H101 G101 rfl W102 19 rfl (Nat.le_of_ble_eq_true rfl)
  have N102 := Fr.snoc X102 N97 g_b2
  have O102 := O97.wr W102 g_b2
  have K102 : Keep h0 h102 [] := K97.wr W102 (Or.inr sz_b2)
  have cn103 := fun (t : State) (kt : Steps p.tables e below (T102.setTop (mkF m 142 #[.val (.int p1), .unset, .unset, .unset] [(.int (20 : Int32)), (.ref b2), (.ref b2)])) t) => cn100 t (by
    refine st102 _ ?_
    show Steps p.tables e below (T102.setTop (mkF m 139 #[.val (.int p1), .unset, .unset, .unset] [(.ref b2)])) _
    refine XS.dup X102.here hx rfl (hb hby at_139) rfl rfl ?_
    show Steps p.tables e below (T102.setTop (mkF m 140 #[.val (.int p1), .unset, .unset, .unset] [(.ref b2), (.ref b2)])) _
    refine XS.bipush X102.here hx rfl (hb hby at_140) ?_
    show Steps p.tables e below (T102.setTop (mkF m 142 #[.val (.int p1), .unset, .unset, .unset] [(.int (20 : Int32)), (.ref b2), (.ref b2)])) _
    exact kt)
  obtain ⟨T104, X104, e104, st104⟩ := getS2 X102 hx hZ hown (host := "") (Or.inl (hw _ (List.mem_of_getElem? (i := 44) rfl))) Via.refl e102 (S_UNDEFINED.ext O102.2) (g := (mkF m 142 #[.val (.int p1), .unset, .unset, .unset] [(.int (20 : Int32)), (.ref b2), (.ref b2)])) rfl (hb hby at_142)
  have cn105 := fun (t : State) (kt : Steps p.tables e below (T104.setTop (mkF m 145 #[.val (.int p1), .unset, .unset, .unset] [(.ref aUNDEFINED), (.int (20 : Int32)), (.ref b2), (.ref b2)])) t) => cn103 t (by
    refine st104 _ ?_
    show Steps p.tables e below (T104.setTop (mkF m 145 #[.val (.int p1), .unset, .unset, .unset] [(.ref aUNDEFINED), (.int (20 : Int32)), (.ref b2), (.ref b2)])) _
    exact kt)
  have Vx106 := V102
  obtain ⟨cl106, Ar106, q106, S106, M106, H106, G106⟩ := Vx106
  have hin106 : ¬ ((20 : Int32) < 0 ∨ cl106.slots.size ≤ ((20 : Int32)).toNatClampNeg) := inb_of S106 ⟨by decide, by decide⟩
  obtain ⟨T107, h107, X107, e107, W107, st107⟩ := stR X104 hx hZ e104 Ar106 (j := (20 : Int32)) hin106 rfl (Sto.ofV Ar106 q106 O_2 (Ins.self (E_UNDEFINED.ext O102.2))) (g := (mkF m 145 #[.val (.int p1), .unset, .unset, .unset] [(.ref aUNDEFINED), (.int (20 : Int32)), (.ref b2), (.ref b2)])) rfl rfl (hb hby at_145)
  have V107 : Arv Z h107 b2 k2 (.object "com/example/idlsmith/idlsmith/idl/Builtin") (37 : Int32) [(.ref aBOOLEAN), (.ref aBYTE), (.ref aOCTET), (.ref aSHORT), (.ref aUNSIGNED_SHORT), (.ref aLONG), (.ref aUNSIGNED_LONG), (.ref aLONG_LONG), (.ref aUNSIGNED_LONG_LONG), (.ref aFLOAT), (.ref aUNRESTRICTED_FLOAT), (.ref aDOUBLE), (.ref aUNRESTRICTED_DOUBLE), (.ref aBIGINT), (.ref aDOMSTRING), (.ref aBYTE_STRING), (.ref aUSV_STRING), (.ref aOBJECT), (.ref aSYMBOL), (.ref aANY), (.ref aUNDEFINED), .null, .null, .null, .null, .null, .null, .null, .null, .null, .null, .null, .null, .null, .null, .null, .null] .null := Arv.set Ar106 q106 S106 M106 H106 G106 rfl W107 20 rfl (Nat.le_of_ble_eq_true rfl)
  have N107 := Fr.snoc X107 N102 g_b2
  have O107 := O102.wr W107 g_b2
  have K107 : Keep h0 h107 [] := K102.wr W107 (Or.inr sz_b2)
  have cn108 := fun (t : State) (kt : Steps p.tables e below (T107.setTop (mkF m 149 #[.val (.int p1), .unset, .unset, .unset] [(.int (21 : Int32)), (.ref b2), (.ref b2)])) t) => cn105 t (by
    refine st107 _ ?_
    show Steps p.tables e below (T107.setTop (mkF m 146 #[.val (.int p1), .unset, .unset, .unset] [(.ref b2)])) _
    refine XS.dup X107.here hx rfl (hb hby at_146) rfl rfl ?_
    show Steps p.tables e below (T107.setTop (mkF m 147 #[.val (.int p1), .unset, .unset, .unset] [(.ref b2), (.ref b2)])) _
    refine XS.bipush X107.here hx rfl (hb hby at_147) ?_
    show Steps p.tables e below (T107.setTop (mkF m 149 #[.val (.int p1), .unset, .unset, .unset] [(.int (21 : Int32)), (.ref b2), (.ref b2)])) _
    exact kt)
  obtain ⟨T109, X109, e109, st109⟩ := getS2 X107 hx hZ hown (host := "") (Or.inl (hw _ (List.mem_of_getElem? (i := 46) rfl))) Via.refl e107 (S_DATE.ext O107.2) (g := (mkF m 149 #[.val (.int p1), .unset, .unset, .unset] [(.int (21 : Int32)), (.ref b2), (.ref b2)])) rfl (hb hby at_149)
  have cn110 := fun (t : State) (kt : Steps p.tables e below (T109.setTop (mkF m 152 #[.val (.int p1), .unset, .unset, .unset] [(.ref aDATE), (.int (21 : Int32)), (.ref b2), (.ref b2)])) t) => cn108 t (by
    refine st109 _ ?_
    show Steps p.tables e below (T109.setTop (mkF m 152 #[.val (.int p1), .unset, .unset, .unset] [(.ref aDATE), (.int (21 : Int32)), (.ref b2), (.ref b2)])) _
    exact kt)
  have Vx111 := V107
  obtain ⟨cl111, Ar111, q111, S111, M111, H111, G111⟩ := Vx111
  have hin111 : ¬ ((21 : Int32) < 0 ∨ cl111.slots.size ≤ ((21 : Int32)).toNatClampNeg) := inb_of S111 ⟨by decide, by decide⟩
  obtain ⟨T112, h112, X112, e112, W112, st112⟩ := stR X109 hx hZ e109 Ar111 (j := (21 : Int32)) hin111 rfl (Sto.ofV Ar111 q111 O_2 (Ins.self (E_DATE.ext O107.2))) (g := (mkF m 152 #[.val (.int p1), .unset, .unset, .unset] [(.ref aDATE), (.int (21 : Int32)), (.ref b2), (.ref b2)])) rfl rfl (hb hby at_152)
  have V112 : Arv Z h112 b2 k2 (.object "com/example/idlsmith/idlsmith/idl/Builtin") (37 : Int32) [(.ref aBOOLEAN), (.ref aBYTE), (.ref aOCTET), (.ref aSHORT), (.ref aUNSIGNED_SHORT), (.ref aLONG), (.ref aUNSIGNED_LONG), (.ref aLONG_LONG), (.ref aUNSIGNED_LONG_LONG), (.ref aFLOAT), (.ref aUNRESTRICTED_FLOAT), (.ref aDOUBLE), (.ref aUNRESTRICTED_DOUBLE), (.ref aBIGINT), (.ref aDOMSTRING), (.ref aBYTE_STRING), (.ref aUSV_STRING), (.ref aOBJECT), (.ref aSYMBOL), (.ref aANY), (.ref aUNDEFINED), (.ref aDATE), .null, .null, .null, .null, .null, .null, .null, .null, .null, .null, .null, .null, .null, .null, .null] .null := Arv.set Ar111 q111 S111 M111 H111 G111 rfl W112 21 rfl (Nat.le_of_ble_eq_true rfl)
  have N112 := Fr.snoc X112 N107 g_b2
  have O112 := O107.wr W112 g_b2
  have K112 : Keep h0 h112 [] := K107.wr W112 (Or.inr sz_b2)
  have cn113 := fun (t : State) (kt : Steps p.tables e below (T112.setTop (mkF m 156 #[.val (.int p1), .unset, .unset, .unset] [(.int (22 : Int32)), (.ref b2), (.ref b2)])) t) => cn110 t (by
    refine st112 _ ?_
    show Steps p.tables e below (T112.setTop (mkF m 153 #[.val (.int p1), .unset, .unset, .unset] [(.ref b2)])) _
    refine XS.dup X112.here hx rfl (hb hby at_153) rfl rfl ?_
    show Steps p.tables e below (T112.setTop (mkF m 154 #[.val (.int p1), .unset, .unset, .unset] [(.ref b2), (.ref b2)])) _
    refine XS.bipush X112.here hx rfl (hb hby at_154) ?_
    show Steps p.tables e below (T112.setTop (mkF m 156 #[.val (.int p1), .unset, .unset, .unset] [(.int (22 : Int32)), (.ref b2), (.ref b2)])) _
    exact kt)
  obtain ⟨T114, X114, e114, st114⟩ := getS2 X112 hx hZ hown (host := "") (Or.inl (hw _ (List.mem_of_getElem? (i := 48) rfl))) Via.refl e112 (S_ARRAY_BUFFER.ext O112.2) (g := (mkF m 156 #[.val (.int p1), .unset, .unset, .unset] [(.int (22 : Int32)), (.ref b2), (.ref b2)])) rfl (hb hby at_156)
  have cn115 := fun (t : State) (kt : Steps p.tables e below (T114.setTop (mkF m 159 #[.val (.int p1), .unset, .unset, .unset] [(.ref aARRAY_BUFFER), (.int (22 : Int32)), (.ref b2), (.ref b2)])) t) => cn113 t (by
    refine st114 _ ?_
    show Steps p.tables e below (T114.setTop (mkF m 159 #[.val (.int p1), .unset, .unset, .unset] [(.ref aARRAY_BUFFER), (.int (22 : Int32)), (.ref b2), (.ref b2)])) _
    exact kt)
  have Vx116 := V112
  obtain ⟨cl116, Ar116, q116, S116, M116, H116, G116⟩ := Vx116
  have hin116 : ¬ ((22 : Int32) < 0 ∨ cl116.slots.size ≤ ((22 : Int32)).toNatClampNeg) := inb_of S116 ⟨by decide, by decide⟩
  obtain ⟨T117, h117, X117, e117, W117, st117⟩ := stR X114 hx hZ e114 Ar116 (j := (22 : Int32)) hin116 rfl (Sto.ofV Ar116 q116 O_2 (Ins.self (E_ARRAY_BUFFER.ext O112.2))) (g := (mkF m 159 #[.val (.int p1), .unset, .unset, .unset] [(.ref aARRAY_BUFFER), (.int (22 : Int32)), (.ref b2), (.ref b2)])) rfl rfl (hb hby at_159)
  have V117 : Arv Z h117 b2 k2 (.object "com/example/idlsmith/idlsmith/idl/Builtin") (37 : Int32) [(.ref aBOOLEAN), (.ref aBYTE), (.ref aOCTET), (.ref aSHORT), (.ref aUNSIGNED_SHORT), (.ref aLONG), (.ref aUNSIGNED_LONG), (.ref aLONG_LONG), (.ref aUNSIGNED_LONG_LONG), (.ref aFLOAT), (.ref aUNRESTRICTED_FLOAT), (.ref aDOUBLE), (.ref aUNRESTRICTED_DOUBLE), (.ref aBIGINT), (.ref aDOMSTRING), (.ref aBYTE_STRING), (.ref aUSV_STRING), (.ref aOBJECT), (.ref aSYMBOL), (.ref aANY), (.ref aUNDEFINED), (.ref aDATE), (.ref aARRAY_BUFFER), .null, .null, .null, .null, .null, .null, .null, .null, .null, .null, .null, .null, .null, .null] .null := Arv.set Ar116 q116 S116 M116 H116 G116 rfl W117 22 rfl (Nat.le_of_ble_eq_true rfl)
  have N117 := Fr.snoc X117 N112 g_b2
  have O117 := O112.wr W117 g_b2
  have K117 : Keep h0 h117 [] := K112.wr W117 (Or.inr sz_b2)
  have cn118 := fun (t : State) (kt : Steps p.tables e below (T117.setTop (mkF m 163 #[.val (.int p1), .unset, .unset, .unset] [(.int (23 : Int32)), (.ref b2), (.ref b2)])) t) => cn115 t (by
    refine st117 _ ?_
    show Steps p.tables e below (T117.setTop (mkF m 160 #[.val (.int p1), .unset, .unset, .unset] [(.ref b2)])) _
    refine XS.dup X117.here hx rfl (hb hby at_160) rfl rfl ?_
    show Steps p.tables e below (T117.setTop (mkF m 161 #[.val (.int p1), .unset, .unset, .unset] [(.ref b2), (.ref b2)])) _
    refine XS.bipush X117.here hx rfl (hb hby at_161) ?_
    show Steps p.tables e below (T117.setTop (mkF m 163 #[.val (.int p1), .unset, .unset, .unset] [(.int (23 : Int32)), (.ref b2), (.ref b2)])) _
    exact kt)
  obtain ⟨T119, X119, e119, st119⟩ := getS2 X117 hx hZ hown (host := "") (Or.inl (hw _ (List.mem_of_getElem? (i := 50) rfl))) Via.refl e117 (S_SHARED_ARRAY_BUFFER.ext O117.2) (g := (mkF m 163 #[.val (.int p1), .unset, .unset, .unset] [(.int (23 : Int32)), (.ref b2), (.ref b2)])) rfl (hb hby at_163)
  have cn120 := fun (t : State) (kt : Steps p.tables e below (T119.setTop (mkF m 166 #[.val (.int p1), .unset, .unset, .unset] [(.ref aSHARED_ARRAY_BUFFER), (.int (23 : Int32)), (.ref b2), (.ref b2)])) t) => cn118 t (by
    refine st119 _ ?_
    show Steps p.tables e below (T119.setTop (mkF m 166 #[.val (.int p1), .unset, .unset, .unset] [(.ref aSHARED_ARRAY_BUFFER), (.int (23 : Int32)), (.ref b2), (.ref b2)])) _
    exact kt)
  have Vx121 := V117
  obtain ⟨cl121, Ar121, q121, S121, M121, H121, G121⟩ := Vx121
  have hin121 : ¬ ((23 : Int32) < 0 ∨ cl121.slots.size ≤ ((23 : Int32)).toNatClampNeg) := inb_of S121 ⟨by decide, by decide⟩
  obtain ⟨T122, h122, X122, e122, W122, st122⟩ := stR X119 hx hZ e119 Ar121 (j := (23 : Int32)) hin121 rfl (Sto.ofV Ar121 q121 O_2 (Ins.self (E_SHARED_ARRAY_BUFFER.ext O117.2))) (g := (mkF m 166 #[.val (.int p1), .unset, .unset, .unset] [(.ref aSHARED_ARRAY_BUFFER), (.int (23 : Int32)), (.ref b2), (.ref b2)])) rfl rfl (hb hby at_166)
  have V122 : Arv Z h122 b2 k2 (.object "com/example/idlsmith/idlsmith/idl/Builtin") (37 : Int32) [(.ref aBOOLEAN), (.ref aBYTE), (.ref aOCTET), (.ref aSHORT), (.ref aUNSIGNED_SHORT), (.ref aLONG), (.ref aUNSIGNED_LONG), (.ref aLONG_LONG), (.ref aUNSIGNED_LONG_LONG), (.ref aFLOAT), (.ref aUNRESTRICTED_FLOAT), (.ref aDOUBLE), (.ref aUNRESTRICTED_DOUBLE), (.ref aBIGINT), (.ref aDOMSTRING), (.ref aBYTE_STRING), (.ref aUSV_STRING), (.ref aOBJECT), (.ref aSYMBOL), (.ref aANY), (.ref aUNDEFINED), (.ref aDATE), (.ref aARRAY_BUFFER), (.ref aSHARED_ARRAY_BUFFER), .null, .null, .null, .null, .null, .null, .null, .null, .null, .null, .null, .null, .null] .null := Arv.set Ar121 q121 S121 M121 H121 G121 rfl W122 23 rfl (Nat.le_of_ble_eq_true rfl)
  have N122 := Fr.snoc X122 N117 g_b2
  have O122 := O117.wr W122 g_b2
  have K122 : Keep h0 h122 [] := K117.wr W122 (Or.inr sz_b2)
  have cn123 := fun (t : State) (kt : Steps p.tables e below (T122.setTop (mkF m 170 #[.val (.int p1), .unset, .unset, .unset] [(.int (24 : Int32)), (.ref b2), (.ref b2)])) t) => cn120 t (by
    refine st122 _ ?_
    show Steps p.tables e below (T122.setTop (mkF m 167 #[.val (.int p1), .unset, .unset, .unset] [(.ref b2)])) _
    refine XS.dup X122.here hx rfl (hb hby at_167) rfl rfl ?_
    show Steps p.tables e below (T122.setTop (mkF m 168 #[.val (.int p1), .unset, .unset, .unset] [(.ref b2), (.ref b2)])) _
    refine XS.bipush X122.here hx rfl (hb hby at_168) ?_
    show Steps p.tables e below (T122.setTop (mkF m 170 #[.val (.int p1), .unset, .unset, .unset] [(.int (24 : Int32)), (.ref b2), (.ref b2)])) _
    exact kt)
  obtain ⟨T124, X124, e124, st124⟩ := getS2 X122 hx hZ hown (host := "") (Or.inl (hw _ (List.mem_of_getElem? (i := 52) rfl))) Via.refl e122 (S_DATA_VIEW.ext O122.2) (g := (mkF m 170 #[.val (.int p1), .unset, .unset, .unset] [(.int (24 : Int32)), (.ref b2), (.ref b2)])) rfl (hb hby at_170)
  have cn125 := fun (t : State) (kt : Steps p.tables e below (T124.setTop (mkF m 173 #[.val (.int p1), .unset, .unset, .unset] [(.ref aDATA_VIEW), (.int (24 : Int32)), (.ref b2), (.ref b2)])) t) => cn123 t (by
    refine st124 _ ?_
    show Steps p.tables e below (T124.setTop (mkF m 173 #[.val (.int p1), .unset, .unset, .unset] [(.ref aDATA_VIEW), (.int (24 : Int32)), (.ref b2), (.ref b2)])) _
    exact kt)
  have Vx126 := V122
  obtain ⟨cl126, Ar126, q126, S126, M126, H126, G126⟩ := Vx126
  have hin126 : ¬ ((24 : Int32) < 0 ∨ cl126.slots.size ≤ ((24 : Int32)).toNatClampNeg) := inb_of S126 ⟨by decide, by decide⟩
  obtain ⟨T127, h127, X127, e127, W127, st127⟩ := stR X124 hx hZ e124 Ar126 (j := (24 : Int32)) hin126 rfl (Sto.ofV Ar126 q126 O_2 (Ins.self (E_DATA_VIEW.ext O122.2))) (g := (mkF m 173 #[.val (.int p1), .unset, .unset, .unset] [(.ref aDATA_VIEW), (.int (24 : Int32)), (.ref b2), (.ref b2)])) rfl rfl (hb hby at_173)
  have V127 : Arv Z h127 b2 k2 (.object "com/example/idlsmith/idlsmith/idl/Builtin") (37 : Int32) [(.ref aBOOLEAN), (.ref aBYTE), (.ref aOCTET), (.ref aSHORT), (.ref aUNSIGNED_SHORT), (.ref aLONG), (.ref aUNSIGNED_LONG), (.ref aLONG_LONG), (.ref aUNSIGNED_LONG_LONG), (.ref aFLOAT), (.ref aUNRESTRICTED_FLOAT), (.ref aDOUBLE), (.ref aUNRESTRICTED_DOUBLE), (.ref aBIGINT), (.ref aDOMSTRING), (.ref aBYTE_STRING), (.ref aUSV_STRING), (.ref aOBJECT), (.ref aSYMBOL), (.ref aANY), (.ref aUNDEFINED), (.ref aDATE), (.ref aARRAY_BUFFER), (.ref aSHARED_ARRAY_BUFFER), (.ref aDATA_VIEW), .null, .null, .null, .null, .null, .null, .null, .null, .null, .null, .null, .null] .null := Arv.set Ar126 q126 S126 M126 H126 G126 rfl W127 24 rfl (Nat.le_of_ble_eq_true rfl)
  have N127 := Fr.snoc X127 N122 g_b2
  have O127 := O122.wr W127 g_b2
  have K127 : Keep h0 h127 [] := K122.wr W127 (Or.inr sz_b2)
  have cn128 := fun (t : State) (kt : Steps p.tables e below (T127.setTop (mkF m 177 #[.val (.int p1), .unset, .unset, .unset] [(.int (25 : Int32)), (.ref b2), (.ref b2)])) t) => cn125 t (by
    refine st127 _ ?_
    show Steps p.tables e below (T127.setTop (mkF m 174 #[.val (.int p1), .unset, .unset, .unset] [(.ref b2)])) _
    refine XS.dup X127.here hx rfl (hb hby at_174) rfl rfl ?_
    show Steps p.tables e below (T127.setTop (mkF m 175 #[.val (.int p1), .unset, .unset, .unset] [(.ref b2), (.ref b2)])) _
    refine XS.bipush X127.here hx rfl (hb hby at_175) ?_
    show Steps p.tables e below (T127.setTop (mkF m 177 #[.val (.int p1), .unset, .unset, .unset] [(.int (25 : Int32)), (.ref b2), (.ref b2)])) _
    exact kt)
  obtain ⟨T129, X129, e129, st129⟩ := getS2 X127 hx hZ hown (host := "") (Or.inl (hw _ (List.mem_of_getElem? (i := 54) rfl))) Via.refl e127 (S_INT8_ARRAY.ext O127.2) (g := (mkF m 177 #[.val (.int p1), .unset, .unset, .unset] [(.int (25 : Int32)), (.ref b2), (.ref b2)])) rfl (hb hby at_177)
  have cn130 := fun (t : State) (kt : Steps p.tables e below (T129.setTop (mkF m 180 #[.val (.int p1), .unset, .unset, .unset] [(.ref aINT8_ARRAY), (.int (25 : Int32)), (.ref b2), (.ref b2)])) t) => cn128 t (by
    refine st129 _ ?_
    show Steps p.tables e below (T129.setTop (mkF m 180 #[.val (.int p1), .unset, .unset, .unset] [(.ref aINT8_ARRAY), (.int (25 : Int32)), (.ref b2), (.ref b2)])) _
    exact kt)
  have Vx131 := V127
  obtain ⟨cl131, Ar131, q131, S131, M131, H131, G131⟩ := Vx131
  have hin131 : ¬ ((25 : Int32) < 0 ∨ cl131.slots.size ≤ ((25 : Int32)).toNatClampNeg) := inb_of S131 ⟨by decide, by decide⟩
  obtain ⟨T132, h132, X132, e132, W132, st132⟩ := stR X129 hx hZ e129 Ar131 (j := (25 : Int32)) hin131 rfl (Sto.ofV Ar131 q131 O_2 (Ins.self (E_INT8_ARRAY.ext O127.2))) (g := (mkF m 180 #[.val (.int p1), .unset, .unset, .unset] [(.ref aINT8_ARRAY), (.int (25 : Int32)), (.ref b2), (.ref b2)])) rfl rfl (hb hby at_180)
  have V132 : Arv Z h132 b2 k2 (.object "com/example/idlsmith/idlsmith/idl/Builtin") (37 : Int32) [(.ref aBOOLEAN), (.ref aBYTE), (.ref aOCTET), (.ref aSHORT), (.ref aUNSIGNED_SHORT), (.ref aLONG), (.ref aUNSIGNED_LONG), (.ref aLONG_LONG), (.ref aUNSIGNED_LONG_LONG), (.ref aFLOAT), (.ref aUNRESTRICTED_FLOAT), (.ref aDOUBLE), (.ref aUNRESTRICTED_DOUBLE), (.ref aBIGINT), (.ref aDOMSTRING), (.ref aBYTE_STRING), (.ref aUSV_STRING), (.ref aOBJECT), (.ref aSYMBOL), (.ref aANY), (.ref aUNDEFINED), (.ref aDATE), (.ref aARRAY_BUFFER), (.ref aSHARED_ARRAY_BUFFER), (.ref aDATA_VIEW), (.ref aINT8_ARRAY), .null, .null, .null, .null, .null, .null, .null, .null, .null, .null, .null] .null := Arv.set Ar131 q131 S131 M131 H131 G131 rfl W132 25 rfl (Nat.le_of_ble_eq_true rfl)
  have N132 := Fr.snoc X132 N127 g_b2
  have O132 := O127.wr W132 g_b2
  have K132 : Keep h0 h132 [] := K127.wr W132 (Or.inr sz_b2)
  have cn133 := fun (t : State) (kt : Steps p.tables e below (T132.setTop (mkF m 184 #[.val (.int p1), .unset, .unset, .unset] [(.int (26 : Int32)), (.ref b2), (.ref b2)])) t) => cn130 t (by
    refine st132 _ ?_
    show Steps p.tables e below (T132.setTop (mkF m 181 #[.val (.int p1), .unset, .unset, .unset] [(.ref b2)])) _
    refine XS.dup X132.here hx rfl (hb hby at_181) rfl rfl ?_
    show Steps p.tables e below (T132.setTop (mkF m 182 #[.val (.int p1), .unset, .unset, .unset] [(.ref b2), (.ref b2)])) _
    refine XS.bipush X132.here hx rfl (hb hby at_182) ?_
    show Steps p.tables e below (T132.setTop (mkF m 184 #[.val (.int p1), .unset, .unset, .unset] [(.int (26 : Int32)), (.ref b2), (.ref b2)])) _
    exact kt)
  obtain ⟨T134, X134, e134, st134⟩ := getS2 X132 hx hZ hown (host := "") (Or.inl (hw _ (List.mem_of_getElem? (i := 56) rfl))) Via.refl e132 (S_INT16_ARRAY.ext O132.2) (g := (mkF m 184 #[.val (.int p1), .unset, .unset, .unset] [(.int (26 : Int32)), (.ref b2), (.ref b2)])) rfl (hb hby at_184)
  have cn135 := fun (t : State) (kt : Steps p.tables e below (T134.setTop (mkF m 187 #[.val (.int p1), .unset, .unset, .unset] [(.ref aINT16_ARRAY), (.int (26 : Int32)), (.ref b2), (.ref b2)])) t) => cn133 t (by
    refine st134 _ ?_
    show Steps p.tables e below (T134.setTop (mkF m 187 #[.val (.int p1), .unset, .unset, .unset] [(.ref aINT16_ARRAY), (.int (26 : Int32)), (.ref b2), (.ref b2)])) _
    exact kt)
  have Vx136 := V132
  obtain ⟨cl136, Ar136, q136, S136, M136, H136, G136⟩ := Vx136
  have hin136 : ¬ ((26 : Int32) < 0 ∨ cl136.slots.size ≤ ((26 : Int32)).toNatClampNeg) := inb_of S136 ⟨by decide, by decide⟩
  obtain ⟨T137, h137, X137, e137, W137, st137⟩ := stR X134 hx hZ e134 Ar136 (j := (26 : Int32)) hin136 rfl (Sto.ofV Ar136 q136 O_2 (Ins.self (E_INT16_ARRAY.ext O132.2))) (g := (mkF m 187 #[.val (.int p1), .unset, .unset, .unset] [(.ref aINT16_ARRAY), (.int (26 : Int32)), (.ref b2), (.ref b2)])) rfl rfl (hb hby at_187)
  have V137 : Arv Z h137 b2 k2 (.object "com/example/idlsmith/idlsmith/idl/Builtin") (37 : Int32) [(.ref aBOOLEAN), (.ref aBYTE), (.ref aOCTET), (.ref aSHORT), (.ref aUNSIGNED_SHORT), (.ref aLONG), (.ref aUNSIGNED_LONG), (.ref aLONG_LONG), (.ref aUNSIGNED_LONG_LONG), (.ref aFLOAT), (.ref aUNRESTRICTED_FLOAT), (.ref aDOUBLE), (.ref aUNRESTRICTED_DOUBLE), (.ref aBIGINT), (.ref aDOMSTRING), (.ref aBYTE_STRING), (.ref aUSV_STRING), (.ref aOBJECT), (.ref aSYMBOL), (.ref aANY), (.ref aUNDEFINED), (.ref aDATE), (.ref aARRAY_BUFFER), (.ref aSHARED_ARRAY_BUFFER), (.ref aDATA_VIEW), (.ref aINT8_ARRAY), (.ref aINT16_ARRAY), .null, .null, .null, .null, .null, .null, .null, .null, .null, .null] .null := Arv.set Ar136 q136 S136 M136 H136 G136 rfl W137 26 rfl (Nat.le_of_ble_eq_true rfl)
  have N137 := Fr.snoc X137 N132 g_b2
  have O137 := O132.wr W137 g_b2
  have K137 : Keep h0 h137 [] := K132.wr W137 (Or.inr sz_b2)
  have cn138 := fun (t : State) (kt : Steps p.tables e below (T137.setTop (mkF m 191 #[.val (.int p1), .unset, .unset, .unset] [(.int (27 : Int32)), (.ref b2), (.ref b2)])) t) => cn135 t (by
    refine st137 _ ?_
    show Steps p.tables e below (T137.setTop (mkF m 188 #[.val (.int p1), .unset, .unset, .unset] [(.ref b2)])) _
    refine XS.dup X137.here hx rfl (hb hby at_188) rfl rfl ?_
    show Steps p.tables e below (T137.setTop (mkF m 189 #[.val (.int p1), .unset, .unset, .unset] [(.ref b2), (.ref b2)])) _
    refine XS.bipush X137.here hx rfl (hb hby at_189) ?_
    show Steps p.tables e below (T137.setTop (mkF m 191 #[.val (.int p1), .unset, .unset, .unset] [(.int (27 : Int32)), (.ref b2), (.ref b2)])) _
    exact kt)
  obtain ⟨T139, X139, e139, st139⟩ := getS2 X137 hx hZ hown (host := "") (Or.inl (hw _ (List.mem_of_getElem? (i := 58) rfl))) Via.refl e137 (S_INT32_ARRAY.ext O137.2) (g := (mkF m 191 #[.val (.int p1), .unset, .unset, .unset] [(.int (27 : Int32)), (.ref b2), (.ref b2)])) rfl (hb hby at_191)
  have cn140 := fun (t : State) (kt : Steps p.tables e below (T139.setTop (mkF m 194 #[.val (.int p1), .unset, .unset, .unset] [(.ref aINT32_ARRAY), (.int (27 : Int32)), (.ref b2), (.ref b2)])) t) => cn138 t (by
    refine st139 _ ?_
    show Steps p.tables e below (T139.setTop (mkF m 194 #[.val (.int p1), .unset, .unset, .unset] [(.ref aINT32_ARRAY), (.int (27 : Int32)), (.ref b2), (.ref b2)])) _
    exact kt)
  have Vx141 := V137
  obtain ⟨cl141, Ar141, q141, S141, M141, H141, G141⟩ := Vx141
  have hin141 : ¬ ((27 : Int32) < 0 ∨ cl141.slots.size ≤ ((27 : Int32)).toNatClampNeg) := inb_of S141 ⟨by decide, by decide⟩
  obtain ⟨T142, h142, X142, e142, W142, st142⟩ := stR X139 hx hZ e139 Ar141 (j := (27 : Int32)) hin141 rfl (Sto.ofV Ar141 q141 O_2 (Ins.self (E_INT32_ARRAY.ext O137.2))) (g := (mkF m 194 #[.val (.int p1), .unset, .unset, .unset] [(.ref aINT32_ARRAY), (.int (27 : Int32)), (.ref b2), (.ref b2)])) rfl rfl (hb hby at_194)
  have V142 : Arv Z h142 b2 k2 (.object "com/example/idlsmith/idlsmith/idl/Builtin") (37 : Int32) [(.ref aBOOLEAN), (.ref aBYTE), (.ref aOCTET), (.ref aSHORT), (.ref aUNSIGNED_SHORT), (.ref aLONG), (.ref aUNSIGNED_LONG), (.ref aLONG_LONG), (.ref aUNSIGNED_LONG_LONG), (.ref aFLOAT), (.ref aUNRESTRICTED_FLOAT), (.ref aDOUBLE), (.ref aUNRESTRICTED_DOUBLE), (.ref aBIGINT), (.ref aDOMSTRING), (.ref aBYTE_STRING), (.ref aUSV_STRING), (.ref aOBJECT), (.ref aSYMBOL), (.ref aANY), (.ref aUNDEFINED), (.ref aDATE), (.ref aARRAY_BUFFER), (.ref aSHARED_ARRAY_BUFFER), (.ref aDATA_VIEW), (.ref aINT8_ARRAY), (.ref aINT16_ARRAY), (.ref aINT32_ARRAY), .null, .null, .null, .null, .null, .null, .null, .null, .null] .null := Arv.set Ar141 q141 S141 M141 H141 G141 rfl W142 27 rfl (Nat.le_of_ble_eq_true rfl)
  have N142 := Fr.snoc X142 N137 g_b2
  have O142 := O137.wr W142 g_b2
  have K142 : Keep h0 h142 [] := K137.wr W142 (Or.inr sz_b2)
  have cn143 := fun (t : State) (kt : Steps p.tables e below (T142.setTop (mkF m 198 #[.val (.int p1), .unset, .unset, .unset] [(.int (28 : Int32)), (.ref b2), (.ref b2)])) t) => cn140 t (by
    refine st142 _ ?_
    show Steps p.tables e below (T142.setTop (mkF m 195 #[.val (.int p1), .unset, .unset, .unset] [(.ref b2)])) _
    refine XS.dup X142.here hx rfl (hb hby at_195) rfl rfl ?_
    show Steps p.tables e below (T142.setTop (mkF m 196 #[.val (.int p1), .unset, .unset, .unset] [(.ref b2), (.ref b2)])) _
    refine XS.bipush X142.here hx rfl (hb hby at_196) ?_
    show Steps p.tables e below (T142.setTop (mkF m 198 #[.val (.int p1), .unset, .unset, .unset] [(.int (28 : Int32)), (.ref b2), (.ref b2)])) _
    exact kt)
  obtain ⟨T144, X144, e144, st144⟩ := getS2 X142 hx hZ hown (host := "") (Or.inl (hw _ (List.mem_of_getElem? (i := 60) rfl))) Via.refl e142 (S_UINT8_ARRAY.ext O142.2) (g := (mkF m 198 #[.val (.int p1), .unset, .unset, .unset] [(.int (28 : Int32)), (.ref b2), (.ref b2)])) rfl (hb hby at_198)
  have cn145 := fun (t : State) (kt : Steps p.tables e below (T144.setTop (mkF m 201 #[.val (.int p1), .unset, .unset, .unset] [(.ref aUINT8_ARRAY), (.int (28 : Int32)), (.ref b2), (.ref b2)])) t) => cn143 t (by
    refine st144 _ ?_
    show Steps p.tables e below (T144.setTop (mkF m 201 #[.val (.int p1), .unset, .unset, .unset] [(.ref aUINT8_ARRAY), (.int (28 : Int32)), (.ref b2), (.ref b2)])) _
    exact kt)
  have Vx146 := V142
  obtain ⟨cl146, Ar146, q146, S146, M146, H146, G146⟩ := Vx146
  have hin146 : ¬ ((28 : Int32) < 0 ∨ cl146.slots.size ≤ ((28 : Int32)).toNatClampNeg) := inb_of S146 ⟨by decide, by decide⟩
  obtain ⟨T147, h147, X147, e147, W147, st147⟩ := stR X144 hx hZ e144 Ar146 (j := (28 : Int32)) hin146 rfl (Sto.ofV Ar146 q146 O_2 (Ins.self (E_UINT8_ARRAY.ext O142.2))) (g := (mkF m 201 #[.val (.int p1), .unset, .unset, .unset] [(.ref aUINT8_ARRAY), (.int (28 : Int32)), (.ref b2), (.ref b2)])) rfl rfl (hb hby at_201)
  have V147 : Arv Z h147 b2 k2 (.object "com/example/idlsmith/idlsmith/idl/Builtin") (37 : Int32) [(.ref aBOOLEAN), (.ref aBYTE), (.ref aOCTET), (.ref aSHORT), (.ref aUNSIGNED_SHORT), (.ref aLONG), (.ref aUNSIGNED_LONG), (.ref aLONG_LONG), (.ref aUNSIGNED_LONG_LONG), (.ref aFLOAT), (.ref aUNRESTRICTED_FLOAT), (.ref aDOUBLE), (.ref aUNRESTRICTED_DOUBLE), (.ref aBIGINT), (.ref aDOMSTRING), (.ref aBYTE_STRING), (.ref aUSV_STRING), (.ref aOBJECT), (.ref aSYMBOL), (.ref aANY), (.ref aUNDEFINED), (.ref aDATE), (.ref aARRAY_BUFFER), (.ref aSHARED_ARRAY_BUFFER), (.ref aDATA_VIEW), (.ref aINT8_ARRAY), (.ref aINT16_ARRAY), (.ref aINT32_ARRAY), (.ref aUINT8_ARRAY), .null, .null, .null, .null, .null, .null, .null, .null] .null := Arv.set Ar146 q146 S146 M146 H146 G146 rfl W147 28 rfl (Nat.le_of_ble_eq_true rfl)
  have N147 := Fr.snoc X147 N142 g_b2
  have O147 := O142.wr W147 g_b2
  have K147 : Keep h0 h147 [] := K142.wr W147 (Or.inr sz_b2)
  have cn148 := fun (t : State) (kt : Steps p.tables e below (T147.setTop (mkF m 205 #[.val (.int p1), .unset, .unset, .unset] [(.int (29 : Int32)), (.ref b2), (.ref b2)])) t) => cn145 t (by
    refine st147 _ ?_
    show Steps p.tables e below (T147.setTop (mkF m 202 #[.val (.int p1), .unset, .unset, .unset] [(.ref b2)])) _
    refine XS.dup X147.here hx rfl (hb hby at_202) rfl rfl ?_
    show Steps p.tables e below (T147.setTop (mkF m 203 #[.val (.int p1), .unset, .unset, .unset] [(.ref b2), (.ref b2)])) _
    refine XS.bipush X147.here hx rfl (hb hby at_203) ?_
    show Steps p.tables e below (T147.setTop (mkF m 205 #[.val (.int p1), .unset, .unset, .unset] [(.int (29 : Int32)), (.ref b2), (.ref b2)])) _
    exact kt)
  obtain ⟨T149, X149, e149, st149⟩ := getS2 X147 hx hZ hown (host := "") (Or.inl (hw _ (List.mem_of_getElem? (i := 62) rfl))) Via.refl e147 (S_UINT16_ARRAY.ext O147.2) (g := (mkF m 205 #[.val (.int p1), .unset, .unset, .unset] [(.int (29 : Int32)), (.ref b2), (.ref b2)])) rfl (hb hby at_205)
  have cn150 := fun (t : State) (kt : Steps p.tables e below (T149.setTop (mkF m 208 #[.val (.int p1), .unset, .unset, .unset] [(.ref aUINT16_ARRAY), (.int (29 : Int32)), (.ref b2), (.ref b2)])) t) => cn148 t (by
    refine st149 _ ?_
    show Steps p.tables e below (T149.setTop (mkF m 208 #[.val (.int p1), .unset, .unset, .unset] [(.ref aUINT16_ARRAY), (.int (29 : Int32)), (.ref b2), (.ref b2)])) _
    exact kt)
  have Vx151 := V147
  obtain ⟨cl151, Ar151, q151, S151, M151, H151, G151⟩ := Vx151
  have hin151 : ¬ ((29 : Int32) < 0 ∨ cl151.slots.size ≤ ((29 : Int32)).toNatClampNeg) := inb_of S151 ⟨by decide, by decide⟩
  obtain ⟨T152, h152, X152, e152, W152, st152⟩ := stR X149 hx hZ e149 Ar151 (j := (29 : Int32)) hin151 rfl (Sto.ofV Ar151 q151 O_2 (Ins.self (E_UINT16_ARRAY.ext O147.2))) (g := (mkF m 208 #[.val (.int p1), .unset, .unset, .unset] [(.ref aUINT16_ARRAY), (.int (29 : Int32)), (.ref b2), (.ref b2)])) rfl rfl (hb hby at_208)
  have V152 : Arv Z h152 b2 k2 (.object "com/example/idlsmith/idlsmith/idl/Builtin") (37 : Int32) [(.ref aBOOLEAN), (.ref aBYTE), (.ref aOCTET), (.ref aSHORT), (.ref aUNSIGNED_SHORT), (.ref aLONG), (.ref aUNSIGNED_LONG), (.ref aLONG_LONG), (.ref aUNSIGNED_LONG_LONG), (.ref aFLOAT), (.ref aUNRESTRICTED_FLOAT), (.ref aDOUBLE), (.ref aUNRESTRICTED_DOUBLE), (.ref aBIGINT), (.ref aDOMSTRING), (.ref aBYTE_STRING), (.ref aUSV_STRING), (.ref aOBJECT), (.ref aSYMBOL), (.ref aANY), (.ref aUNDEFINED), (.ref aDATE), (.ref aARRAY_BUFFER), (.ref aSHARED_ARRAY_BUFFER), (.ref aDATA_VIEW), (.ref aINT8_ARRAY), (.ref aINT16_ARRAY), (.ref aINT32_ARRAY), (.ref aUINT8_ARRAY), (.ref aUINT16_ARRAY), .null, .null, .null, .null, .null, .null, .null] .null := Arv.set Ar151 q151 S151 M151 H151 G151 rfl W152 29 rfl (Nat.le_of_ble_eq_true rfl)
  have N152 := Fr.snoc X152 N147 g_b2
  have O152 := O147.wr W152 g_b2
  have K152 : Keep h0 h152 [] := K147.wr W152 (Or.inr sz_b2)
  have cn153 := fun (t : State) (kt : Steps p.tables e below (T152.setTop (mkF m 212 #[.val (.int p1), .unset, .unset, .unset] [(.int (30 : Int32)), (.ref b2), (.ref b2)])) t) => cn150 t (by
    refine st152 _ ?_
    show Steps p.tables e below (T152.setTop (mkF m 209 #[.val (.int p1), .unset, .unset, .unset] [(.ref b2)])) _
    refine XS.dup X152.here hx rfl (hb hby at_209) rfl rfl ?_
    show Steps p.tables e below (T152.setTop (mkF m 210 #[.val (.int p1), .unset, .unset, .unset] [(.ref b2), (.ref b2)])) _
    refine XS.bipush X152.here hx rfl (hb hby at_210) ?_
    show Steps p.tables e below (T152.setTop (mkF m 212 #[.val (.int p1), .unset, .unset, .unset] [(.int (30 : Int32)), (.ref b2), (.ref b2)])) _
    exact kt)
  obtain ⟨T154, X154, e154, st154⟩ := getS2 X152 hx hZ hown (host := "") (Or.inl (hw _ (List.mem_of_getElem? (i := 64) rfl))) Via.refl e152 (S_UINT32_ARRAY.ext O152.2) (g := (mkF m 212 #[.val (.int p1), .unset, .unset, .unset] [(.int (30 : Int32)), (.ref b2), (.ref b2)])) rfl (hb hby at_212)
  have cn155 := fun (t : State) (kt : Steps p.tables e below (T154.setTop (mkF m 215 #[.val (.int p1), .unset, .unset, .unset] [(.ref aUINT32_ARRAY), (.int (30 : Int32)), (.ref b2), (.ref b2)])) t) => cn153 t (by
    refine st154 _ ?_
    show Steps p.tables e below (T154.setTop (mkF m 215 #[.val (.int p1), .unset, .unset, .unset] [(.ref aUINT32_ARRAY), (.int (30 : Int32)), (.ref b2), (.ref b2)])) _
    exact kt)
  have Vx156 := V152
  obtain ⟨cl156, Ar156, q156, S156, M156, H156, G156⟩ := Vx156
  have hin156 : ¬ ((30 : Int32) < 0 ∨ cl156.slots.size ≤ ((30 : Int32)).toNatClampNeg) := inb_of S156 ⟨by decide, by decide⟩
  obtain ⟨T157, h157, X157, e157, W157, st157⟩ := stR X154 hx hZ e154 Ar156 (j := (30 : Int32)) hin156 rfl (Sto.ofV Ar156 q156 O_2 (Ins.self (E_UINT32_ARRAY.ext O152.2))) (g := (mkF m 215 #[.val (.int p1), .unset, .unset, .unset] [(.ref aUINT32_ARRAY), (.int (30 : Int32)), (.ref b2), (.ref b2)])) rfl rfl (hb hby at_215)
  have V157 : Arv Z h157 b2 k2 (.object "com/example/idlsmith/idlsmith/idl/Builtin") (37 : Int32) [(.ref aBOOLEAN), (.ref aBYTE), (.ref aOCTET), (.ref aSHORT), (.ref aUNSIGNED_SHORT), (.ref aLONG), (.ref aUNSIGNED_LONG), (.ref aLONG_LONG), (.ref aUNSIGNED_LONG_LONG), (.ref aFLOAT), (.ref aUNRESTRICTED_FLOAT), (.ref aDOUBLE), (.ref aUNRESTRICTED_DOUBLE), (.ref aBIGINT), (.ref aDOMSTRING), (.ref aBYTE_STRING), (.ref aUSV_STRING), (.ref aOBJECT), (.ref aSYMBOL), (.ref aANY), (.ref aUNDEFINED), (.ref aDATE), (.ref aARRAY_BUFFER), (.ref aSHARED_ARRAY_BUFFER), (.ref aDATA_VIEW), (.ref aINT8_ARRAY), (.ref aINT16_ARRAY), (.ref aINT32_ARRAY), (.ref aUINT8_ARRAY), (.ref aUINT16_ARRAY), (.ref aUINT32_ARRAY), .null, .null, .null, .null, .null, .null] .null := Arv.set Ar156 q156 S156 M156 H156 G156 rfl W157 30 rfl (Nat.le_of_ble_eq_true rfl)
  have N157 := Fr.snoc X157 N152 g_b2
  have O157 := O152.wr W157 g_b2
  have K157 : Keep h0 h157 [] := K152.wr W157 (Or.inr sz_b2)
  have cn158 := fun (t : State) (kt : Steps p.tables e below (T157.setTop (mkF m 219 #[.val (.int p1), .unset, .unset, .unset] [(.int (31 : Int32)), (.ref b2), (.ref b2)])) t) => cn155 t (by
    refine st157 _ ?_
    show Steps p.tables e below (T157.setTop (mkF m 216 #[.val (.int p1), .unset, .unset, .unset] [(.ref b2)])) _
    refine XS.dup X157.here hx rfl (hb hby at_216) rfl rfl ?_
    show Steps p.tables e below (T157.setTop (mkF m 217 #[.val (.int p1), .unset, .unset, .unset] [(.ref b2), (.ref b2)])) _
    refine XS.bipush X157.here hx rfl (hb hby at_217) ?_
    show Steps p.tables e below (T157.setTop (mkF m 219 #[.val (.int p1), .unset, .unset, .unset] [(.int (31 : Int32)), (.ref b2), (.ref b2)])) _
    exact kt)
  obtain ⟨T159, X159, e159, st159⟩ := getS2 X157 hx hZ hown (host := "") (Or.inl (hw _ (List.mem_of_getElem? (i := 66) rfl))) Via.refl e157 (S_UINT8_CLAMPED_ARRAY.ext O157.2) (g := (mkF m 219 #[.val (.int p1), .unset, .unset, .unset] [(.int (31 : Int32)), (.ref b2), (.ref b2)])) rfl (hb hby at_219)
  have cn160 := fun (t : State) (kt : Steps p.tables e below (T159.setTop (mkF m 222 #[.val (.int p1), .unset, .unset, .unset] [(.ref aUINT8_CLAMPED_ARRAY), (.int (31 : Int32)), (.ref b2), (.ref b2)])) t) => cn158 t (by
    refine st159 _ ?_
    show Steps p.tables e below (T159.setTop (mkF m 222 #[.val (.int p1), .unset, .unset, .unset] [(.ref aUINT8_CLAMPED_ARRAY), (.int (31 : Int32)), (.ref b2), (.ref b2)])) _
    exact kt)
  have Vx161 := V157
  obtain ⟨cl161, Ar161, q161, S161, M161, H161, G161⟩ := Vx161
  have hin161 : ¬ ((31 : Int32) < 0 ∨ cl161.slots.size ≤ ((31 : Int32)).toNatClampNeg) := inb_of S161 ⟨by decide, by decide⟩
  obtain ⟨T162, h162, X162, e162, W162, st162⟩ := stR X159 hx hZ e159 Ar161 (j := (31 : Int32)) hin161 rfl (Sto.ofV Ar161 q161 O_2 (Ins.self (E_UINT8_CLAMPED_ARRAY.ext O157.2))) (g := (mkF m 222 #[.val (.int p1), .unset, .unset, .unset] [(.ref aUINT8_CLAMPED_ARRAY), (.int (31 : Int32)), (.ref b2), (.ref b2)])) rfl rfl (hb hby at_222)
  have V162 : Arv Z h162 b2 k2 (.object "com/example/idlsmith/idlsmith/idl/Builtin") (37 : Int32) [(.ref aBOOLEAN), (.ref aBYTE), (.ref aOCTET), (.ref aSHORT), (.ref aUNSIGNED_SHORT), (.ref aLONG), (.ref aUNSIGNED_LONG), (.ref aLONG_LONG), (.ref aUNSIGNED_LONG_LONG), (.ref aFLOAT), (.ref aUNRESTRICTED_FLOAT), (.ref aDOUBLE), (.ref aUNRESTRICTED_DOUBLE), (.ref aBIGINT), (.ref aDOMSTRING), (.ref aBYTE_STRING), (.ref aUSV_STRING), (.ref aOBJECT), (.ref aSYMBOL), (.ref aANY), (.ref aUNDEFINED), (.ref aDATE), (.ref aARRAY_BUFFER), (.ref aSHARED_ARRAY_BUFFER), (.ref aDATA_VIEW), (.ref aINT8_ARRAY), (.ref aINT16_ARRAY), (.ref aINT32_ARRAY), (.ref aUINT8_ARRAY), (.ref aUINT16_ARRAY), (.ref aUINT32_ARRAY), (.ref aUINT8_CLAMPED_ARRAY), .null, .null, .null, .null, .null] .null := Arv.set Ar161 q161 S161 M161 H161 G161 rfl W162 31 rfl (Nat.le_of_ble_eq_true rfl)
  have N162 := Fr.snoc X162 N157 g_b2
  have O162 := O157.wr W162 g_b2
  have K162 : Keep h0 h162 [] := K157.wr W162 (Or.inr sz_b2)
  have cn163 := fun (t : State) (kt : Steps p.tables e below (T162.setTop (mkF m 226 #[.val (.int p1), .unset, .unset, .unset] [(.int (32 : Int32)), (.ref b2), (.ref b2)])) t) => cn160 t (by
    refine st162 _ ?_
    show Steps p.tables e below (T162.setTop (mkF m 223 #[.val (.int p1), .unset, .unset, .unset] [(.ref b2)])) _
    refine XS.dup X162.here hx rfl (hb hby at_223) rfl rfl ?_
    show Steps p.tables e below (T162.setTop (mkF m 224 #[.val (.int p1), .unset, .unset, .unset] [(.ref b2), (.ref b2)])) _
    refine XS.bipush X162.here hx rfl (hb hby at_224) ?_
    show Steps p.tables e below (T162.setTop (mkF m 226 #[.val (.int p1), .unset, .unset, .unset] [(.int (32 : Int32)), (.ref b2), (.ref b2)])) _
    exact kt)
  obtain ⟨T164, X164, e164, st164⟩ := getS2 X162 hx hZ hown (host := "") (Or.inl (hw _ (List.mem_of_getElem? (i := 68) rfl))) Via.refl e162 (S_BIG_INT64_ARRAY.ext O162.2) (g := (mkF m 226 #[.val (.int p1), .unset, .unset, .unset] [(.int (32 : Int32)), (.ref b2), (.ref b2)])) rfl (hb hby at_226)
  have cn165 := fun (t : State) (kt : Steps p.tables e below (T164.setTop (mkF m 229 #[.val (.int p1), .unset, .unset, .unset] [(.ref aBIG_INT64_ARRAY), (.int (32 : Int32)), (.ref b2), (.ref b2)])) t) => cn163 t (by
    refine st164 _ ?_
    show Steps p.tables e below (T164.setTop (mkF m 229 #[.val (.int p1), .unset, .unset, .unset] [(.ref aBIG_INT64_ARRAY), (.int (32 : Int32)), (.ref b2), (.ref b2)])) _
    exact kt)
  have Vx166 := V162
  obtain ⟨cl166, Ar166, q166, S166, M166, H166, G166⟩ := Vx166
  have hin166 : ¬ ((32 : Int32) < 0 ∨ cl166.slots.size ≤ ((32 : Int32)).toNatClampNeg) := inb_of S166 ⟨by decide, by decide⟩
  obtain ⟨T167, h167, X167, e167, W167, st167⟩ := stR X164 hx hZ e164 Ar166 (j := (32 : Int32)) hin166 rfl (Sto.ofV Ar166 q166 O_2 (Ins.self (E_BIG_INT64_ARRAY.ext O162.2))) (g := (mkF m 229 #[.val (.int p1), .unset, .unset, .unset] [(.ref aBIG_INT64_ARRAY), (.int (32 : Int32)), (.ref b2), (.ref b2)])) rfl rfl (hb hby at_229)
  have V167 : Arv Z h167 b2 k2 (.object "com/example/idlsmith/idlsmith/idl/Builtin") (37 : Int32) [(.ref aBOOLEAN), (.ref aBYTE), (.ref aOCTET), (.ref aSHORT), (.ref aUNSIGNED_SHORT), (.ref aLONG), (.ref aUNSIGNED_LONG), (.ref aLONG_LONG), (.ref aUNSIGNED_LONG_LONG), (.ref aFLOAT), (.ref aUNRESTRICTED_FLOAT), (.ref aDOUBLE), (.ref aUNRESTRICTED_DOUBLE), (.ref aBIGINT), (.ref aDOMSTRING), (.ref aBYTE_STRING), (.ref aUSV_STRING), (.ref aOBJECT), (.ref aSYMBOL), (.ref aANY), (.ref aUNDEFINED), (.ref aDATE), (.ref aARRAY_BUFFER), (.ref aSHARED_ARRAY_BUFFER), (.ref aDATA_VIEW), (.ref aINT8_ARRAY), (.ref aINT16_ARRAY), (.ref aINT32_ARRAY), (.ref aUINT8_ARRAY), (.ref aUINT16_ARRAY), (.ref aUINT32_ARRAY), (.ref aUINT8_CLAMPED_ARRAY), (.ref aBIG_INT64_ARRAY), .null, .null, .null, .null] .null := Arv.set Ar166 q166 S166 M166 H166 G166 rfl W167 32 rfl (Nat.le_of_ble_eq_true rfl)
  have N167 := Fr.snoc X167 N162 g_b2
  have O167 := O162.wr W167 g_b2
  have K167 : Keep h0 h167 [] := K162.wr W167 (Or.inr sz_b2)
  have cn168 := fun (t : State) (kt : Steps p.tables e below (T167.setTop (mkF m 233 #[.val (.int p1), .unset, .unset, .unset] [(.int (33 : Int32)), (.ref b2), (.ref b2)])) t) => cn165 t (by
    refine st167 _ ?_
    show Steps p.tables e below (T167.setTop (mkF m 230 #[.val (.int p1), .unset, .unset, .unset] [(.ref b2)])) _
    refine XS.dup X167.here hx rfl (hb hby at_230) rfl rfl ?_
    show Steps p.tables e below (T167.setTop (mkF m 231 #[.val (.int p1), .unset, .unset, .unset] [(.ref b2), (.ref b2)])) _
    refine XS.bipush X167.here hx rfl (hb hby at_231) ?_
    show Steps p.tables e below (T167.setTop (mkF m 233 #[.val (.int p1), .unset, .unset, .unset] [(.int (33 : Int32)), (.ref b2), (.ref b2)])) _
    exact kt)
  obtain ⟨T169, X169, e169, st169⟩ := getS2 X167 hx hZ hown (host := "") (Or.inl (hw _ (List.mem_of_getElem? (i := 70) rfl))) Via.refl e167 (S_BIG_UINT64_ARRAY.ext O167.2) (g := (mkF m 233 #[.val (.int p1), .unset, .unset, .unset] [(.int (33 : Int32)), (.ref b2), (.ref b2)])) rfl (hb hby at_233)
  have cn170 := fun (t : State) (kt : Steps p.tables e below (T169.setTop (mkF m 236 #[.val (.int p1), .unset, .unset, .unset] [(.ref aBIG_UINT64_ARRAY), (.int (33 : Int32)), (.ref b2), (.ref b2)])) t) => cn168 t (by
    refine st169 _ ?_
    show Steps p.tables e below (T169.setTop (mkF m 236 #[.val (.int p1), .unset, .unset, .unset] [(.ref aBIG_UINT64_ARRAY), (.int (33 : Int32)), (.ref b2), (.ref b2)])) _
    exact kt)
  have Vx171 := V167
  obtain ⟨cl171, Ar171, q171, S171, M171, H171, G171⟩ := Vx171
  have hin171 : ¬ ((33 : Int32) < 0 ∨ cl171.slots.size ≤ ((33 : Int32)).toNatClampNeg) := inb_of S171 ⟨by decide, by decide⟩
  obtain ⟨T172, h172, X172, e172, W172, st172⟩ := stR X169 hx hZ e169 Ar171 (j := (33 : Int32)) hin171 rfl (Sto.ofV Ar171 q171 O_2 (Ins.self (E_BIG_UINT64_ARRAY.ext O167.2))) (g := (mkF m 236 #[.val (.int p1), .unset, .unset, .unset] [(.ref aBIG_UINT64_ARRAY), (.int (33 : Int32)), (.ref b2), (.ref b2)])) rfl rfl (hb hby at_236)
  have V172 : Arv Z h172 b2 k2 (.object "com/example/idlsmith/idlsmith/idl/Builtin") (37 : Int32) [(.ref aBOOLEAN), (.ref aBYTE), (.ref aOCTET), (.ref aSHORT), (.ref aUNSIGNED_SHORT), (.ref aLONG), (.ref aUNSIGNED_LONG), (.ref aLONG_LONG), (.ref aUNSIGNED_LONG_LONG), (.ref aFLOAT), (.ref aUNRESTRICTED_FLOAT), (.ref aDOUBLE), (.ref aUNRESTRICTED_DOUBLE), (.ref aBIGINT), (.ref aDOMSTRING), (.ref aBYTE_STRING), (.ref aUSV_STRING), (.ref aOBJECT), (.ref aSYMBOL), (.ref aANY), (.ref aUNDEFINED), (.ref aDATE), (.ref aARRAY_BUFFER), (.ref aSHARED_ARRAY_BUFFER), (.ref aDATA_VIEW), (.ref aINT8_ARRAY), (.ref aINT16_ARRAY), (.ref aINT32_ARRAY), (.ref aUINT8_ARRAY), (.ref aUINT16_ARRAY), (.ref aUINT32_ARRAY), (.ref aUINT8_CLAMPED_ARRAY), (.ref aBIG_INT64_ARRAY), (.ref aBIG_UINT64_ARRAY), .null, .null, .null] .null := Arv.set Ar171 q171 S171 M171 H171 G171 rfl W172 33 rfl (Nat.le_of_ble_eq_true rfl)
  have N172 := Fr.snoc X172 N167 g_b2
  have O172 := O167.wr W172 g_b2
  have K172 : Keep h0 h172 [] := K167.wr W172 (Or.inr sz_b2)
  have cn173 := fun (t : State) (kt : Steps p.tables e below (T172.setTop (mkF m 240 #[.val (.int p1), .unset, .unset, .unset] [(.int (34 : Int32)), (.ref b2), (.ref b2)])) t) => cn170 t (by
    refine st172 _ ?_
    show Steps p.tables e below (T172.setTop (mkF m 237 #[.val (.int p1), .unset, .unset, .unset] [(.ref b2)])) _
    refine XS.dup X172.here hx rfl (hb hby at_237) rfl rfl ?_
    show Steps p.tables e below (T172.setTop (mkF m 238 #[.val (.int p1), .unset, .unset, .unset] [(.ref b2), (.ref b2)])) _
    refine XS.bipush X172.here hx rfl (hb hby at_238) ?_
    show Steps p.tables e below (T172.setTop (mkF m 240 #[.val (.int p1), .unset, .unset, .unset] [(.int (34 : Int32)), (.ref b2), (.ref b2)])) _
    exact kt)
  obtain ⟨T174, X174, e174, st174⟩ := getS2 X172 hx hZ hown (host := "") (Or.inl (hw _ (List.mem_of_getElem? (i := 72) rfl))) Via.refl e172 (S_FLOAT16_ARRAY.ext O172.2) (g := (mkF m 240 #[.val (.int p1), .unset, .unset, .unset] [(.int (34 : Int32)), (.ref b2), (.ref b2)])) rfl (hb hby at_240)
  have cn175 := fun (t : State) (kt : Steps p.tables e below (T174.setTop (mkF m 243 #[.val (.int p1), .unset, .unset, .unset] [(.ref aFLOAT16_ARRAY), (.int (34 : Int32)), (.ref b2), (.ref b2)])) t) => cn173 t (by
    refine st174 _ ?_
    show Steps p.tables e below (T174.setTop (mkF m 243 #[.val (.int p1), .unset, .unset, .unset] [(.ref aFLOAT16_ARRAY), (.int (34 : Int32)), (.ref b2), (.ref b2)])) _
    exact kt)
  have Vx176 := V172
  obtain ⟨cl176, Ar176, q176, S176, M176, H176, G176⟩ := Vx176
  have hin176 : ¬ ((34 : Int32) < 0 ∨ cl176.slots.size ≤ ((34 : Int32)).toNatClampNeg) := inb_of S176 ⟨by decide, by decide⟩
  obtain ⟨T177, h177, X177, e177, W177, st177⟩ := stR X174 hx hZ e174 Ar176 (j := (34 : Int32)) hin176 rfl (Sto.ofV Ar176 q176 O_2 (Ins.self (E_FLOAT16_ARRAY.ext O172.2))) (g := (mkF m 243 #[.val (.int p1), .unset, .unset, .unset] [(.ref aFLOAT16_ARRAY), (.int (34 : Int32)), (.ref b2), (.ref b2)])) rfl rfl (hb hby at_243)
  have V177 : Arv Z h177 b2 k2 (.object "com/example/idlsmith/idlsmith/idl/Builtin") (37 : Int32) [(.ref aBOOLEAN), (.ref aBYTE), (.ref aOCTET), (.ref aSHORT), (.ref aUNSIGNED_SHORT), (.ref aLONG), (.ref aUNSIGNED_LONG), (.ref aLONG_LONG), (.ref aUNSIGNED_LONG_LONG), (.ref aFLOAT), (.ref aUNRESTRICTED_FLOAT), (.ref aDOUBLE), (.ref aUNRESTRICTED_DOUBLE), (.ref aBIGINT), (.ref aDOMSTRING), (.ref aBYTE_STRING), (.ref aUSV_STRING), (.ref aOBJECT), (.ref aSYMBOL), (.ref aANY), (.ref aUNDEFINED), (.ref aDATE), (.ref aARRAY_BUFFER), (.ref aSHARED_ARRAY_BUFFER), (.ref aDATA_VIEW), (.ref aINT8_ARRAY), (.ref aINT16_ARRAY), (.ref aINT32_ARRAY), (.ref aUINT8_ARRAY), (.ref aUINT16_ARRAY), (.ref aUINT32_ARRAY), (.ref aUINT8_CLAMPED_ARRAY), (.ref aBIG_INT64_ARRAY), (.ref aBIG_UINT64_ARRAY), (.ref aFLOAT16_ARRAY), .null, .null] .null := Arv.set Ar176 q176 S176 M176 H176 G176 rfl W177 34 rfl (Nat.le_of_ble_eq_true rfl)
  have N177 := Fr.snoc X177 N172 g_b2
  have O177 := O172.wr W177 g_b2
  have K177 : Keep h0 h177 [] := K172.wr W177 (Or.inr sz_b2)
  have cn178 := fun (t : State) (kt : Steps p.tables e below (T177.setTop (mkF m 247 #[.val (.int p1), .unset, .unset, .unset] [(.int (35 : Int32)), (.ref b2), (.ref b2)])) t) => cn175 t (by
    refine st177 _ ?_
    show Steps p.tables e below (T177.setTop (mkF m 244 #[.val (.int p1), .unset, .unset, .unset] [(.ref b2)])) _
    refine XS.dup X177.here hx rfl (hb hby at_244) rfl rfl ?_
    show Steps p.tables e below (T177.setTop (mkF m 245 #[.val (.int p1), .unset, .unset, .unset] [(.ref b2), (.ref b2)])) _
    refine XS.bipush X177.here hx rfl (hb hby at_245) ?_
    show Steps p.tables e below (T177.setTop (mkF m 247 #[.val (.int p1), .unset, .unset, .unset] [(.int (35 : Int32)), (.ref b2), (.ref b2)])) _
    exact kt)
  obtain ⟨T179, X179, e179, st179⟩ := getS2 X177 hx hZ hown (host := "") (Or.inl (hw _ (List.mem_of_getElem? (i := 74) rfl))) Via.refl e177 (S_FLOAT32_ARRAY.ext O177.2) (g := (mkF m 247 #[.val (.int p1), .unset, .unset, .unset] [(.int (35 : Int32)), (.ref b2), (.ref b2)])) rfl (hb hby at_247)
  have cn180 := fun (t : State) (kt : Steps p.tables e below (T179.setTop (mkF m 250 #[.val (.int p1), .unset, .unset, .unset] [(.ref aFLOAT32_ARRAY), (.int (35 : Int32)), (.ref b2), (.ref b2)])) t) => cn178 t (by
    refine st179 _ ?_
    show Steps p.tables e below (T179.setTop (mkF m 250 #[.val (.int p1), .unset, .unset, .unset] [(.ref aFLOAT32_ARRAY), (.int (35 : Int32)), (.ref b2), (.ref b2)])) _
    exact kt)
  have Vx181 := V177
  obtain ⟨cl181, Ar181, q181, S181, M181, H181, G181⟩ := Vx181
  have hin181 : ¬ ((35 : Int32) < 0 ∨ cl181.slots.size ≤ ((35 : Int32)).toNatClampNeg) := inb_of S181 ⟨by decide, by decide⟩
  obtain ⟨T182, h182, X182, e182, W182, st182⟩ := stR X179 hx hZ e179 Ar181 (j := (35 : Int32)) hin181 rfl (Sto.ofV Ar181 q181 O_2 (Ins.self (E_FLOAT32_ARRAY.ext O177.2))) (g := (mkF m 250 #[.val (.int p1), .unset, .unset, .unset] [(.ref aFLOAT32_ARRAY), (.int (35 : Int32)), (.ref b2), (.ref b2)])) rfl rfl (hb hby at_250)
  have V182 : Arv Z h182 b2 k2 (.object "com/example/idlsmith/idlsmith/idl/Builtin") (37 : Int32) [(.ref aBOOLEAN), (.ref aBYTE), (.ref aOCTET), (.ref aSHORT), (.ref aUNSIGNED_SHORT), (.ref aLONG), (.ref aUNSIGNED_LONG), (.ref aLONG_LONG), (.ref aUNSIGNED_LONG_LONG), (.ref aFLOAT), (.ref aUNRESTRICTED_FLOAT), (.ref aDOUBLE), (.ref aUNRESTRICTED_DOUBLE), (.ref aBIGINT), (.ref aDOMSTRING), (.ref aBYTE_STRING), (.ref aUSV_STRING), (.ref aOBJECT), (.ref aSYMBOL), (.ref aANY), (.ref aUNDEFINED), (.ref aDATE), (.ref aARRAY_BUFFER), (.ref aSHARED_ARRAY_BUFFER), (.ref aDATA_VIEW), (.ref aINT8_ARRAY), (.ref aINT16_ARRAY), (.ref aINT32_ARRAY), (.ref aUINT8_ARRAY), (.ref aUINT16_ARRAY), (.ref aUINT32_ARRAY), (.ref aUINT8_CLAMPED_ARRAY), (.ref aBIG_INT64_ARRAY), (.ref aBIG_UINT64_ARRAY), (.ref aFLOAT16_ARRAY), (.ref aFLOAT32_ARRAY), .null] .null := Arv.set Ar181 q181 S181 M181 H181 G181 rfl W182 35 rfl (Nat.le_of_ble_eq_true rfl)
  have N182 := Fr.snoc X182 N177 g_b2
  have O182 := O177.wr W182 g_b2
  have K182 : Keep h0 h182 [] := K177.wr W182 (Or.inr sz_b2)
  have cn183 := fun (t : State) (kt : Steps p.tables e below (T182.setTop (mkF m 254 #[.val (.int p1), .unset, .unset, .unset] [(.int (36 : Int32)), (.ref b2), (.ref b2)])) t) => cn180 t (by
    refine st182 _ ?_
    show Steps p.tables e below (T182.setTop (mkF m 251 #[.val (.int p1), .unset, .unset, .unset] [(.ref b2)])) _
    refine XS.dup X182.here hx rfl (hb hby at_251) rfl rfl ?_
    show Steps p.tables e below (T182.setTop (mkF m 252 #[.val (.int p1), .unset, .unset, .unset] [(.ref b2), (.ref b2)])) _
    refine XS.bipush X182.here hx rfl (hb hby at_252) ?_
    show Steps p.tables e below (T182.setTop (mkF m 254 #[.val (.int p1), .unset, .unset, .unset] [(.int (36 : Int32)), (.ref b2), (.ref b2)])) _
    exact kt)
  obtain ⟨T184, X184, e184, st184⟩ := getS2 X182 hx hZ hown (host := "") (Or.inl (hw _ (List.mem_of_getElem? (i := 76) rfl))) Via.refl e182 (S_FLOAT64_ARRAY.ext O182.2) (g := (mkF m 254 #[.val (.int p1), .unset, .unset, .unset] [(.int (36 : Int32)), (.ref b2), (.ref b2)])) rfl (hb hby at_254)
  have cn185 := fun (t : State) (kt : Steps p.tables e below (T184.setTop (mkF m 257 #[.val (.int p1), .unset, .unset, .unset] [(.ref aFLOAT64_ARRAY), (.int (36 : Int32)), (.ref b2), (.ref b2)])) t) => cn183 t (by
    refine st184 _ ?_
    show Steps p.tables e below (T184.setTop (mkF m 257 #[.val (.int p1), .unset, .unset, .unset] [(.ref aFLOAT64_ARRAY), (.int (36 : Int32)), (.ref b2), (.ref b2)])) _
    exact kt)
  have Vx186 := V182
  obtain ⟨cl186, Ar186, q186, S186, M186, H186, G186⟩ := Vx186
  have hin186 : ¬ ((36 : Int32) < 0 ∨ cl186.slots.size ≤ ((36 : Int32)).toNatClampNeg) := inb_of S186 ⟨by decide, by decide⟩
  obtain ⟨T187, h187, X187, e187, W187, st187⟩ := stR X184 hx hZ e184 Ar186 (j := (36 : Int32)) hin186 rfl (Sto.ofV Ar186 q186 O_2 (Ins.self (E_FLOAT64_ARRAY.ext O182.2))) (g := (mkF m 257 #[.val (.int p1), .unset, .unset, .unset] [(.ref aFLOAT64_ARRAY), (.int (36 : Int32)), (.ref b2), (.ref b2)])) rfl rfl (hb hby at_257)
  have V187 : Arv Z h187 b2 k2 (.object "com/example/idlsmith/idlsmith/idl/Builtin") (37 : Int32) [(.ref aBOOLEAN), (.ref aBYTE), (.ref aOCTET), (.ref aSHORT), (.ref aUNSIGNED_SHORT), (.ref aLONG), (.ref aUNSIGNED_LONG), (.ref aLONG_LONG), (.ref aUNSIGNED_LONG_LONG), (.ref aFLOAT), (.ref aUNRESTRICTED_FLOAT), (.ref aDOUBLE), (.ref aUNRESTRICTED_DOUBLE), (.ref aBIGINT), (.ref aDOMSTRING), (.ref aBYTE_STRING), (.ref aUSV_STRING), (.ref aOBJECT), (.ref aSYMBOL), (.ref aANY), (.ref aUNDEFINED), (.ref aDATE), (.ref aARRAY_BUFFER), (.ref aSHARED_ARRAY_BUFFER), (.ref aDATA_VIEW), (.ref aINT8_ARRAY), (.ref aINT16_ARRAY), (.ref aINT32_ARRAY), (.ref aUINT8_ARRAY), (.ref aUINT16_ARRAY), (.ref aUINT32_ARRAY), (.ref aUINT8_CLAMPED_ARRAY), (.ref aBIG_INT64_ARRAY), (.ref aBIG_UINT64_ARRAY), (.ref aFLOAT16_ARRAY), (.ref aFLOAT32_ARRAY), (.ref aFLOAT64_ARRAY)] .null := Arv.set Ar186 q186 S186 M186 H186 G186 rfl W187 36 rfl (Nat.le_of_ble_eq_true rfl)
  have N187 := Fr.snoc X187 N182 g_b2
  have O187 := O182.wr W187 g_b2
  have K187 : Keep h0 h187 [] := K182.wr W187 (Or.inr sz_b2)
  have cn188 := fun (t : State) (kt : Steps p.tables e below (T187.setTop (mkF m 267 #[.val (.int p1), .val (.ref b2), .val (.int ((p1 &&& (2147483647 : Int32)) % (37 : Int32))), .unset] [])) t) => cn185 t (by
    refine st187 _ ?_
    show Steps p.tables e below (T187.setTop (mkF m 258 #[.val (.int p1), .unset, .unset, .unset] [(.ref b2)])) _
    refine XS.astoreN X187.here hx rfl (hb hby at_258) rfl rfl (l' := #[.val (.int p1), .val (.ref b2), .unset, .unset]) rfl ?_
    show Steps p.tables e below (T187.setTop (mkF m 259 #[.val (.int p1), .val (.ref b2), .unset, .unset] [])) _
    refine XS.iloadN X187.here hx rfl (hb hby at_259) rfl ?_
    show Steps p.tables e below (T187.setTop (mkF m 260 #[.val (.int p1), .val (.ref b2), .unset, .unset] [(.int p1)])) _
    refine X187.ldcInt hx hown (mvT hZ (hw _ (List.mem_of_getElem? (i := 78) rfl))) (g := (mkF m 260 #[.val (.int p1), .val (.ref b2), .unset, .unset] [(.int p1)])) rfl (hb hby at_260) _ ?_
    show Steps p.tables e below (T187.setTop (mkF m 262 #[.val (.int p1), .val (.ref b2), .unset, .unset] [(.int (2147483647 : Int32)), (.int p1)])) _
    refine XS.iand X187.here hx rfl (hb hby at_262) rfl ?_
    show Steps p.tables e below (T187.setTop (mkF m 263 #[.val (.int p1), .val (.ref b2), .unset, .unset] [(.int (p1 &&& (2147483647 : Int32)))])) _
    refine XS.bipush X187.here hx rfl (hb hby at_263) ?_
    show Steps p.tables e below (T187.setTop (mkF m 265 #[.val (.int p1), .val (.ref b2), .unset, .unset] [(.int (37 : Int32)), (.int (p1 &&& (2147483647 : Int32)))])) _
    refine iremM X187 hx rfl (hb hby at_265) rfl (by decide) ?_
    show Steps p.tables e below (T187.setTop (mkF m 266 #[.val (.int p1), .val (.ref b2), .unset, .unset] [(.int ((p1 &&& (2147483647 : Int32)) % (37 : Int32)))])) _
    refine XS.istoreN X187.here hx rfl (hb hby at_266) rfl (l' := #[.val (.int p1), .val (.ref b2), .val (.int ((p1 &&& (2147483647 : Int32)) % (37 : Int32))), .unset]) rfl ?_
    show Steps p.tables e below (T187.setTop (mkF m 267 #[.val (.int p1), .val (.ref b2), .val (.int ((p1 &&& (2147483647 : Int32)) % (37 : Int32))), .unset] [])) _
    exact kt)
  obtain ⟨lz, XZ, NZ⟩ : ∃ lz : List Loc, Stand p l e room_1 s m #[(.int p1)] below meth kode T187 lz 1 37 ∧ Fr n0 lz := ⟨_, X187, N187⟩
  obtain ⟨oo, hoo, Eoo, ho1, ho2, ho3, hp1, hp2⟩ := own_pick Z p1 aBOOLEAN aBYTE aOCTET aSHORT aUNSIGNED_SHORT aLONG aUNSIGNED_LONG aLONG_LONG aUNSIGNED_LONG_LONG aFLOAT aUNRESTRICTED_FLOAT aDOUBLE aUNRESTRICTED_DOUBLE aBIGINT aDOMSTRING aBYTE_STRING aUSV_STRING aOBJECT aSYMBOL aANY aUNDEFINED aDATE aARRAY_BUFFER aSHARED_ARRAY_BUFFER aDATA_VIEW aINT8_ARRAY aINT16_ARRAY aINT32_ARRAY aUINT8_ARRAY aUINT16_ARRAY aUINT32_ARRAY aUINT8_CLAMPED_ARRAY aBIG_INT64_ARRAY aBIG_UINT64_ARRAY aFLOAT16_ARRAY aFLOAT32_ARRAY aFLOAT64_ARRAY E_BOOLEAN F_BOOLEAN_ordinal E_BYTE F_BYTE_ordinal E_OCTET F_OCTET_ordinal E_SHORT F_SHORT_ordinal E_UNSIGNED_SHORT F_UNSIGNED_SHORT_ordinal E_LONG F_LONG_ordinal E_UNSIGNED_LONG F_UNSIGNED_LONG_ordinal E_LONG_LONG F_LONG_LONG_ordinal E_UNSIGNED_LONG_LONG F_UNSIGNED_LONG_LONG_ordinal E_FLOAT F_FLOAT_ordinal E_UNRESTRICTED_FLOAT F_UNRESTRICTED_FLOAT_ordinal E_DOUBLE F_DOUBLE_ordinal E_UNRESTRICTED_DOUBLE F_UNRESTRICTED_DOUBLE_ordinal E_BIGINT F_BIGINT_ordinal E_DOMSTRING F_DOMSTRING_ordinal E_BYTE_STRING F_BYTE_STRING_ordinal E_USV_STRING F_USV_STRING_ordinal E_OBJECT F_OBJECT_ordinal E_SYMBOL F_SYMBOL_ordinal E_ANY F_ANY_ordinal E_UNDEFINED F_UNDEFINED_ordinal E_DATE F_DATE_ordinal E_ARRAY_BUFFER F_ARRAY_BUFFER_ordinal E_SHARED_ARRAY_BUFFER F_SHARED_ARRAY_BUFFER_ordinal E_DATA_VIEW F_DATA_VIEW_ordinal E_INT8_ARRAY F_INT8_ARRAY_ordinal E_INT16_ARRAY F_INT16_ARRAY_ordinal E_INT32_ARRAY F_INT32_ARRAY_ordinal E_UINT8_ARRAY F_UINT8_ARRAY_ordinal E_UINT16_ARRAY F_UINT16_ARRAY_ordinal E_UINT32_ARRAY F_UINT32_ARRAY_ordinal E_UINT8_CLAMPED_ARRAY F_UINT8_CLAMPED_ARRAY_ordinal E_BIG_INT64_ARRAY F_BIG_INT64_ARRAY_ordinal E_BIG_UINT64_ARRAY F_BIG_UINT64_ARRAY_ordinal E_FLOAT16_ARRAY F_FLOAT16_ARRAY_ordinal E_FLOAT32_ARRAY F_FLOAT32_ARRAY_ordinal E_FLOAT64_ARRAY F_FLOAT64_ARRAY_ordinal
  have cn189 := fun (t : State) (kt : Steps p.tables e below (T187.setTop (mkF m 270 #[.val (.int p1), .val (.ref b2), .val (.int ((p1 &&& (2147483647 : Int32)) % (37 : Int32))), .unset] [(.int (9 : Int32)), (.int ((p1 &&& (2147483647 : Int32)) % (37 : Int32)))])) t) => cn188 t (by
    refine XS.iloadN XZ.here hx rfl (hb hby at_267) rfl ?_
    show Steps p.tables e below (T187.setTop (mkF m 268 #[.val (.int p1), .val (.ref b2), .val (.int ((p1 &&& (2147483647 : Int32)) % (37 : Int32))), .unset] [(.int ((p1 &&& (2147483647 : Int32)) % (37 : Int32)))])) _
    refine XS.bipush XZ.here hx rfl (hb hby at_268) ?_
    show Steps p.tables e below (T187.setTop (mkF m 270 #[.val (.int p1), .val (.ref b2), .val (.int ((p1 &&& (2147483647 : Int32)) % (37 : Int32))), .unset] [(.int (9 : Int32)), (.int ((p1 &&& (2147483647 : Int32)) % (37 : Int32)))])) _
    exact kt)
  by_cases hc270_190 : ((p1 &&& (2147483647 : Int32)) % (37 : Int32)) < (9 : Int32)
  · have cn191 := fun (t : State) (kt : Steps p.tables e below (T187.setTop (mkF m 287 #[.val (.int p1), .val (.ref b2), .val (.int ((p1 &&& (2147483647 : Int32)) % (37 : Int32))), .val (.int (0 : Int32))] [(.int ((p1 &&& (2147483647 : Int32)) % (37 : Int32))), (.ref b2)])) t) => cn189 t (by
      refine XS.icmpYes XZ.here hx rfl (pc0 := 270) (pc' := 283) rfl (hb hby at_270) rfl (tlt hc270_190).1 (by decide) (by decide) ?_
      show Steps p.tables e below (T187.setTop (mkF m 283 #[.val (.int p1), .val (.ref b2), .val (.int ((p1 &&& (2147483647 : Int32)) % (37 : Int32))), .unset] [])) _
      refine XS.iconst XZ.here hx rfl (hb hby at_283) ?_
      show Steps p.tables e below (T187.setTop (mkF m 284 #[.val (.int p1), .val (.ref b2), .val (.int ((p1 &&& (2147483647 : Int32)) % (37 : Int32))), .unset] [(.int (0 : Int32))])) _
      refine XS.istoreN XZ.here hx rfl (hb hby at_284) rfl (l' := #[.val (.int p1), .val (.ref b2), .val (.int ((p1 &&& (2147483647 : Int32)) % (37 : Int32))), .val (.int (0 : Int32))]) rfl ?_
      show Steps p.tables e below (T187.setTop (mkF m 285 #[.val (.int p1), .val (.ref b2), .val (.int ((p1 &&& (2147483647 : Int32)) % (37 : Int32))), .val (.int (0 : Int32))] [])) _
      refine XS.aloadN XZ.here hx rfl (hb hby at_285) rfl rfl ?_
      show Steps p.tables e below (T187.setTop (mkF m 286 #[.val (.int p1), .val (.ref b2), .val (.int ((p1 &&& (2147483647 : Int32)) % (37 : Int32))), .val (.int (0 : Int32))] [(.ref b2)])) _
      refine XS.iloadN XZ.here hx rfl (hb hby at_286) rfl ?_
      show Steps p.tables e below (T187.setTop (mkF m 287 #[.val (.int p1), .val (.ref b2), .val (.int ((p1 &&& (2147483647 : Int32)) % (37 : Int32))), .val (.int (0 : Int32))] [(.int ((p1 &&& (2147483647 : Int32)) % (37 : Int32))), (.ref b2)])) _
      exact kt)
    have Vx192 := V187
    obtain ⟨cl192, Ar192, q192, S192, M192, H192, G192⟩ := Vx192
    have hin192 : ¬ (((p1 &&& (2147483647 : Int32)) % (37 : Int32)) < 0 ∨ cl192.slots.size ≤ (((p1 &&& (2147483647 : Int32)) % (37 : Int32))).toNatClampNeg) := inb_of S192 ⟨hp1, hp2⟩
    have hat192 : cl192.slots[(((p1 &&& (2147483647 : Int32)) % (37 : Int32))).toNatClampNeg]? = some (.ref oo) := H192.at hin192 hoo
    have cn193 := fun (t : State) (kt : Steps p.tables e below (T187.setTop (mkF m 288 #[.val (.int p1), .val (.ref b2), .val (.int ((p1 &&& (2147483647 : Int32)) % (37 : Int32))), .val (.int (0 : Int32))] [(.ref oo)])) t) => cn191 t (by
      refine XZ.aaload hx (j := ((p1 &&& (2147483647 : Int32)) % (37 : Int32))) (v := (.ref oo)) (by rw [e187]; exact Ar192.1) (State.isArrayOf_alike hZ.alike Ar192.2.1) rfl Ar192.2.2 hin192 hat192 (g := (mkF m 287 #[.val (.int p1), .val (.ref b2), .val (.int ((p1 &&& (2147483647 : Int32)) % (37 : Int32))), .val (.int (0 : Int32))] [(.int ((p1 &&& (2147483647 : Int32)) % (37 : Int32))), (.ref b2)])) rfl rfl (hb hby at_287) _ ?_
      show Steps p.tables e below (T187.setTop (mkF m 288 #[.val (.int p1), .val (.ref b2), .val (.int ((p1 &&& (2147483647 : Int32)) % (37 : Int32))), .val (.int (0 : Int32))] [(.ref oo)])) _
      exact kt)
    obtain ⟨cq194, kq194, q194a, q194b, q194c⟩ := isOf hZ e187 (Eoo.ext O187.2)
    obtain ⟨_, _, ⟨T194, L194, k194, n194⟩, -, X194, ⟨Lc194, hQ194, l194, y194, z194⟩, st194⟩ := XZ.virtualBack hx (y := (⟨"com/example/idlsmith/idlsmith/idl/Builtin", "isFloatingPoint", "()Z"⟩ : MethodName)) (z := (⟨"com/example/idlsmith/idlsmith/idl/Builtin", "isFloatingPoint", "()Z"⟩ : MethodName)) hown (mvT hZ (hw _ (List.mem_of_getElem? (i := 79) rfl))) (mvT hZ (hw _ (List.mem_of_getElem? (i := 80) rfl))) (notFace_of_selects (args := #[]) (mvT hZ (hw _ (List.mem_of_getElem? (i := 82) rfl)))) (mvT hZ (hw _ (List.mem_of_getElem? (i := 82) rfl))) (mvT hZ (hw _ (List.mem_of_getElem? (i := 81) rfl))) (by decide) (backOf (W := 0) (rm1 l Z a0 hw [] oo aFLOAT aUNRESTRICTED_FLOAT aDOUBLE aUNRESTRICTED_DOUBLE h187 n0 O187 (S_FLOAT.ext O187.2) (S_UNRESTRICTED_FLOAT.ext O187.2) (S_DOUBLE.ext O187.2) (S_UNRESTRICTED_DOUBLE.ext O187.2)) hZ (hw _ (List.mem_of_getElem? (i := 83) rfl)) (hw _ (List.mem_of_getElem? (i := 3) rfl)) (by decide) (by decide)) q194a q194c (g := (mkF m 288 #[.val (.int p1), .val (.ref b2), .val (.int ((p1 &&& (2147483647 : Int32)) % (37 : Int32))), .val (.int (0 : Int32))] [(.ref oo)])) rfl (by rw [hml]; rfl) (Steps.refl _) (argsL := []) (rest := []) (lenOf pd_0 rfl) rfl (by show 2 * 0 + _ ≤ _; exact Nat.le_of_eq rfl) (hb hby at_288) (fun _ _ => ⟨rfl, e187, (by decide : 1 + 0 ≤ _), (by decide : 37 + 0 ≤ _)⟩)
    dsimp only [Pt.U, Pt.locs, Pt.cells, Pt.slots] at X194 l194 y194 z194 st194 hQ194
    subst l194 y194 z194
    obtain ⟨rfl, Nq194, eh194⟩ := hQ194
    have N194 := Fr.app NZ Nq194
    have cn195 := fun (t : State) (kt : Steps p.tables e below (T194.setTop (mkF m 292 #[.val (.int p1), .val (.ref b2), .val (.int ((p1 &&& (2147483647 : Int32)) % (37 : Int32))), .val (.int (0 : Int32))] [(.int (0 : Int32)), (.int (own_fp oo aFLOAT aUNRESTRICTED_FLOAT aDOUBLE aUNRESTRICTED_DOUBLE))])) t) => cn193 t (by
      refine st194.trans ?_
      show Steps p.tables e below (T194.setTop (mkF m 291 #[.val (.int p1), .val (.ref b2), .val (.int ((p1 &&& (2147483647 : Int32)) % (37 : Int32))), .val (.int (0 : Int32))] [(.int (own_fp oo aFLOAT aUNRESTRICTED_FLOAT aDOUBLE aUNRESTRICTED_DOUBLE))])) _
      refine XS.iloadN X194.here hx rfl (hb hby at_291) rfl ?_
      show Steps p.tables e below (T194.setTop (mkF m 292 #[.val (.int p1), .val (.ref b2), .val (.int ((p1 &&& (2147483647 : Int32)) % (37 : Int32))), .val (.int (0 : Int32))] [(.int (0 : Int32)), (.int (own_fp oo aFLOAT aUNRESTRICTED_FLOAT aDOUBLE aUNRESTRICTED_DOUBLE))])) _
      exact kt)
    have cn196 := fun (t : State) (kt : Steps p.tables e below (T194.setTop (mkF m 300 #[.val (.int p1), .val (.ref b2), .val (.int ((p1 &&& (2147483647 : Int32)) % (37 : Int32))), .val (.int (0 : Int32))] [(.int (1 : Int32))])) t) => cn195 t (by
      refine XS.icmpNo X194.here hx rfl (hb hby at_292) rfl (teq (ho1 hc270_190)).2 ?_
      show Steps p.tables e below (T194.setTop (mkF m 295 #[.val (.int p1), .val (.ref b2), .val (.int ((p1 &&& (2147483647 : Int32)) % (37 : Int32))), .val (.int (0 : Int32))] [])) _
      refine XS.iconst X194.here hx rfl (hb hby at_295) ?_
      show Steps p.tables e below (T194.setTop (mkF m 296 #[.val (.int p1), .val (.ref b2), .val (.int ((p1 &&& (2147483647 : Int32)) % (37 : Int32))), .val (.int (0 : Int32))] [(.int (1 : Int32))])) _
      refine XS.goto X194.here hx rfl (pc0 := 296) (pc' := 300) rfl (hb hby at_296) (by decide) (by decide) ?_
      show Steps p.tables e below (T194.setTop (mkF m 300 #[.val (.int p1), .val (.ref b2), .val (.int ((p1 &&& (2147483647 : Int32)) % (37 : Int32))), .val (.int (0 : Int32))] [(.int (1 : Int32))])) _
      exact kt)
    obtain ⟨frs, hr, hrun, hended, hW, hsame⟩ := X194.leave (v := some (.int (1 : Int32))) (fun h => by rw [Bd.returns] at h; cases h)
    refine ⟨_, _, cn196 _ ?_, hrun, hended, _, _, rfl, ?_, ⟨_, rfl⟩, hW, hsame.mono (by decide) (by decide)⟩
    · exact retN X194 hx (t := .boolean) Bd.returns (by simp) (hb hby at_300) hr
    · show Q0 n0 _ T194.heap _
      rw [eh194]
      exact ⟨rfl, N194⟩
  · have cn197 := fun (t : State) (kt : Steps p.tables e below (T187.setTop (mkF m 276 #[.val (.int p1), .val (.ref b2), .val (.int ((p1 &&& (2147483647 : Int32)) % (37 : Int32))), .unset] [(.int (12 : Int32)), (.int ((p1 &&& (2147483647 : Int32)) % (37 : Int32)))])) t) => cn189 t (by
      refine XS.icmpNo XZ.here hx rfl (hb hby at_270) rfl (flt hc270_190).1 ?_
      show Steps p.tables e below (T187.setTop (mkF m 273 #[.val (.int p1), .val (.ref b2), .val (.int ((p1 &&& (2147483647 : Int32)) % (37 : Int32))), .unset] [])) _
      refine XS.iloadN XZ.here hx rfl (hb hby at_273) rfl ?_
      show Steps p.tables e below (T187.setTop (mkF m 274 #[.val (.int p1), .val (.ref b2), .val (.int ((p1 &&& (2147483647 : Int32)) % (37 : Int32))), .unset] [(.int ((p1 &&& (2147483647 : Int32)) % (37 : Int32)))])) _
      refine XS.bipush XZ.here hx rfl (hb hby at_274) ?_
      show Steps p.tables e below (T187.setTop (mkF m 276 #[.val (.int p1), .val (.ref b2), .val (.int ((p1 &&& (2147483647 : Int32)) % (37 : Int32))), .unset] [(.int (12 : Int32)), (.int ((p1 &&& (2147483647 : Int32)) % (37 : Int32)))])) _
      exact kt)
    by_cases hc276_198 : (12 : Int32) < ((p1 &&& (2147483647 : Int32)) % (37 : Int32))
    · have cn199 := fun (t : State) (kt : Steps p.tables e below (T187.setTop (mkF m 287 #[.val (.int p1), .val (.ref b2), .val (.int ((p1 &&& (2147483647 : Int32)) % (37 : Int32))), .val (.int (0 : Int32))] [(.int ((p1 &&& (2147483647 : Int32)) % (37 : Int32))), (.ref b2)])) t) => cn197 t (by
        refine XS.icmpYes XZ.here hx rfl (pc0 := 276) (pc' := 283) rfl (hb hby at_276) rfl (tlt hc276_198).2.2.1 (by decide) (by decide) ?_
        show Steps p.tables e below (T187.setTop (mkF m 283 #[.val (.int p1), .val (.ref b2), .val (.int ((p1 &&& (2147483647 : Int32)) % (37 : Int32))), .unset] [])) _
        refine XS.iconst XZ.here hx rfl (hb hby at_283) ?_
        show Steps p.tables e below (T187.setTop (mkF m 284 #[.val (.int p1), .val (.ref b2), .val (.int ((p1 &&& (2147483647 : Int32)) % (37 : Int32))), .unset] [(.int (0 : Int32))])) _
        refine XS.istoreN XZ.here hx rfl (hb hby at_284) rfl (l' := #[.val (.int p1), .val (.ref b2), .val (.int ((p1 &&& (2147483647 : Int32)) % (37 : Int32))), .val (.int (0 : Int32))]) rfl ?_
        show Steps p.tables e below (T187.setTop (mkF m 285 #[.val (.int p1), .val (.ref b2), .val (.int ((p1 &&& (2147483647 : Int32)) % (37 : Int32))), .val (.int (0 : Int32))] [])) _
        refine XS.aloadN XZ.here hx rfl (hb hby at_285) rfl rfl ?_
        show Steps p.tables e below (T187.setTop (mkF m 286 #[.val (.int p1), .val (.ref b2), .val (.int ((p1 &&& (2147483647 : Int32)) % (37 : Int32))), .val (.int (0 : Int32))] [(.ref b2)])) _
        refine XS.iloadN XZ.here hx rfl (hb hby at_286) rfl ?_
        show Steps p.tables e below (T187.setTop (mkF m 287 #[.val (.int p1), .val (.ref b2), .val (.int ((p1 &&& (2147483647 : Int32)) % (37 : Int32))), .val (.int (0 : Int32))] [(.int ((p1 &&& (2147483647 : Int32)) % (37 : Int32))), (.ref b2)])) _
        exact kt)
      have Vx200 := V187
      obtain ⟨cl200, Ar200, q200, S200, M200, H200, G200⟩ := Vx200
      have hin200 : ¬ (((p1 &&& (2147483647 : Int32)) % (37 : Int32)) < 0 ∨ cl200.slots.size ≤ (((p1 &&& (2147483647 : Int32)) % (37 : Int32))).toNatClampNeg) := inb_of S200 ⟨hp1, hp2⟩
      have hat200 : cl200.slots[(((p1 &&& (2147483647 : Int32)) % (37 : Int32))).toNatClampNeg]? = some (.ref oo) := H200.at hin200 hoo
      have cn201 := fun (t : State) (kt : Steps p.tables e below (T187.setTop (mkF m 288 #[.val (.int p1), .val (.ref b2), .val (.int ((p1 &&& (2147483647 : Int32)) % (37 : Int32))), .val (.int (0 : Int32))] [(.ref oo)])) t) => cn199 t (by
        refine XZ.aaload hx (j := ((p1 &&& (2147483647 : Int32)) % (37 : Int32))) (v := (.ref oo)) (by rw [e187]; exact Ar200.1) (State.isArrayOf_alike hZ.alike Ar200.2.1) rfl Ar200.2.2 hin200 hat200 (g := (mkF m 287 #[.val (.int p1), .val (.ref b2), .val (.int ((p1 &&& (2147483647 : Int32)) % (37 : Int32))), .val (.int (0 : Int32))] [(.int ((p1 &&& (2147483647 : Int32)) % (37 : Int32))), (.ref b2)])) rfl rfl (hb hby at_287) _ ?_
        show Steps p.tables e below (T187.setTop (mkF m 288 #[.val (.int p1), .val (.ref b2), .val (.int ((p1 &&& (2147483647 : Int32)) % (37 : Int32))), .val (.int (0 : Int32))] [(.ref oo)])) _
        exact kt)
      obtain ⟨cq202, kq202, q202a, q202b, q202c⟩ := isOf hZ e187 (Eoo.ext O187.2)
      obtain ⟨_, _, ⟨T202, L202, k202, n202⟩, -, X202, ⟨Lc202, hQ202, l202, y202, z202⟩, st202⟩ := XZ.virtualBack hx (y := (⟨"com/example/idlsmith/idlsmith/idl/Builtin", "isFloatingPoint", "()Z"⟩ : MethodName)) (z := (⟨"com/example/idlsmith/idlsmith/idl/Builtin", "isFloatingPoint", "()Z"⟩ : MethodName)) hown (mvT hZ (hw _ (List.mem_of_getElem? (i := 79) rfl))) (mvT hZ (hw _ (List.mem_of_getElem? (i := 80) rfl))) (notFace_of_selects (args := #[]) (mvT hZ (hw _ (List.mem_of_getElem? (i := 82) rfl)))) (mvT hZ (hw _ (List.mem_of_getElem? (i := 82) rfl))) (mvT hZ (hw _ (List.mem_of_getElem? (i := 81) rfl))) (by decide) (backOf (W := 0) (rm1 l Z a0 hw [] oo aFLOAT aUNRESTRICTED_FLOAT aDOUBLE aUNRESTRICTED_DOUBLE h187 n0 O187 (S_FLOAT.ext O187.2) (S_UNRESTRICTED_FLOAT.ext O187.2) (S_DOUBLE.ext O187.2) (S_UNRESTRICTED_DOUBLE.ext O187.2)) hZ (hw _ (List.mem_of_getElem? (i := 83) rfl)) (hw _ (List.mem_of_getElem? (i := 3) rfl)) (by decide) (by decide)) q202a q202c (g := (mkF m 288 #[.val (.int p1), .val (.ref b2), .val (.int ((p1 &&& (2147483647 : Int32)) % (37 : Int32))), .val (.int (0 : Int32))] [(.ref oo)])) rfl (by rw [hml]; rfl) (Steps.refl _) (argsL := []) (rest := []) (lenOf pd_0 rfl) rfl (by show 2 * 0 + _ ≤ _; exact Nat.le_of_eq rfl) (hb hby at_288) (fun _ _ => ⟨rfl, e187, (by decide : 1 + 0 ≤ _), (by decide : 37 + 0 ≤ _)⟩)
      dsimp only [Pt.U, Pt.locs, Pt.cells, Pt.slots] at X202 l202 y202 z202 st202 hQ202
      subst l202 y202 z202
      obtain ⟨rfl, Nq202, eh202⟩ := hQ202
      have N202 := Fr.app NZ Nq202
      have cn203 := fun (t : State) (kt : Steps p.tables e below (T202.setTop (mkF m 292 #[.val (.int p1), .val (.ref b2), .val (.int ((p1 &&& (2147483647 : Int32)) % (37 : Int32))), .val (.int (0 : Int32))] [(.int (0 : Int32)), (.int (own_fp oo aFLOAT aUNRESTRICTED_FLOAT aDOUBLE aUNRESTRICTED_DOUBLE))])) t) => cn201 t (by
        refine st202.trans ?_
        show Steps p.tables e below (T202.setTop (mkF m 291 #[.val (.int p1), .val (.ref b2), .val (.int ((p1 &&& (2147483647 : Int32)) % (37 : Int32))), .val (.int (0 : Int32))] [(.int (own_fp oo aFLOAT aUNRESTRICTED_FLOAT aDOUBLE aUNRESTRICTED_DOUBLE))])) _
        refine XS.iloadN X202.here hx rfl (hb hby at_291) rfl ?_
        show Steps p.tables e below (T202.setTop (mkF m 292 #[.val (.int p1), .val (.ref b2), .val (.int ((p1 &&& (2147483647 : Int32)) % (37 : Int32))), .val (.int (0 : Int32))] [(.int (0 : Int32)), (.int (own_fp oo aFLOAT aUNRESTRICTED_FLOAT aDOUBLE aUNRESTRICTED_DOUBLE))])) _
        exact kt)
      have cn204 := fun (t : State) (kt : Steps p.tables e below (T202.setTop (mkF m 300 #[.val (.int p1), .val (.ref b2), .val (.int ((p1 &&& (2147483647 : Int32)) % (37 : Int32))), .val (.int (0 : Int32))] [(.int (1 : Int32))])) t) => cn203 t (by
        refine XS.icmpNo X202.here hx rfl (hb hby at_292) rfl (teq (ho3 hc276_198)).2 ?_
        show Steps p.tables e below (T202.setTop (mkF m 295 #[.val (.int p1), .val (.ref b2), .val (.int ((p1 &&& (2147483647 : Int32)) % (37 : Int32))), .val (.int (0 : Int32))] [])) _
        refine XS.iconst X202.here hx rfl (hb hby at_295) ?_
        show Steps p.tables e below (T202.setTop (mkF m 296 #[.val (.int p1), .val (.ref b2), .val (.int ((p1 &&& (2147483647 : Int32)) % (37 : Int32))), .val (.int (0 : Int32))] [(.int (1 : Int32))])) _
        refine XS.goto X202.here hx rfl (pc0 := 296) (pc' := 300) rfl (hb hby at_296) (by decide) (by decide) ?_
        show Steps p.tables e below (T202.setTop (mkF m 300 #[.val (.int p1), .val (.ref b2), .val (.int ((p1 &&& (2147483647 : Int32)) % (37 : Int32))), .val (.int (0 : Int32))] [(.int (1 : Int32))])) _
        exact kt)
      obtain ⟨frs, hr, hrun, hended, hW, hsame⟩ := X202.leave (v := some (.int (1 : Int32))) (fun h => by rw [Bd.returns] at h; cases h)
      refine ⟨_, _, cn204 _ ?_, hrun, hended, _, _, rfl, ?_, ⟨_, rfl⟩, hW, hsame.mono (by decide) (by decide)⟩
      · exact retN X202 hx (t := .boolean) Bd.returns (by simp) (hb hby at_300) hr
      · show Q0 n0 _ T202.heap _
        rw [eh202]
        exact ⟨rfl, N202⟩
    · have cn205 := fun (t : State) (kt : Steps p.tables e below (T187.setTop (mkF m 287 #[.val (.int p1), .val (.ref b2), .val (.int ((p1 &&& (2147483647 : Int32)) % (37 : Int32))), .val (.int (1 : Int32))] [(.int ((p1 &&& (2147483647 : Int32)) % (37 : Int32))), (.ref b2)])) t) => cn197 t (by
        refine XS.icmpNo XZ.here hx rfl (hb hby at_276) rfl (flt hc276_198).2.2.1 ?_
        show Steps p.tables e below (T187.setTop (mkF m 279 #[.val (.int p1), .val (.ref b2), .val (.int ((p1 &&& (2147483647 : Int32)) % (37 : Int32))), .unset] [])) _
        refine XS.iconst XZ.here hx rfl (hb hby at_279) ?_
        show Steps p.tables e below (T187.setTop (mkF m 280 #[.val (.int p1), .val (.ref b2), .val (.int ((p1 &&& (2147483647 : Int32)) % (37 : Int32))), .unset] [(.int (1 : Int32))])) _
        refine XS.goto XZ.here hx rfl (pc0 := 280) (pc' := 284) rfl (hb hby at_280) (by decide) (by decide) ?_
        show Steps p.tables e below (T187.setTop (mkF m 284 #[.val (.int p1), .val (.ref b2), .val (.int ((p1 &&& (2147483647 : Int32)) % (37 : Int32))), .unset] [(.int (1 : Int32))])) _
        refine XS.istoreN XZ.here hx rfl (hb hby at_284) rfl (l' := #[.val (.int p1), .val (.ref b2), .val (.int ((p1 &&& (2147483647 : Int32)) % (37 : Int32))), .val (.int (1 : Int32))]) rfl ?_
        show Steps p.tables e below (T187.setTop (mkF m 285 #[.val (.int p1), .val (.ref b2), .val (.int ((p1 &&& (2147483647 : Int32)) % (37 : Int32))), .val (.int (1 : Int32))] [])) _
        refine XS.aloadN XZ.here hx rfl (hb hby at_285) rfl rfl ?_
        show Steps p.tables e below (T187.setTop (mkF m 286 #[.val (.int p1), .val (.ref b2), .val (.int ((p1 &&& (2147483647 : Int32)) % (37 : Int32))), .val (.int (1 : Int32))] [(.ref b2)])) _
        refine XS.iloadN XZ.here hx rfl (hb hby at_286) rfl ?_
        show Steps p.tables e below (T187.setTop (mkF m 287 #[.val (.int p1), .val (.ref b2), .val (.int ((p1 &&& (2147483647 : Int32)) % (37 : Int32))), .val (.int (1 : Int32))] [(.int ((p1 &&& (2147483647 : Int32)) % (37 : Int32))), (.ref b2)])) _
        exact kt)
      have Vx206 := V187
      obtain ⟨cl206, Ar206, q206, S206, M206, H206, G206⟩ := Vx206
      have hin206 : ¬ (((p1 &&& (2147483647 : Int32)) % (37 : Int32)) < 0 ∨ cl206.slots.size ≤ (((p1 &&& (2147483647 : Int32)) % (37 : Int32))).toNatClampNeg) := inb_of S206 ⟨hp1, hp2⟩
      have hat206 : cl206.slots[(((p1 &&& (2147483647 : Int32)) % (37 : Int32))).toNatClampNeg]? = some (.ref oo) := H206.at hin206 hoo
      have cn207 := fun (t : State) (kt : Steps p.tables e below (T187.setTop (mkF m 288 #[.val (.int p1), .val (.ref b2), .val (.int ((p1 &&& (2147483647 : Int32)) % (37 : Int32))), .val (.int (1 : Int32))] [(.ref oo)])) t) => cn205 t (by
        refine XZ.aaload hx (j := ((p1 &&& (2147483647 : Int32)) % (37 : Int32))) (v := (.ref oo)) (by rw [e187]; exact Ar206.1) (State.isArrayOf_alike hZ.alike Ar206.2.1) rfl Ar206.2.2 hin206 hat206 (g := (mkF m 287 #[.val (.int p1), .val (.ref b2), .val (.int ((p1 &&& (2147483647 : Int32)) % (37 : Int32))), .val (.int (1 : Int32))] [(.int ((p1 &&& (2147483647 : Int32)) % (37 : Int32))), (.ref b2)])) rfl rfl (hb hby at_287) _ ?_
        show Steps p.tables e below (T187.setTop (mkF m 288 #[.val (.int p1), .val (.ref b2), .val (.int ((p1 &&& (2147483647 : Int32)) % (37 : Int32))), .val (.int (1 : Int32))] [(.ref oo)])) _
        exact kt)
      obtain ⟨cq208, kq208, q208a, q208b, q208c⟩ := isOf hZ e187 (Eoo.ext O187.2)
      obtain ⟨_, _, ⟨T208, L208, k208, n208⟩, -, X208, ⟨Lc208, hQ208, l208, y208, z208⟩, st208⟩ := XZ.virtualBack hx (y := (⟨"com/example/idlsmith/idlsmith/idl/Builtin", "isFloatingPoint", "()Z"⟩ : MethodName)) (z := (⟨"com/example/idlsmith/idlsmith/idl/Builtin", "isFloatingPoint", "()Z"⟩ : MethodName)) hown (mvT hZ (hw _ (List.mem_of_getElem? (i := 79) rfl))) (mvT hZ (hw _ (List.mem_of_getElem? (i := 80) rfl))) (notFace_of_selects (args := #[]) (mvT hZ (hw _ (List.mem_of_getElem? (i := 82) rfl)))) (mvT hZ (hw _ (List.mem_of_getElem? (i := 82) rfl))) (mvT hZ (hw _ (List.mem_of_getElem? (i := 81) rfl))) (by decide) (backOf (W := 0) (rm1 l Z a0 hw [] oo aFLOAT aUNRESTRICTED_FLOAT aDOUBLE aUNRESTRICTED_DOUBLE h187 n0 O187 (S_FLOAT.ext O187.2) (S_UNRESTRICTED_FLOAT.ext O187.2) (S_DOUBLE.ext O187.2) (S_UNRESTRICTED_DOUBLE.ext O187.2)) hZ (hw _ (List.mem_of_getElem? (i := 83) rfl)) (hw _ (List.mem_of_getElem? (i := 3) rfl)) (by decide) (by decide)) q208a q208c (g := (mkF m 288 #[.val (.int p1), .val (.ref b2), .val (.int ((p1 &&& (2147483647 : Int32)) % (37 : Int32))), .val (.int (1 : Int32))] [(.ref oo)])) rfl (by rw [hml]; rfl) (Steps.refl _) (argsL := []) (rest := []) (lenOf pd_0 rfl) rfl (by show 2 * 0 + _ ≤ _; exact Nat.le_of_eq rfl) (hb hby at_288) (fun _ _ => ⟨rfl, e187, (by decide : 1 + 0 ≤ _), (by decide : 37 + 0 ≤ _)⟩)
      dsimp only [Pt.U, Pt.locs, Pt.cells, Pt.slots] at X208 l208 y208 z208 st208 hQ208
      subst l208 y208 z208
      obtain ⟨rfl, Nq208, eh208⟩ := hQ208
      have N208 := Fr.app NZ Nq208
      have cn209 := fun (t : State) (kt : Steps p.tables e below (T208.setTop (mkF m 292 #[.val (.int p1), .val (.ref b2), .val (.int ((p1 &&& (2147483647 : Int32)) % (37 : Int32))), .val (.int (1 : Int32))] [(.int (1 : Int32)), (.int (own_fp oo aFLOAT aUNRESTRICTED_FLOAT aDOUBLE aUNRESTRICTED_DOUBLE))])) t) => cn207 t (by
        refine st208.trans ?_
        show Steps p.tables e below (T208.setTop (mkF m 291 #[.val (.int p1), .val (.ref b2), .val (.int ((p1 &&& (2147483647 : Int32)) % (37 : Int32))), .val (.int (1 : Int32))] [(.int (own_fp oo aFLOAT aUNRESTRICTED_FLOAT aDOUBLE aUNRESTRICTED_DOUBLE))])) _
        refine XS.iloadN X208.here hx rfl (hb hby at_291) rfl ?_
        show Steps p.tables e below (T208.setTop (mkF m 292 #[.val (.int p1), .val (.ref b2), .val (.int ((p1 &&& (2147483647 : Int32)) % (37 : Int32))), .val (.int (1 : Int32))] [(.int (1 : Int32)), (.int (own_fp oo aFLOAT aUNRESTRICTED_FLOAT aDOUBLE aUNRESTRICTED_DOUBLE))])) _
        exact kt)
      have cn210 := fun (t : State) (kt : Steps p.tables e below (T208.setTop (mkF m 300 #[.val (.int p1), .val (.ref b2), .val (.int ((p1 &&& (2147483647 : Int32)) % (37 : Int32))), .val (.int (1 : Int32))] [(.int (1 : Int32))])) t) => cn209 t (by
        refine XS.icmpNo X208.here hx rfl (hb hby at_292) rfl (teq (ho2 hc270_190 hc276_198)).2 ?_
        show Steps p.tables e below (T208.setTop (mkF m 295 #[.val (.int p1), .val (.ref b2), .val (.int ((p1 &&& (2147483647 : Int32)) % (37 : Int32))), .val (.int (1 : Int32))] [])) _
        refine XS.iconst X208.here hx rfl (hb hby at_295) ?_
        show Steps p.tables e below (T208.setTop (mkF m 296 #[.val (.int p1), .val (.ref b2), .val (.int ((p1 &&& (2147483647 : Int32)) % (37 : Int32))), .val (.int (1 : Int32))] [(.int (1 : Int32))])) _
        refine XS.goto X208.here hx rfl (pc0 := 296) (pc' := 300) rfl (hb hby at_296) (by decide) (by decide) ?_
        show Steps p.tables e below (T208.setTop (mkF m 300 #[.val (.int p1), .val (.ref b2), .val (.int ((p1 &&& (2147483647 : Int32)) % (37 : Int32))), .val (.int (1 : Int32))] [(.int (1 : Int32))])) _
        exact kt)
      obtain ⟨frs, hr, hrun, hended, hW, hsame⟩ := X208.leave (v := some (.int (1 : Int32))) (fun h => by rw [Bd.returns] at h; cases h)
      refine ⟨_, _, cn210 _ ?_, hrun, hended, _, _, rfl, ?_, ⟨_, rfl⟩, hW, hsame.mono (by decide) (by decide)⟩
      · exact retN X208 hx (t := .boolean) Bd.returns (by simp) (hb hby at_300) hr
      · show Q0 n0 _ T208.heap _
        rw [eh208]
        exact ⟨rfl, N208⟩

set_option maxRecDepth 65536 in
set_option maxHeartbeats 40000000 in
theorem comes_1 {Post : Tables → Env → Array Value → State → Outcome → State → Prop} (hpost : ∀ tb e args s v u, (limb_1_1.after args s (.returned v) u = true ∧ limb_1_2.after args s (.returned v) u = true ∧ True) → FrameEnd s (.returned v) u (Jvm.fieldLocs frame_1_writes args s ++ Jvm.arrayLocs frame_1_arrays args s ++ Jvm.staticLocs frame_1_statics s) 16 192 → Post tb e args s (.returned v) u) :
    ArmFor flags0 classFile x code maxLocals ret World_1 tables_1 room_1 Calls_1 rest_1 Pre_1 Post := by
  intro l hfl _ _ p e ha hc hk s m args below hf hA hF happ hP
  obtain ⟨hcalls, hrest, hpre⟩ := hP
  obtain ⟨-, -, -, hnamed, -, -, -, hat⟩ := (Spec.applies_iff hf).mp happ
  obtain ⟨hg, hn⟩ := and_e (Cond.before_iff.mp (show (Jvm.Cond.and given_1 narrow_1).before args s = true from hpre))
  obtain ⟨q1, q2⟩ := and_e hg
  obtain ⟨q3, q4⟩ := and_e hn
  obtain ⟨q5, q6⟩ := and_e q4
  obtain ⟨q7, q8⟩ := and_e q6
  obtain ⟨q9, q10⟩ := and_e q8
  obtain ⟨q11, q12⟩ := and_e q10
  obtain ⟨q13, q14⟩ := and_e q12
  obtain ⟨q15, q16⟩ := and_e q14
  obtain ⟨q17, q18⟩ := and_e q16
  obtain ⟨q19, q20⟩ := and_e q18
  obtain ⟨q21, q22⟩ := and_e q20
  obtain ⟨q23, q24⟩ := and_e q22
  obtain ⟨q25, q26⟩ := and_e q24
  obtain ⟨q27, q28⟩ := and_e q26
  obtain ⟨q29, q30⟩ := and_e q28
  obtain ⟨q31, q32⟩ := and_e q30
  obtain ⟨q33, q34⟩ := and_e q32
  obtain ⟨q35, q36⟩ := and_e q34
  obtain ⟨q37, q38⟩ := and_e q36
  obtain ⟨q39, q40⟩ := and_e q38
  obtain ⟨q41, q42⟩ := and_e q40
  obtain ⟨q43, q44⟩ := and_e q42
  obtain ⟨q45, q46⟩ := and_e q44
  obtain ⟨q47, q48⟩ := and_e q46
  obtain ⟨q49, q50⟩ := and_e q48
  obtain ⟨q51, q52⟩ := and_e q50
  obtain ⟨q53, q54⟩ := and_e q52
  obtain ⟨q55, q56⟩ := and_e q54
  obtain ⟨q57, q58⟩ := and_e q56
  obtain ⟨q59, q60⟩ := and_e q58
  obtain ⟨q61, q62⟩ := and_e q60
  obtain ⟨q63, q64⟩ := and_e q62
  obtain ⟨q65, q66⟩ := and_e q64
  obtain ⟨q67, q68⟩ := and_e q66
  obtain ⟨q69, q70⟩ := and_e q68
  obtain ⟨q71, q72⟩ := and_e q70
  obtain ⟨q73, q74⟩ := and_e q72
  obtain ⟨q75, q76⟩ := and_e q74
  obtain ⟨q77, q78⟩ := and_e q76
  obtain ⟨q79, q80⟩ := and_e q78
  obtain ⟨q81, q82⟩ := and_e q80
  obtain ⟨q83, q84⟩ := and_e q82
  obtain ⟨q85, q86⟩ := and_e q84
  obtain ⟨q87, q88⟩ := and_e q86
  obtain ⟨q89, q90⟩ := and_e q88
  obtain ⟨q91, q92⟩ := and_e q90
  obtain ⟨q93, q94⟩ := and_e q92
  obtain ⟨q95, q96⟩ := and_e q94
  obtain ⟨q97, q98⟩ := and_e q96
  obtain ⟨q99, q100⟩ := and_e q98
  obtain ⟨q101, q102⟩ := and_e q100
  obtain ⟨q103, q104⟩ := and_e q102
  obtain ⟨q105, q106⟩ := and_e q104
  obtain ⟨q107, q108⟩ := and_e q106
  obtain ⟨q109, q110⟩ := and_e q108
  obtain ⟨q111, q112⟩ := and_e q110
  obtain ⟨q113, q114⟩ := and_e q112
  obtain ⟨q115, q116⟩ := and_e q114
  obtain ⟨q117, q118⟩ := and_e q116
  obtain ⟨q119, q120⟩ := and_e q118
  obtain ⟨q121, q122⟩ := and_e q120
  obtain ⟨q123, q124⟩ := and_e q122
  obtain ⟨q125, q126⟩ := and_e q124
  obtain ⟨q127, q128⟩ := and_e q126
  obtain ⟨q129, q130⟩ := and_e q128
  obtain ⟨q131, q132⟩ := and_e q130
  obtain ⟨q133, q134⟩ := and_e q132
  obtain ⟨q135, q136⟩ := and_e q134
  obtain ⟨q137, q138⟩ := and_e q136
  obtain ⟨q139, q140⟩ := and_e q138
  obtain ⟨q141, q142⟩ := and_e q140
  obtain ⟨q143, q144⟩ := and_e q142
  obtain ⟨q145, q146⟩ := and_e q144
  obtain ⟨q147, q148⟩ := and_e q146
  obtain ⟨w0, rfl⟩ : ∃ w0 : Value, args = #[w0] := by
    have hs : args.size = 1 := by simpa [Cond.value, given_1] using q1
    obtain ⟨L⟩ := args
    match L, hs with
    | [w0], _ => exact ⟨w0, rfl⟩
  have hw := fun d (hd : d ∈ tables_1) => atoms_spec (ws := Jvm.Cond.code x code maxLocals ret :: tables_1) hat d (List.mem_cons_of_mem _ hd)
  have hfit : Fit s := fun {y c} hc i hi => by
    obtain ⟨ha, rfl⟩ := Array.getElem?_eq_some_iff.mp hc
    have q := List.all_eq_true.mp ((Array.all_eq_true_iff_forall_mem.mp hF) _ (Array.getElem_mem ha)) i (List.mem_range.mpr hi)
    simpa [Array.getElem?_eq_getElem hi] using q
  obtain ⟨i0, ei0⟩ := is_v q2
  obtain rfl : w0 = (.int i0) := Option.some.inj ei0
  obtain ⟨aBOOLEAN, ev_BOOLEAN⟩ := exa_v q3
  have S_BOOLEAN := Sta.start ev_BOOLEAN (Or.inr ⟨(hw _ (List.mem_of_getElem? (i := 3) rfl)), (hw _ (List.mem_of_getElem? (i := 4) rfl))⟩)
  have E_BOOLEAN := Exa.start ev_BOOLEAN q3
  have F_BOOLEAN_ordinal := Fld.start (own_eqfld q77 ev_BOOLEAN)
  obtain ⟨aBYTE, ev_BYTE⟩ := exa_v q5
  have S_BYTE := Sta.start ev_BYTE (Or.inr ⟨(hw _ (List.mem_of_getElem? (i := 3) rfl)), (hw _ (List.mem_of_getElem? (i := 7) rfl))⟩)
  have E_BYTE := Exa.start ev_BYTE q5
  have F_BYTE_ordinal := Fld.start (own_eqfld q101 ev_BYTE)
  obtain ⟨aOCTET, ev_OCTET⟩ := exa_v q7
  have S_OCTET := Sta.start ev_OCTET (Or.inr ⟨(hw _ (List.mem_of_getElem? (i := 3) rfl)), (hw _ (List.mem_of_getElem? (i := 9) rfl))⟩)
  have E_OCTET := Exa.start ev_OCTET q7
  have F_OCTET_ordinal := Fld.start (own_eqfld q97 ev_OCTET)
  obtain ⟨aSHORT, ev_SHORT⟩ := exa_v q9
  have S_SHORT := Sta.start ev_SHORT (Or.inr ⟨(hw _ (List.mem_of_getElem? (i := 3) rfl)), (hw _ (List.mem_of_getElem? (i := 11) rfl))⟩)
  have E_SHORT := Exa.start ev_SHORT q9
  have F_SHORT_ordinal := Fld.start (own_eqfld q87 ev_SHORT)
  obtain ⟨aUNSIGNED_SHORT, ev_UNSIGNED_SHORT⟩ := exa_v q11
  have S_UNSIGNED_SHORT := Sta.start ev_UNSIGNED_SHORT (Or.inr ⟨(hw _ (List.mem_of_getElem? (i := 3) rfl)), (hw _ (List.mem_of_getElem? (i := 13) rfl))⟩)
  have E_UNSIGNED_SHORT := Exa.start ev_UNSIGNED_SHORT q11
  have F_UNSIGNED_SHORT_ordinal := Fld.start (own_eqfld q103 ev_UNSIGNED_SHORT)
  obtain ⟨aLONG, ev_LONG⟩ := exa_v q13
  have S_LONG := Sta.start ev_LONG (Or.inr ⟨(hw _ (List.mem_of_getElem? (i := 3) rfl)), (hw _ (List.mem_of_getElem? (i := 15) rfl))⟩)
  have E_LONG := Exa.start ev_LONG q13
  have F_LONG_ordinal := Fld.start (own_eqfld q93 ev_LONG)
  obtain ⟨aUNSIGNED_LONG, ev_UNSIGNED_LONG⟩ := exa_v q15
  have S_UNSIGNED_LONG := Sta.start ev_UNSIGNED_LONG (Or.inr ⟨(hw _ (List.mem_of_getElem? (i := 3) rfl)), (hw _ (List.mem_of_getElem? (i := 17) rfl))⟩)
  have E_UNSIGNED_LONG := Exa.start ev_UNSIGNED_LONG q15
  have F_UNSIGNED_LONG_ordinal := Fld.start (own_eqfld q131 ev_UNSIGNED_LONG)
  obtain ⟨aLONG_LONG, ev_LONG_LONG⟩ := exa_v q17
  have S_LONG_LONG := Sta.start ev_LONG_LONG (Or.inr ⟨(hw _ (List.mem_of_getElem? (i := 3) rfl)), (hw _ (List.mem_of_getElem? (i := 19) rfl))⟩)
  have E_LONG_LONG := Exa.start ev_LONG_LONG q17
  have F_LONG_LONG_ordinal := Fld.start (own_eqfld q95 ev_LONG_LONG)
  obtain ⟨aUNSIGNED_LONG_LONG, ev_UNSIGNED_LONG_LONG⟩ := exa_v q19
  have S_UNSIGNED_LONG_LONG := Sta.start ev_UNSIGNED_LONG_LONG (Or.inr ⟨(hw _ (List.mem_of_getElem? (i := 3) rfl)), (hw _ (List.mem_of_getElem? (i := 21) rfl))⟩)
  have E_UNSIGNED_LONG_LONG := Exa.start ev_UNSIGNED_LONG_LONG q19
  have F_UNSIGNED_LONG_LONG_ordinal := Fld.start (own_eqfld q99 ev_UNSIGNED_LONG_LONG)
  obtain ⟨aFLOAT, ev_FLOAT⟩ := exa_v q21
  have S_FLOAT := Sta.start ev_FLOAT (Or.inr ⟨(hw _ (List.mem_of_getElem? (i := 3) rfl)), (hw _ (List.mem_of_getElem? (i := 23) rfl))⟩)
  have E_FLOAT := Exa.start ev_FLOAT q21
  have F_FLOAT_ordinal := Fld.start (own_eqfld q79 ev_FLOAT)
  obtain ⟨aUNRESTRICTED_FLOAT, ev_UNRESTRICTED_FLOAT⟩ := exa_v q23
  have S_UNRESTRICTED_FLOAT := Sta.start ev_UNRESTRICTED_FLOAT (Or.inr ⟨(hw _ (List.mem_of_getElem? (i := 3) rfl)), (hw _ (List.mem_of_getElem? (i := 25) rfl))⟩)
  have E_UNRESTRICTED_FLOAT := Exa.start ev_UNRESTRICTED_FLOAT q23
  have F_UNRESTRICTED_FLOAT_ordinal := Fld.start (own_eqfld q81 ev_UNRESTRICTED_FLOAT)
  obtain ⟨aDOUBLE, ev_DOUBLE⟩ := exa_v q25
  have S_DOUBLE := Sta.start ev_DOUBLE (Or.inr ⟨(hw _ (List.mem_of_getElem? (i := 3) rfl)), (hw _ (List.mem_of_getElem? (i := 27) rfl))⟩)
  have E_DOUBLE := Exa.start ev_DOUBLE q25
  have F_DOUBLE_ordinal := Fld.start (own_eqfld q83 ev_DOUBLE)
  obtain ⟨aUNRESTRICTED_DOUBLE, ev_UNRESTRICTED_DOUBLE⟩ := exa_v q27
  have S_UNRESTRICTED_DOUBLE := Sta.start ev_UNRESTRICTED_DOUBLE (Or.inr ⟨(hw _ (List.mem_of_getElem? (i := 3) rfl)), (hw _ (List.mem_of_getElem? (i := 29) rfl))⟩)
  have E_UNRESTRICTED_DOUBLE := Exa.start ev_UNRESTRICTED_DOUBLE q27
  have F_UNRESTRICTED_DOUBLE_ordinal := Fld.start (own_eqfld q85 ev_UNRESTRICTED_DOUBLE)
  obtain ⟨aBIGINT, ev_BIGINT⟩ := exa_v q29
  have S_BIGINT := Sta.start ev_BIGINT (Or.inr ⟨(hw _ (List.mem_of_getElem? (i := 3) rfl)), (hw _ (List.mem_of_getElem? (i := 31) rfl))⟩)
  have E_BIGINT := Exa.start ev_BIGINT q29
  have F_BIGINT_ordinal := Fld.start (own_eqfld q127 ev_BIGINT)
  obtain ⟨aDOMSTRING, ev_DOMSTRING⟩ := exa_v q31
  have S_DOMSTRING := Sta.start ev_DOMSTRING (Or.inr ⟨(hw _ (List.mem_of_getElem? (i := 3) rfl)), (hw _ (List.mem_of_getElem? (i := 33) rfl))⟩)
  have E_DOMSTRING := Exa.start ev_DOMSTRING q31
  have F_DOMSTRING_ordinal := Fld.start (own_eqfld q105 ev_DOMSTRING)
  obtain ⟨aBYTE_STRING, ev_BYTE_STRING⟩ := exa_v q33
  have S_BYTE_STRING := Sta.start ev_BYTE_STRING (Or.inr ⟨(hw _ (List.mem_of_getElem? (i := 3) rfl)), (hw _ (List.mem_of_getElem? (i := 35) rfl))⟩)
  have E_BYTE_STRING := Exa.start ev_BYTE_STRING q33
  have F_BYTE_STRING_ordinal := Fld.start (own_eqfld q119 ev_BYTE_STRING)
  obtain ⟨aUSV_STRING, ev_USV_STRING⟩ := exa_v q35
  have S_USV_STRING := Sta.start ev_USV_STRING (Or.inr ⟨(hw _ (List.mem_of_getElem? (i := 3) rfl)), (hw _ (List.mem_of_getElem? (i := 37) rfl))⟩)
  have E_USV_STRING := Exa.start ev_USV_STRING q35
  have F_USV_STRING_ordinal := Fld.start (own_eqfld q91 ev_USV_STRING)
  obtain ⟨aOBJECT, ev_OBJECT⟩ := exa_v q37
  have S_OBJECT := Sta.start ev_OBJECT (Or.inr ⟨(hw _ (List.mem_of_getElem? (i := 3) rfl)), (hw _ (List.mem_of_getElem? (i := 39) rfl))⟩)
  have E_OBJECT := Exa.start ev_OBJECT q37
  have F_OBJECT_ordinal := Fld.start (own_eqfld q133 ev_OBJECT)
  obtain ⟨aSYMBOL, ev_SYMBOL⟩ := exa_v q39
  have S_SYMBOL := Sta.start ev_SYMBOL (Or.inr ⟨(hw _ (List.mem_of_getElem? (i := 3) rfl)), (hw _ (List.mem_of_getElem? (i := 41) rfl))⟩)
  have E_SYMBOL := Exa.start ev_SYMBOL q39
  have F_SYMBOL_ordinal := Fld.start (own_eqfld q123 ev_SYMBOL)
  obtain ⟨aANY, ev_ANY⟩ := exa_v q41
  have S_ANY := Sta.start ev_ANY (Or.inr ⟨(hw _ (List.mem_of_getElem? (i := 3) rfl)), (hw _ (List.mem_of_getElem? (i := 43) rfl))⟩)
  have E_ANY := Exa.start ev_ANY q41
  have F_ANY_ordinal := Fld.start (own_eqfld q117 ev_ANY)
  obtain ⟨aUNDEFINED, ev_UNDEFINED⟩ := exa_v q43
  have S_UNDEFINED := Sta.start ev_UNDEFINED (Or.inr ⟨(hw _ (List.mem_of_getElem? (i := 3) rfl)), (hw _ (List.mem_of_getElem? (i := 45) rfl))⟩)
  have E_UNDEFINED := Exa.start ev_UNDEFINED q43
  have F_UNDEFINED_ordinal := Fld.start (own_eqfld q143 ev_UNDEFINED)
  obtain ⟨aDATE, ev_DATE⟩ := exa_v q45
  have S_DATE := Sta.start ev_DATE (Or.inr ⟨(hw _ (List.mem_of_getElem? (i := 3) rfl)), (hw _ (List.mem_of_getElem? (i := 47) rfl))⟩)
  have E_DATE := Exa.start ev_DATE q45
  have F_DATE_ordinal := Fld.start (own_eqfld q137 ev_DATE)
  obtain ⟨aARRAY_BUFFER, ev_ARRAY_BUFFER⟩ := exa_v q47
  have S_ARRAY_BUFFER := Sta.start ev_ARRAY_BUFFER (Or.inr ⟨(hw _ (List.mem_of_getElem? (i := 3) rfl)), (hw _ (List.mem_of_getElem? (i := 49) rfl))⟩)
  have E_ARRAY_BUFFER := Exa.start ev_ARRAY_BUFFER q47
  have F_ARRAY_BUFFER_ordinal := Fld.start (own_eqfld q141 ev_ARRAY_BUFFER)
  obtain ⟨aSHARED_ARRAY_BUFFER, ev_SHARED_ARRAY_BUFFER⟩ := exa_v q49
  have S_SHARED_ARRAY_BUFFER := Sta.start ev_SHARED_ARRAY_BUFFER (Or.inr ⟨(hw _ (List.mem_of_getElem? (i := 3) rfl)), (hw _ (List.mem_of_getElem? (i := 51) rfl))⟩)
  have E_SHARED_ARRAY_BUFFER := Exa.start ev_SHARED_ARRAY_BUFFER q49
  have F_SHARED_ARRAY_BUFFER_ordinal := Fld.start (own_eqfld q129 ev_SHARED_ARRAY_BUFFER)
  obtain ⟨aDATA_VIEW, ev_DATA_VIEW⟩ := exa_v q51
  have S_DATA_VIEW := Sta.start ev_DATA_VIEW (Or.inr ⟨(hw _ (List.mem_of_getElem? (i := 3) rfl)), (hw _ (List.mem_of_getElem? (i := 53) rfl))⟩)
  have E_DATA_VIEW := Exa.start ev_DATA_VIEW q51
  have F_DATA_VIEW_ordinal := Fld.start (own_eqfld q147 ev_DATA_VIEW)
  obtain ⟨aINT8_ARRAY, ev_INT8_ARRAY⟩ := exa_v q53
  have S_INT8_ARRAY := Sta.start ev_INT8_ARRAY (Or.inr ⟨(hw _ (List.mem_of_getElem? (i := 3) rfl)), (hw _ (List.mem_of_getElem? (i := 55) rfl))⟩)
  have E_INT8_ARRAY := Exa.start ev_INT8_ARRAY q53
  have F_INT8_ARRAY_ordinal := Fld.start (own_eqfld q113 ev_INT8_ARRAY)
  obtain ⟨aINT16_ARRAY, ev_INT16_ARRAY⟩ := exa_v q55
  have S_INT16_ARRAY := Sta.start ev_INT16_ARRAY (Or.inr ⟨(hw _ (List.mem_of_getElem? (i := 3) rfl)), (hw _ (List.mem_of_getElem? (i := 57) rfl))⟩)
  have E_INT16_ARRAY := Exa.start ev_INT16_ARRAY q55
  have F_INT16_ARRAY_ordinal := Fld.start (own_eqfld q145 ev_INT16_ARRAY)
  obtain ⟨aINT32_ARRAY, ev_INT32_ARRAY⟩ := exa_v q57
  have S_INT32_ARRAY := Sta.start ev_INT32_ARRAY (Or.inr ⟨(hw _ (List.mem_of_getElem? (i := 3) rfl)), (hw _ (List.mem_of_getElem? (i := 59) rfl))⟩)
  have E_INT32_ARRAY := Exa.start ev_INT32_ARRAY q57
  have F_INT32_ARRAY_ordinal := Fld.start (own_eqfld q109 ev_INT32_ARRAY)
  obtain ⟨aUINT8_ARRAY, ev_UINT8_ARRAY⟩ := exa_v q59
  have S_UINT8_ARRAY := Sta.start ev_UINT8_ARRAY (Or.inr ⟨(hw _ (List.mem_of_getElem? (i := 3) rfl)), (hw _ (List.mem_of_getElem? (i := 61) rfl))⟩)
  have E_UINT8_ARRAY := Exa.start ev_UINT8_ARRAY q59
  have F_UINT8_ARRAY_ordinal := Fld.start (own_eqfld q121 ev_UINT8_ARRAY)
  obtain ⟨aUINT16_ARRAY, ev_UINT16_ARRAY⟩ := exa_v q61
  have S_UINT16_ARRAY := Sta.start ev_UINT16_ARRAY (Or.inr ⟨(hw _ (List.mem_of_getElem? (i := 3) rfl)), (hw _ (List.mem_of_getElem? (i := 63) rfl))⟩)
  have E_UINT16_ARRAY := Exa.start ev_UINT16_ARRAY q61
  have F_UINT16_ARRAY_ordinal := Fld.start (own_eqfld q107 ev_UINT16_ARRAY)
  obtain ⟨aUINT32_ARRAY, ev_UINT32_ARRAY⟩ := exa_v q63
  have S_UINT32_ARRAY := Sta.start ev_UINT32_ARRAY (Or.inr ⟨(hw _ (List.mem_of_getElem? (i := 3) rfl)), (hw _ (List.mem_of_getElem? (i := 65) rfl))⟩)
  have E_UINT32_ARRAY := Exa.start ev_UINT32_ARRAY q63
  have F_UINT32_ARRAY_ordinal := Fld.start (own_eqfld q135 ev_UINT32_ARRAY)
  obtain ⟨aUINT8_CLAMPED_ARRAY, ev_UINT8_CLAMPED_ARRAY⟩ := exa_v q65
  have S_UINT8_CLAMPED_ARRAY := Sta.start ev_UINT8_CLAMPED_ARRAY (Or.inr ⟨(hw _ (List.mem_of_getElem? (i := 3) rfl)), (hw _ (List.mem_of_getElem? (i := 67) rfl))⟩)
  have E_UINT8_CLAMPED_ARRAY := Exa.start ev_UINT8_CLAMPED_ARRAY q65
  have F_UINT8_CLAMPED_ARRAY_ordinal := Fld.start (own_eqfld q148 ev_UINT8_CLAMPED_ARRAY)
  obtain ⟨aBIG_INT64_ARRAY, ev_BIG_INT64_ARRAY⟩ := exa_v q67
  have S_BIG_INT64_ARRAY := Sta.start ev_BIG_INT64_ARRAY (Or.inr ⟨(hw _ (List.mem_of_getElem? (i := 3) rfl)), (hw _ (List.mem_of_getElem? (i := 69) rfl))⟩)
  have E_BIG_INT64_ARRAY := Exa.start ev_BIG_INT64_ARRAY q67
  have F_BIG_INT64_ARRAY_ordinal := Fld.start (own_eqfld q115 ev_BIG_INT64_ARRAY)
  obtain ⟨aBIG_UINT64_ARRAY, ev_BIG_UINT64_ARRAY⟩ := exa_v q69
  have S_BIG_UINT64_ARRAY := Sta.start ev_BIG_UINT64_ARRAY (Or.inr ⟨(hw _ (List.mem_of_getElem? (i := 3) rfl)), (hw _ (List.mem_of_getElem? (i := 71) rfl))⟩)
  have E_BIG_UINT64_ARRAY := Exa.start ev_BIG_UINT64_ARRAY q69
  have F_BIG_UINT64_ARRAY_ordinal := Fld.start (own_eqfld q111 ev_BIG_UINT64_ARRAY)
  obtain ⟨aFLOAT16_ARRAY, ev_FLOAT16_ARRAY⟩ := exa_v q71
  have S_FLOAT16_ARRAY := Sta.start ev_FLOAT16_ARRAY (Or.inr ⟨(hw _ (List.mem_of_getElem? (i := 3) rfl)), (hw _ (List.mem_of_getElem? (i := 73) rfl))⟩)
  have E_FLOAT16_ARRAY := Exa.start ev_FLOAT16_ARRAY q71
  have F_FLOAT16_ARRAY_ordinal := Fld.start (own_eqfld q125 ev_FLOAT16_ARRAY)
  obtain ⟨aFLOAT32_ARRAY, ev_FLOAT32_ARRAY⟩ := exa_v q73
  have S_FLOAT32_ARRAY := Sta.start ev_FLOAT32_ARRAY (Or.inr ⟨(hw _ (List.mem_of_getElem? (i := 3) rfl)), (hw _ (List.mem_of_getElem? (i := 75) rfl))⟩)
  have E_FLOAT32_ARRAY := Exa.start ev_FLOAT32_ARRAY q73
  have F_FLOAT32_ARRAY_ordinal := Fld.start (own_eqfld q139 ev_FLOAT32_ARRAY)
  obtain ⟨aFLOAT64_ARRAY, ev_FLOAT64_ARRAY⟩ := exa_v q75
  have S_FLOAT64_ARRAY := Sta.start ev_FLOAT64_ARRAY (Or.inr ⟨(hw _ (List.mem_of_getElem? (i := 3) rfl)), (hw _ (List.mem_of_getElem? (i := 77) rfl))⟩)
  have E_FLOAT64_ARRAY := Exa.start ev_FLOAT64_ARRAY q75
  have F_FLOAT64_ARRAY_ordinal := Fld.start (own_eqfld q89 ev_FLOAT64_ARRAY)
  obtain ⟨n, o, h1, h2, h3, _, L, rfl, ⟨rfl, N⟩, hq⟩ := rm0 l s _ hw tables_1 i0 aBOOLEAN aBYTE aOCTET aSHORT aUNSIGNED_SHORT aLONG aUNSIGNED_LONG aLONG_LONG aUNSIGNED_LONG_LONG aFLOAT aUNRESTRICTED_FLOAT aDOUBLE aUNRESTRICTED_DOUBLE aBIGINT aDOMSTRING aBYTE_STRING aUSV_STRING aOBJECT aSYMBOL aANY aUNDEFINED aDATE aARRAY_BUFFER aSHARED_ARRAY_BUFFER aDATA_VIEW aINT8_ARRAY aINT16_ARRAY aINT32_ARRAY aUINT8_ARRAY aUINT16_ARRAY aUINT32_ARRAY aUINT8_CLAMPED_ARRAY aBIG_INT64_ARRAY aBIG_UINT64_ARRAY aFLOAT16_ARRAY aFLOAT32_ARRAY aFLOAT64_ARRAY  s.heap s.heap.size (Old.start s) S_BOOLEAN E_BOOLEAN F_BOOLEAN_ordinal S_BYTE E_BYTE F_BYTE_ordinal S_OCTET E_OCTET F_OCTET_ordinal S_SHORT E_SHORT F_SHORT_ordinal S_UNSIGNED_SHORT E_UNSIGNED_SHORT F_UNSIGNED_SHORT_ordinal S_LONG E_LONG F_LONG_ordinal S_UNSIGNED_LONG E_UNSIGNED_LONG F_UNSIGNED_LONG_ordinal S_LONG_LONG E_LONG_LONG F_LONG_LONG_ordinal S_UNSIGNED_LONG_LONG E_UNSIGNED_LONG_LONG F_UNSIGNED_LONG_LONG_ordinal S_FLOAT E_FLOAT F_FLOAT_ordinal S_UNRESTRICTED_FLOAT E_UNRESTRICTED_FLOAT F_UNRESTRICTED_FLOAT_ordinal S_DOUBLE E_DOUBLE F_DOUBLE_ordinal S_UNRESTRICTED_DOUBLE E_UNRESTRICTED_DOUBLE F_UNRESTRICTED_DOUBLE_ordinal S_BIGINT E_BIGINT F_BIGINT_ordinal S_DOMSTRING E_DOMSTRING F_DOMSTRING_ordinal S_BYTE_STRING E_BYTE_STRING F_BYTE_STRING_ordinal S_USV_STRING E_USV_STRING F_USV_STRING_ordinal S_OBJECT E_OBJECT F_OBJECT_ordinal S_SYMBOL E_SYMBOL F_SYMBOL_ordinal S_ANY E_ANY F_ANY_ordinal S_UNDEFINED E_UNDEFINED F_UNDEFINED_ordinal S_DATE E_DATE F_DATE_ordinal S_ARRAY_BUFFER E_ARRAY_BUFFER F_ARRAY_BUFFER_ordinal S_SHARED_ARRAY_BUFFER E_SHARED_ARRAY_BUFFER F_SHARED_ARRAY_BUFFER_ordinal S_DATA_VIEW E_DATA_VIEW F_DATA_VIEW_ordinal S_INT8_ARRAY E_INT8_ARRAY F_INT8_ARRAY_ordinal S_INT16_ARRAY E_INT16_ARRAY F_INT16_ARRAY_ordinal S_INT32_ARRAY E_INT32_ARRAY F_INT32_ARRAY_ordinal S_UINT8_ARRAY E_UINT8_ARRAY F_UINT8_ARRAY_ordinal S_UINT16_ARRAY E_UINT16_ARRAY F_UINT16_ARRAY_ordinal S_UINT32_ARRAY E_UINT32_ARRAY F_UINT32_ARRAY_ordinal S_UINT8_CLAMPED_ARRAY E_UINT8_CLAMPED_ARRAY F_UINT8_CLAMPED_ARRAY_ordinal S_BIG_INT64_ARRAY E_BIG_INT64_ARRAY F_BIG_INT64_ARRAY_ordinal S_BIG_UINT64_ARRAY E_BIG_UINT64_ARRAY F_BIG_UINT64_ARRAY_ordinal S_FLOAT16_ARRAY E_FLOAT16_ARRAY F_FLOAT16_ARRAY_ordinal S_FLOAT32_ARRAY E_FLOAT32_ARRAY F_FLOAT32_ARRAY_ordinal S_FLOAT64_ARRAY E_FLOAT64_ARRAY F_FLOAT64_ARRAY_ordinal  p e ha hc hk s m _ below hf ((Spec.applies_iff_loose hf).mp happ).1 ⟨rfl, State.Warmed39.refl s, rfl⟩ trivial
  refine ⟨n, _, h1, h2, h3, hpost _ _ _ _ _ _ ⟨Cond.after_iff.mpr rfl, Cond.after_iff.mpr (eq_i res_at (Term.int_eval (1)) rfl), trivial⟩ ⟨hq.1, hq.2.1, (hq.2.2.sift fun y hy => Or.inr (N y hy)).mono (by decide) (by decide)⟩⟩
theorem main_1_1 : Claimed_1_1 := comes_1 fun _ _ _ _ _ _ h hF => ⟨h.1, hF⟩
theorem main_1_2 : Claimed_1_2 := comes_1 fun _ _ _ _ _ _ h hF => ⟨h.2.1, hF⟩

end Jvm.Pilot.@@N@@
namespace Jvm.Pilot.@@N@@
open Jvm Jvm.ClassFile Sem Op Lib Jvm.Free Jvm.Stand Jvm.Pilot.@@N@@.Jvm.D
/-! MADE BY PROGRAM (witnessworld.py) out of the Statement's table words and the real class files: 14 classes; the members and pool entries that the words name. The judged class is class 1, her method 1. -/
namespace start1
open Jvm.ClassFile
def u (s : String) : CpInfo := .utf8 (stringToUtf16 s)
/-- a pool by its gaps: so many unusable entries, then the entry; so many at the end -/
def gap : Nat → List CpInfo → List CpInfo
  | 0, r => r
  | n + 1, r => .unusable :: gap n r
def poolList (es : List (Nat × CpInfo)) (last : Nat) : List CpInfo := es.foldr (fun e r => gap e.1 (e.2 :: r)) (gap last [])
def pool (es : List (Nat × CpInfo)) (last : Nat) : Array CpInfo := ⟨poolList es last⟩
def fileOf (pool : Array CpInfo) (this : Nat) (attrs : Array Attribute := #[]) (ms : Array MethodInfo := #[]) (fl : Nat := 33) (sup : Nat := 0) (ifs : Array Nat := #[]) (fds : Array FieldInfo := #[]) : ClassFile where
  minorVersion := 0
  majorVersion := 65
  constantPool := pool
  accessFlags := fl
  thisClass := this
  superClass := sup
  interfaces := ifs
  fields := fds
  methods := ms
  attributes := attrs
def plain (name : String) (sup : Option ClassId) : Class where
  name := name
  kind := .ordinary
  loader := none
  accessFlags := 33
  super := sup
  interfaces := #[]
  cf := none
  fields := #[]
  methods := #[]
  instanceTypes := #[]
  staticTypes := #[]
  resolved := #[]
  callSites := []
  init := .initialized
  statics := none
  mirror := none

def pool0 : Array CpInfo := pool [(5, u "<init>"), (0, u "()V"), (1, .class_ 10), (1, u "java/lang/Object")] 113

def k0m0 : Method := { name := "<init>", desc := "()V", sig := { parameters := [], returnType := none }, accessFlags := 1, code := none }
/-- java/lang/Object -/
def k0 : Class := { plain "java/lang/Object" none with
  accessFlags := 33
  interfaces := #[]
  cf := some (fileOf pool0 8 #[] #[{ accessFlags := 1, nameIndex := 5, descriptorIndex := 6, attributes := #[] }] 33 0 #[] #[])
  fields := #[]
  methods := #[k0m0]
  instanceTypes := #[]
  staticTypes := #[]
  resolved := Array.replicate 124 none
  statics := none }

def pool1 : Array CpInfo := pool [(2, .class_ 4), (1, u "java/lang/Object"), (0, u "<init>"), (0, u "()V"), (0, .class_ 8), (0, u "com/example/idlsmith/idlsmith/idl/Builtin"), (0, .fieldref 7 10), (0, .nameAndType 11 12), (0, u "BOOLEAN"), (0, u "Lcom/example/idlsmith/idlsmith/idl/Builtin;"), (0, .fieldref 7 14), (0, .nameAndType 15 12), (0, u "BYTE"), (0, .fieldref 7 17), (0, .nameAndType 18 12), (0, u "OCTET"), (0, .fieldref 7 20), (0, .nameAndType 21 12), (0, u "SHORT"), (0, .fieldref 7 23), (0, .nameAndType 24 12), (0, u "UNSIGNED_SHORT"), (0, .fieldref 7 26), (0, .nameAndType 27 12), (0, u "LONG"), (0, .fieldref 7 29), (0, .nameAndType 30 12), (0, u "UNSIGNED_LONG"), (0, .fieldref 7 32), (0, .nameAndType 33 12), (0, u "LONG_LONG"), (0, .fieldref 7 35), (0, .nameAndType 36 12), (0, u "UNSIGNED_LONG_LONG"), (0, .fieldref 7 38), (0, .nameAndType 39 12), (0, u "FLOAT"), (0, .fieldref 7 41), (0, .nameAndType 42 12), (0, u "UNRESTRICTED_FLOAT"), (0, .fieldref 7 44), (0, .nameAndType 45 12), (0, u "DOUBLE"), (0, .fieldref 7 47), (0, .nameAndType 48 12), (0, u "UNRESTRICTED_DOUBLE"), (0, .fieldref 7 50), (0, .nameAndType 51 12), (0, u "BIGINT"), (0, .fieldref 7 53), (0, .nameAndType 54 12), (0, u "DOMSTRING"), (0, .fieldref 7 56), (0, .nameAndType 57 12), (0, u "BYTE_STRING"), (0, .fieldref 7 59), (0, .nameAndType 60 12), (0, u "USV_STRING"), (0, .fieldref 7 62), (0, .nameAndType 63 12), (0, u "OBJECT"), (0, .fieldref 7 65), (0, .nameAndType 66 12), (0, u "SYMBOL"), (0, .fieldref 7 68), (0, .nameAndType 69 12), (0, u "ANY"), (0, .fieldref 7 71), (0, .nameAndType 72 12), (0, u "UNDEFINED"), (0, .fieldref 7 74), (0, .nameAndType 75 12), (0, u "DATE"), (0, .fieldref 7 77), (0, .nameAndType 78 12), (0, u "ARRAY_BUFFER"), (0, .fieldref 7 80), (0, .nameAndType 81 12), (0, u "SHARED_ARRAY_BUFFER"), (0, .fieldref 7 83), (0, .nameAndType 84 12), (0, u "DATA_VIEW"), (0, .fieldref 7 86), (0, .nameAndType 87 12), (0, u "INT8_ARRAY"), (0, .fieldref 7 89), (0, .nameAndType 90 12), (0, u "INT16_ARRAY"), (0, .fieldref 7 92), (0, .nameAndType 93 12), (0, u "INT32_ARRAY"), (0, .fieldref 7 95), (0, .nameAndType 96 12), (0, u "UINT8_ARRAY"), (0, .fieldref 7 98), (0, .nameAndType 99 12), (0, u "UINT16_ARRAY"), (0, .fieldref 7 101), (0, .nameAndType 102 12), (0, u "UINT32_ARRAY"), (0, .fieldref 7 104), (0, .nameAndType 105 12), (0, u "UINT8_CLAMPED_ARRAY"), (0, .fieldref 7 107), (0, .nameAndType 108 12), (0, u "BIG_INT64_ARRAY"), (0, .fieldref 7 110), (0, .nameAndType 111 12), (0, u "BIG_UINT64_ARRAY"), (0, .fieldref 7 113), (0, .nameAndType 114 12), (0, u "FLOAT16_ARRAY"), (0, .fieldref 7 116), (0, .nameAndType 117 12), (0, u "FLOAT32_ARRAY"), (0, .fieldref 7 119), (0, .nameAndType 120 12), (0, u "FLOAT64_ARRAY"), (0, .integer 2147483647), (0, .methodref 7 123), (0, .nameAndType 124 125), (0, u "isFloatingPoint"), (0, u "()Z"), (0, .class_ 127), (0, u "com/example/idlsmith/idlsmith/idl/BuiltinIsFloatingPointPinLaw"), (2, u "law"), (0, u "(I)Z")] 5

def k1m0 : Method := { name := "<init>", desc := "()V", sig := { parameters := [], returnType := none }, accessFlags := 2, code := none }
def k1c1 : Code := { maxStack := 4, maxLocals := 4, code := code, exceptionTable := #[], attributes := #[] }
def k1m1 : Method := { name := "law", desc := "(I)Z", sig := { parameters := [.int], returnType := some .boolean }, accessFlags := 9, code := some k1c1 }
/-- com/example/idlsmith/idlsmith/idl/BuiltinIsFloatingPointPinLaw -/
def k1 : Class := { plain "com/example/idlsmith/idlsmith/idl/BuiltinIsFloatingPointPinLaw" (some 0) with
  accessFlags := 49
  interfaces := #[]
  cf := some (fileOf pool1 126 #[] #[{ accessFlags := 2, nameIndex := 5, descriptorIndex := 6, attributes := #[] }, { accessFlags := 9, nameIndex := 130, descriptorIndex := 131, attributes := #[] }] 49 2 #[] #[])
  fields := #[]
  methods := #[k1m0, k1m1]
  instanceTypes := #[]
  staticTypes := #[]
  resolved := Array.replicate 137 none
  statics := none }

def pool2 : Array CpInfo := pool [(1, .class_ 2), (0, u "java/lang/constant/Constable"), (0, .class_ 4), (0, u "java/lang/Object")] 6

/-- java/lang/constant/Constable -/
def k2 : Class := { plain "java/lang/constant/Constable" (some 0) with
  accessFlags := 1537
  interfaces := #[]
  cf := some (fileOf pool2 1 #[] #[] 1537 3 #[] #[])
  fields := #[]
  methods := #[]
  instanceTypes := #[]
  staticTypes := #[]
  resolved := Array.replicate 11 none
  statics := none }

def pool3 : Array CpInfo := pool [(1, .class_ 2), (0, u "java/lang/Comparable"), (0, .class_ 4), (0, u "java/lang/Object")] 7

/-- java/lang/Comparable -/
def k3 : Class := { plain "java/lang/Comparable" (some 0) with
  accessFlags := 1537
  interfaces := #[]
  cf := some (fileOf pool3 1 #[] #[] 1537 3 #[] #[])
  fields := #[]
  methods := #[]
  instanceTypes := #[]
  staticTypes := #[]
  resolved := Array.replicate 12 none
  statics := none }

def pool4 : Array CpInfo := pool [(1, .class_ 2), (0, u "java/io/Serializable"), (0, .class_ 4), (0, u "java/lang/Object")] 2

/-- java/io/Serializable -/
def k4 : Class := { plain "java/io/Serializable" (some 0) with
  accessFlags := 1537
  interfaces := #[]
  cf := some (fileOf pool4 1 #[] #[] 1537 3 #[] #[])
  fields := #[]
  methods := #[]
  instanceTypes := #[]
  staticTypes := #[]
  resolved := Array.replicate 7 none
  statics := none }

def pool5 : Array CpInfo := pool [(2, .class_ 4), (1, u "java/lang/Enum"), (0, u "name"), (0, u "Ljava/lang/String;"), (2, u "ordinal"), (0, u "I"), (1, .class_ 14), (1, u "java/lang/Object"), (4, u "hash"), (86, .class_ 108), (1, u "java/lang/Enum$EnumDesc"), (2, .class_ 112), (0, u "java/lang/constant/Constable"), (0, .class_ 114), (0, u "java/lang/Comparable"), (0, .class_ 116), (0, u "java/io/Serializable")] 87

/-- java/lang/Enum -/
def k5 : Class := { plain "java/lang/Enum" (some 0) with
  accessFlags := 1057
  interfaces := #[2, 3, 4]
  cf := some (fileOf pool5 2 #[.nestMembers #[106]] #[] 1057 12 #[111, 113, 115] #[{ accessFlags := 18, nameIndex := 5, descriptorIndex := 6, attributes := #[] }, { accessFlags := 18, nameIndex := 9, descriptorIndex := 10, attributes := #[] }, { accessFlags := 2, nameIndex := 19, descriptorIndex := 10, attributes := #[] }])
  fields := #[{ name := "name", type := (.object "java/lang/String"), accessFlags := 18, slot := 0, constantValue := 0 }, { name := "ordinal", type := .int, accessFlags := 18, slot := 1, constantValue := 0 }, { name := "hash", type := .int, accessFlags := 2, slot := 2, constantValue := 0 }]
  methods := #[]
  instanceTypes := #[(.object "java/lang/String"), .int, .int]
  staticTypes := #[]
  resolved := Array.replicate 204 none
  statics := none }

def pool6 : Array CpInfo := pool [(1, .class_ 2), (0, u "com/example/idlsmith/idlsmith/idl/IdlType"), (0, .class_ 4), (0, u "java/lang/Object")] 15

/-- com/example/idlsmith/idlsmith/idl/IdlType -/
def k6 : Class := { plain "com/example/idlsmith/idlsmith/idl/IdlType" (some 0) with
  accessFlags := 1537
  interfaces := #[]
  cf := some (fileOf pool6 1 #[] #[] 1537 3 #[] #[])
  fields := #[]
  methods := #[]
  instanceTypes := #[]
  staticTypes := #[]
  resolved := Array.replicate 20 none
  statics := none }

def pool7 : Array CpInfo := pool [(1, .class_ 2), (0, u "com/example/idlsmith/idlsmith/idl/Builtin"), (2, u "BOOLEAN"), (0, u "Lcom/example/idlsmith/idlsmith/idl/Builtin;"), (2, u "BYTE"), (2, u "OCTET"), (2, u "SHORT"), (2, u "UNSIGNED_SHORT"), (2, u "LONG"), (2, u "UNSIGNED_LONG"), (2, u "LONG_LONG"), (2, u "UNSIGNED_LONG_LONG"), (0, .fieldref 1 32), (0, .nameAndType 33 6), (0, u "FLOAT"), (0, .fieldref 1 35), (0, .nameAndType 36 6), (0, u "UNRESTRICTED_FLOAT"), (0, .fieldref 1 38), (0, .nameAndType 39 6), (0, u "DOUBLE"), (0, .fieldref 1 41), (0, .nameAndType 42 6), (0, u "UNRESTRICTED_DOUBLE"), (2, u "BIGINT"), (2, u "DOMSTRING"), (2, u "BYTE_STRING"), (2, u "USV_STRING"), (2, u "OBJECT"), (2, u "SYMBOL"), (2, u "ANY"), (2, u "UNDEFINED"), (2, u "DATE"), (2, u "ARRAY_BUFFER"), (2, u "SHARED_ARRAY_BUFFER"), (2, u "DATA_VIEW"), (2, u "INT8_ARRAY"), (2, u "INT16_ARRAY"), (2, u "INT32_ARRAY"), (2, u "UINT8_ARRAY"), (2, u "UINT16_ARRAY"), (2, u "UINT32_ARRAY"), (2, u "UINT8_CLAMPED_ARRAY"), (2, u "BIG_INT64_ARRAY"), (2, u "BIG_UINT64_ARRAY"), (2, u "FLOAT16_ARRAY"), (2, u "FLOAT32_ARRAY"), (2, u "FLOAT64_ARRAY"), (2, u "$VALUES"), (0, u "[Lcom/example/idlsmith/idlsmith/idl/Builtin;"), (6, .class_ 127), (1, u "java/lang/Enum"), (11, u "keywords"), (0, u "Ljava/lang/String;"), (2, u "bits"), (0, u "I"), (2, u "signed"), (0, u "Z"), (2, u "BY_KEYWORDS"), (0, u "Ljava/util/Map;"), (9, u "()Z"), (2, u "isFloatingPoint"), (164, .class_ 331), (0, u "com/example/idlsmith/idlsmith/idl/IdlType")] 35

def k7c0 : Code := { maxStack := 2, maxLocals := 1, code := prog_100_method_7_code, exceptionTable := #[], attributes := #[] }
def k7m0 : Method := { name := "isFloatingPoint", desc := "()Z", sig := { parameters := [], returnType := some .boolean }, accessFlags := 1, code := some k7c0 }
/-- com/example/idlsmith/idlsmith/idl/Builtin -/
def k7 : Class := { plain "com/example/idlsmith/idlsmith/idl/Builtin" (some 5) with
  accessFlags := 16433
  interfaces := #[6]
  cf := some (fileOf pool7 1 #[] #[{ accessFlags := 1, nameIndex := 165, descriptorIndex := 162, attributes := #[] }] 16433 125 #[330] #[{ accessFlags := 16409, nameIndex := 5, descriptorIndex := 6, attributes := #[] }, { accessFlags := 16409, nameIndex := 9, descriptorIndex := 6, attributes := #[] }, { accessFlags := 16409, nameIndex := 12, descriptorIndex := 6, attributes := #[] }, { accessFlags := 16409, nameIndex := 15, descriptorIndex := 6, attributes := #[] }, { accessFlags := 16409, nameIndex := 18, descriptorIndex := 6, attributes := #[] }, { accessFlags := 16409, nameIndex := 21, descriptorIndex := 6, attributes := #[] }, { accessFlags := 16409, nameIndex := 24, descriptorIndex := 6, attributes := #[] }, { accessFlags := 16409, nameIndex := 27, descriptorIndex := 6, attributes := #[] }, { accessFlags := 16409, nameIndex := 30, descriptorIndex := 6, attributes := #[] }, { accessFlags := 16409, nameIndex := 33, descriptorIndex := 6, attributes := #[] }, { accessFlags := 16409, nameIndex := 36, descriptorIndex := 6, attributes := #[] }, { accessFlags := 16409, nameIndex := 39, descriptorIndex := 6, attributes := #[] }, { accessFlags := 16409, nameIndex := 42, descriptorIndex := 6, attributes := #[] }, { accessFlags := 16409, nameIndex := 45, descriptorIndex := 6, attributes := #[] }, { accessFlags := 16409, nameIndex := 48, descriptorIndex := 6, attributes := #[] }, { accessFlags := 16409, nameIndex := 51, descriptorIndex := 6, attributes := #[] }, { accessFlags := 16409, nameIndex := 54, descriptorIndex := 6, attributes := #[] }, { accessFlags := 16409, nameIndex := 57, descriptorIndex := 6, attributes := #[] }, { accessFlags := 16409, nameIndex := 60, descriptorIndex := 6, attributes := #[] }, { accessFlags := 16409, nameIndex := 63, descriptorIndex := 6, attributes := #[] }, { accessFlags := 16409, nameIndex := 66, descriptorIndex := 6, attributes := #[] }, { accessFlags := 16409, nameIndex := 69, descriptorIndex := 6, attributes := #[] }, { accessFlags := 16409, nameIndex := 72, descriptorIndex := 6, attributes := #[] }, { accessFlags := 16409, nameIndex := 75, descriptorIndex := 6, attributes := #[] }, { accessFlags := 16409, nameIndex := 78, descriptorIndex := 6, attributes := #[] }, { accessFlags := 16409, nameIndex := 81, descriptorIndex := 6, attributes := #[] }, { accessFlags := 16409, nameIndex := 84, descriptorIndex := 6, attributes := #[] }, { accessFlags := 16409, nameIndex := 87, descriptorIndex := 6, attributes := #[] }, { accessFlags := 16409, nameIndex := 90, descriptorIndex := 6, attributes := #[] }, { accessFlags := 16409, nameIndex := 93, descriptorIndex := 6, attributes := #[] }, { accessFlags := 16409, nameIndex := 96, descriptorIndex := 6, attributes := #[] }, { accessFlags := 16409, nameIndex := 99, descriptorIndex := 6, attributes := #[] }, { accessFlags := 16409, nameIndex := 102, descriptorIndex := 6, attributes := #[] }, { accessFlags := 16409, nameIndex := 105, descriptorIndex := 6, attributes := #[] }, { accessFlags := 16409, nameIndex := 108, descriptorIndex := 6, attributes := #[] }, { accessFlags := 16409, nameIndex := 111, descriptorIndex := 6, attributes := #[] }, { accessFlags := 16409, nameIndex := 114, descriptorIndex := 6, attributes := #[] }, { accessFlags := 26, nameIndex := 151, descriptorIndex := 152, attributes := #[] }, { accessFlags := 18, nameIndex := 139, descriptorIndex := 140, attributes := #[] }, { accessFlags := 18, nameIndex := 143, descriptorIndex := 144, attributes := #[] }, { accessFlags := 18, nameIndex := 147, descriptorIndex := 148, attributes := #[] }, { accessFlags := 4122, nameIndex := 117, descriptorIndex := 118, attributes := #[] }])
  fields := #[{ name := "BOOLEAN", type := (.object "com/example/idlsmith/idlsmith/idl/Builtin"), accessFlags := 16409, slot := 0, constantValue := 0 }, { name := "BYTE", type := (.object "com/example/idlsmith/idlsmith/idl/Builtin"), accessFlags := 16409, slot := 1, constantValue := 0 }, { name := "OCTET", type := (.object "com/example/idlsmith/idlsmith/idl/Builtin"), accessFlags := 16409, slot := 2, constantValue := 0 }, { name := "SHORT", type := (.object "com/example/idlsmith/idlsmith/idl/Builtin"), accessFlags := 16409, slot := 3, constantValue := 0 }, { name := "UNSIGNED_SHORT", type := (.object "com/example/idlsmith/idlsmith/idl/Builtin"), accessFlags := 16409, slot := 4, constantValue := 0 }, { name := "LONG", type := (.object "com/example/idlsmith/idlsmith/idl/Builtin"), accessFlags := 16409, slot := 5, constantValue := 0 }, { name := "UNSIGNED_LONG", type := (.object "com/example/idlsmith/idlsmith/idl/Builtin"), accessFlags := 16409, slot := 6, constantValue := 0 }, { name := "LONG_LONG", type := (.object "com/example/idlsmith/idlsmith/idl/Builtin"), accessFlags := 16409, slot := 7, constantValue := 0 }, { name := "UNSIGNED_LONG_LONG", type := (.object "com/example/idlsmith/idlsmith/idl/Builtin"), accessFlags := 16409, slot := 8, constantValue := 0 }, { name := "FLOAT", type := (.object "com/example/idlsmith/idlsmith/idl/Builtin"), accessFlags := 16409, slot := 9, constantValue := 0 }, { name := "UNRESTRICTED_FLOAT", type := (.object "com/example/idlsmith/idlsmith/idl/Builtin"), accessFlags := 16409, slot := 10, constantValue := 0 }, { name := "DOUBLE", type := (.object "com/example/idlsmith/idlsmith/idl/Builtin"), accessFlags := 16409, slot := 11, constantValue := 0 }, { name := "UNRESTRICTED_DOUBLE", type := (.object "com/example/idlsmith/idlsmith/idl/Builtin"), accessFlags := 16409, slot := 12, constantValue := 0 }, { name := "BIGINT", type := (.object "com/example/idlsmith/idlsmith/idl/Builtin"), accessFlags := 16409, slot := 13, constantValue := 0 }, { name := "DOMSTRING", type := (.object "com/example/idlsmith/idlsmith/idl/Builtin"), accessFlags := 16409, slot := 14, constantValue := 0 }, { name := "BYTE_STRING", type := (.object "com/example/idlsmith/idlsmith/idl/Builtin"), accessFlags := 16409, slot := 15, constantValue := 0 }, { name := "USV_STRING", type := (.object "com/example/idlsmith/idlsmith/idl/Builtin"), accessFlags := 16409, slot := 16, constantValue := 0 }, { name := "OBJECT", type := (.object "com/example/idlsmith/idlsmith/idl/Builtin"), accessFlags := 16409, slot := 17, constantValue := 0 }, { name := "SYMBOL", type := (.object "com/example/idlsmith/idlsmith/idl/Builtin"), accessFlags := 16409, slot := 18, constantValue := 0 }, { name := "ANY", type := (.object "com/example/idlsmith/idlsmith/idl/Builtin"), accessFlags := 16409, slot := 19, constantValue := 0 }, { name := "UNDEFINED", type := (.object "com/example/idlsmith/idlsmith/idl/Builtin"), accessFlags := 16409, slot := 20, constantValue := 0 }, { name := "DATE", type := (.object "com/example/idlsmith/idlsmith/idl/Builtin"), accessFlags := 16409, slot := 21, constantValue := 0 }, { name := "ARRAY_BUFFER", type := (.object "com/example/idlsmith/idlsmith/idl/Builtin"), accessFlags := 16409, slot := 22, constantValue := 0 }, { name := "SHARED_ARRAY_BUFFER", type := (.object "com/example/idlsmith/idlsmith/idl/Builtin"), accessFlags := 16409, slot := 23, constantValue := 0 }, { name := "DATA_VIEW", type := (.object "com/example/idlsmith/idlsmith/idl/Builtin"), accessFlags := 16409, slot := 24, constantValue := 0 }, { name := "INT8_ARRAY", type := (.object "com/example/idlsmith/idlsmith/idl/Builtin"), accessFlags := 16409, slot := 25, constantValue := 0 }, { name := "INT16_ARRAY", type := (.object "com/example/idlsmith/idlsmith/idl/Builtin"), accessFlags := 16409, slot := 26, constantValue := 0 }, { name := "INT32_ARRAY", type := (.object "com/example/idlsmith/idlsmith/idl/Builtin"), accessFlags := 16409, slot := 27, constantValue := 0 }, { name := "UINT8_ARRAY", type := (.object "com/example/idlsmith/idlsmith/idl/Builtin"), accessFlags := 16409, slot := 28, constantValue := 0 }, { name := "UINT16_ARRAY", type := (.object "com/example/idlsmith/idlsmith/idl/Builtin"), accessFlags := 16409, slot := 29, constantValue := 0 }, { name := "UINT32_ARRAY", type := (.object "com/example/idlsmith/idlsmith/idl/Builtin"), accessFlags := 16409, slot := 30, constantValue := 0 }, { name := "UINT8_CLAMPED_ARRAY", type := (.object "com/example/idlsmith/idlsmith/idl/Builtin"), accessFlags := 16409, slot := 31, constantValue := 0 }, { name := "BIG_INT64_ARRAY", type := (.object "com/example/idlsmith/idlsmith/idl/Builtin"), accessFlags := 16409, slot := 32, constantValue := 0 }, { name := "BIG_UINT64_ARRAY", type := (.object "com/example/idlsmith/idlsmith/idl/Builtin"), accessFlags := 16409, slot := 33, constantValue := 0 }, { name := "FLOAT16_ARRAY", type := (.object "com/example/idlsmith/idlsmith/idl/Builtin"), accessFlags := 16409, slot := 34, constantValue := 0 }, { name := "FLOAT32_ARRAY", type := (.object "com/example/idlsmith/idlsmith/idl/Builtin"), accessFlags := 16409, slot := 35, constantValue := 0 }, { name := "FLOAT64_ARRAY", type := (.object "com/example/idlsmith/idlsmith/idl/Builtin"), accessFlags := 16409, slot := 36, constantValue := 0 }, { name := "BY_KEYWORDS", type := (.object "java/util/Map"), accessFlags := 26, slot := 37, constantValue := 0 }, { name := "keywords", type := (.object "java/lang/String"), accessFlags := 18, slot := 3, constantValue := 0 }, { name := "bits", type := .int, accessFlags := 18, slot := 4, constantValue := 0 }, { name := "signed", type := .boolean, accessFlags := 18, slot := 5, constantValue := 0 }, { name := "$VALUES", type := (.array (.object "com/example/idlsmith/idlsmith/idl/Builtin")), accessFlags := 4122, slot := 38, constantValue := 0 }]
  methods := #[k7m0]
  instanceTypes := #[(.object "java/lang/String"), .int, .int, (.object "java/lang/String"), .int, .boolean]
  staticTypes := #[(.object "com/example/idlsmith/idlsmith/idl/Builtin"), (.object "com/example/idlsmith/idlsmith/idl/Builtin"), (.object "com/example/idlsmith/idlsmith/idl/Builtin"), (.object "com/example/idlsmith/idlsmith/idl/Builtin"), (.object "com/example/idlsmith/idlsmith/idl/Builtin"), (.object "com/example/idlsmith/idlsmith/idl/Builtin"), (.object "com/example/idlsmith/idlsmith/idl/Builtin"), (.object "com/example/idlsmith/idlsmith/idl/Builtin"), (.object "com/example/idlsmith/idlsmith/idl/Builtin"), (.object "com/example/idlsmith/idlsmith/idl/Builtin"), (.object "com/example/idlsmith/idlsmith/idl/Builtin"), (.object "com/example/idlsmith/idlsmith/idl/Builtin"), (.object "com/example/idlsmith/idlsmith/idl/Builtin"), (.object "com/example/idlsmith/idlsmith/idl/Builtin"), (.object "com/example/idlsmith/idlsmith/idl/Builtin"), (.object "com/example/idlsmith/idlsmith/idl/Builtin"), (.object "com/example/idlsmith/idlsmith/idl/Builtin"), (.object "com/example/idlsmith/idlsmith/idl/Builtin"), (.object "com/example/idlsmith/idlsmith/idl/Builtin"), (.object "com/example/idlsmith/idlsmith/idl/Builtin"), (.object "com/example/idlsmith/idlsmith/idl/Builtin"), (.object "com/example/idlsmith/idlsmith/idl/Builtin"), (.object "com/example/idlsmith/idlsmith/idl/Builtin"), (.object "com/example/idlsmith/idlsmith/idl/Builtin"), (.object "com/example/idlsmith/idlsmith/idl/Builtin"), (.object "com/example/idlsmith/idlsmith/idl/Builtin"), (.object "com/example/idlsmith/idlsmith/idl/Builtin"), (.object "com/example/idlsmith/idlsmith/idl/Builtin"), (.object "com/example/idlsmith/idlsmith/idl/Builtin"), (.object "com/example/idlsmith/idlsmith/idl/Builtin"), (.object "com/example/idlsmith/idlsmith/idl/Builtin"), (.object "com/example/idlsmith/idlsmith/idl/Builtin"), (.object "com/example/idlsmith/idlsmith/idl/Builtin"), (.object "com/example/idlsmith/idlsmith/idl/Builtin"), (.object "com/example/idlsmith/idlsmith/idl/Builtin"), (.object "com/example/idlsmith/idlsmith/idl/Builtin"), (.object "com/example/idlsmith/idlsmith/idl/Builtin"), (.object "java/util/Map"), (.array (.object "com/example/idlsmith/idlsmith/idl/Builtin"))]
  resolved := Array.replicate 367 none
  statics := some 0 }

def pool8 : Array CpInfo := pool [(1, u "java/lang/Cloneable"), (0, .class_ 1), (0, u "java/lang/Object"), (0, .class_ 3)] 3

/-- java/lang/Cloneable -/
def k8 : Class := { plain "java/lang/Cloneable" (some 0) with
  accessFlags := 1537
  interfaces := #[]
  cf := some (fileOf pool8 2 #[] #[] 1537 4 #[] #[])
  fields := #[]
  methods := #[]
  instanceTypes := #[]
  staticTypes := #[]
  resolved := Array.replicate 8 none
  statics := none }

/-- the primitive byte -/
def k9 : Class := { plain "byte" none with kind := .primitive 'B', accessFlags := 0x411 }
/-- [B -/
def k10 : Class := { plain "[B" (some 0) with kind := .array 9 .byte, interfaces := #[8, 4], accessFlags := 1041 }

/-- the primitive int -/
def k11 : Class := { plain "int" none with kind := .primitive 'I', accessFlags := 0x411 }
/-- [I -/
def k12 : Class := { plain "[I" (some 0) with kind := .array 11 .int, interfaces := #[8, 4], accessFlags := 1041 }

/-- [Lcom/example/idlsmith/idlsmith/idl/Builtin; -/
def k13 : Class := { plain "[Lcom/example/idlsmith/idlsmith/idl/Builtin;" (some 0) with kind := .array 7 (.object "com/example/idlsmith/idlsmith/idl/Builtin"), interfaces := #[8, 4], accessFlags := 1041 }

def heap : Heap := #[{ cls := 7, slots := #[.ref 1, .ref 2, .ref 3, .ref 4, .ref 5, .ref 6, .ref 7, .ref 8, .ref 9, .ref 10, .ref 11, .ref 12, .ref 13, .ref 14, .ref 15, .ref 16, .ref 17, .ref 18, .ref 19, .ref 20, .ref 21, .ref 22, .ref 23, .ref 24, .ref 25, .ref 26, .ref 27, .ref 28, .ref 29, .ref 30, .ref 31, .ref 32, .ref 33, .ref 34, .ref 35, .ref 36, .ref 37, .null, .null], vm := .statics 7 },
  { cls := 7, slots := #[.null, .int 0, .int 0, .null, .int 0, .int 0], vm := .none },
  { cls := 7, slots := #[.null, .int 1, .int 0, .null, .int 0, .int 0], vm := .none },
  { cls := 7, slots := #[.null, .int 2, .int 0, .null, .int 0, .int 0], vm := .none },
  { cls := 7, slots := #[.null, .int 3, .int 0, .null, .int 0, .int 0], vm := .none },
  { cls := 7, slots := #[.null, .int 4, .int 0, .null, .int 0, .int 0], vm := .none },
  { cls := 7, slots := #[.null, .int 5, .int 0, .null, .int 0, .int 0], vm := .none },
  { cls := 7, slots := #[.null, .int 6, .int 0, .null, .int 0, .int 0], vm := .none },
  { cls := 7, slots := #[.null, .int 7, .int 0, .null, .int 0, .int 0], vm := .none },
  { cls := 7, slots := #[.null, .int 8, .int 0, .null, .int 0, .int 0], vm := .none },
  { cls := 7, slots := #[.null, .int 9, .int 0, .null, .int 0, .int 0], vm := .none },
  { cls := 7, slots := #[.null, .int 10, .int 0, .null, .int 0, .int 0], vm := .none },
  { cls := 7, slots := #[.null, .int 11, .int 0, .null, .int 0, .int 0], vm := .none },
  { cls := 7, slots := #[.null, .int 12, .int 0, .null, .int 0, .int 0], vm := .none },
  { cls := 7, slots := #[.null, .int 13, .int 0, .null, .int 0, .int 0], vm := .none },
  { cls := 7, slots := #[.null, .int 14, .int 0, .null, .int 0, .int 0], vm := .none },
  { cls := 7, slots := #[.null, .int 15, .int 0, .null, .int 0, .int 0], vm := .none },
  { cls := 7, slots := #[.null, .int 16, .int 0, .null, .int 0, .int 0], vm := .none },
  { cls := 7, slots := #[.null, .int 17, .int 0, .null, .int 0, .int 0], vm := .none },
  { cls := 7, slots := #[.null, .int 18, .int 0, .null, .int 0, .int 0], vm := .none },
  { cls := 7, slots := #[.null, .int 19, .int 0, .null, .int 0, .int 0], vm := .none },
  { cls := 7, slots := #[.null, .int 20, .int 0, .null, .int 0, .int 0], vm := .none },
  { cls := 7, slots := #[.null, .int 21, .int 0, .null, .int 0, .int 0], vm := .none },
  { cls := 7, slots := #[.null, .int 22, .int 0, .null, .int 0, .int 0], vm := .none },
  { cls := 7, slots := #[.null, .int 23, .int 0, .null, .int 0, .int 0], vm := .none },
  { cls := 7, slots := #[.null, .int 24, .int 0, .null, .int 0, .int 0], vm := .none },
  { cls := 7, slots := #[.null, .int 25, .int 0, .null, .int 0, .int 0], vm := .none },
  { cls := 7, slots := #[.null, .int 26, .int 0, .null, .int 0, .int 0], vm := .none },
  { cls := 7, slots := #[.null, .int 27, .int 0, .null, .int 0, .int 0], vm := .none },
  { cls := 7, slots := #[.null, .int 28, .int 0, .null, .int 0, .int 0], vm := .none },
  { cls := 7, slots := #[.null, .int 29, .int 0, .null, .int 0, .int 0], vm := .none },
  { cls := 7, slots := #[.null, .int 30, .int 0, .null, .int 0, .int 0], vm := .none },
  { cls := 7, slots := #[.null, .int 31, .int 0, .null, .int 0, .int 0], vm := .none },
  { cls := 7, slots := #[.null, .int 32, .int 0, .null, .int 0, .int 0], vm := .none },
  { cls := 7, slots := #[.null, .int 33, .int 0, .null, .int 0, .int 0], vm := .none },
  { cls := 7, slots := #[.null, .int 34, .int 0, .null, .int 0, .int 0], vm := .none },
  { cls := 7, slots := #[.null, .int 35, .int 0, .null, .int 0, .int 0], vm := .none },
  { cls := 7, slots := #[.null, .int 36, .int 0, .null, .int 0, .int 0], vm := .none }]
def classes : Array Class := #[k0, k1, k2, k3, k4, k5, k6, k7, k8, k9, k10, k11, k12, k13]
def interned : List (Array UInt16 × Addr) := []
def slotsUsed : Nat := 261
def theMethod : MethodId := ⟨1, 1⟩
def args0 : Array Value := #[.int 1]
def aboutOver (below : List Frame) : State where
  vm := { classes := classes, interned := interned.toArray }
  heap := heap
  slotsUsed := slotsUsed
  threads := #[{ frames := .invoking theMethod args0 :: below }]
def below0 : List Frame := [.native { method := ⟨0, 0⟩, args := #[] }]
def about1 : State := aboutOver below0
def p0 : Program := .bare "" "" ""
def e0 : Env := launch0.env 0 0 0
theorem w_frames : about1.frames = Frame.invoking theMethod args0 :: below0 := rfl
set_option maxRecDepth 65536 in
theorem w_args : argsFit about1.vm theMethod args0 = true := by decide +kernel
set_option maxRecDepth 65536 in
theorem w_heap : heapFits about1 = true := by decide +kernel
set_option maxRecDepth 65536 in
theorem w_runnable : about1.curStatus? = some .runnable := by decide +kernel
set_option maxRecDepth 65536 in
theorem w_alone : about1.alone = true := by decide +kernel
set_option maxRecDepth 65536 in
theorem w_named : about1.methodNamed? x = some theMethod := by decide +kernel
set_option maxRecDepth 65536 in
theorem w_hears : about1.hears theMethod below0 = true := by decide +kernel
set_option maxRecDepth 65536 in
theorem w_ripe : about1.ripe theMethod args0 below0 = true := by decide +kernel
theorem w_running : about1.status = .running := rfl
set_option maxRecDepth 65536 in
theorem w_room : about1.hasRoom e0.platform room_1 = true :=
  launch0.hasRoom_least _ room_1 (by decide +kernel) (by decide +kernel) (by decide +kernel) (by decide +kernel) (by decide +kernel) (by decide +kernel)
theorem allAtoms_all (ts : List Jvm.Cond) (a : Array Jvm.Value) (st : Jvm.State) : (allAtoms ts).before a st = ts.all (fun c => c.before a st) := by
  induction ts with
  | nil => rfl
  | cons c t ih =>
    show (Jvm.Cond.and c (allAtoms t)).before a st = _
    rw [Jvm.Cond.before_and, ih, List.all_cons]
def words1 : List Jvm.Cond := Jvm.Cond.code x code maxLocals ret :: tables_1
/-- a 'code' word, met by the world's own term for the bytes: nothing is compared byte by byte -/
theorem code_word {y : MethodName} {bytes : ByteArray} {mx : Nat} {rt : Option FieldType} {a : Array Value} {s : State} {m : MethodId} {meth : Method} {c : Code} (h1 : s.methodNamed? y = some m) (h2 : s.vm.method? m = some meth) (h3 : meth.code = some c) (h4 : c.code = bytes)
    (h5 : (c.maxLocals == mx && c.exceptionTable.isEmpty && decide (c.maxStack ≤ mostOperands) && decide (meth.sig.returnType = rt) && !meth.locks && decide (parseMethodDescriptor y.desc = some meth.sig)) = true) : (Jvm.Cond.code y bytes mx rt).before a s = true := by
  simp only [Bool.and_eq_true, beq_iff_eq, Bool.not_eq_true', decide_eq_true_eq] at h5
  obtain ⟨⟨⟨⟨⟨g1, g2⟩, g3⟩, g4⟩, g5⟩, g6⟩ := h5
  simp [Cond.before, Cond.holds, Cond.value, h1, h2, h3, h4, g1, g2, g3, g4, g5, g6]
def isCode : Jvm.Cond → Bool
  | .code _ _ _ _ => true
  | _ => false
theorem all_split {L : List Jvm.Cond} {P : Jvm.Cond → Bool} (h1 : L.all (fun c => isCode c || P c) = true) (h2 : ∀ c ∈ L.filter isCode, P c = true) : L.all P = true := by
  refine List.all_eq_true.mpr fun c hc => ?_
  have h := List.all_eq_true.mp h1 c hc
  rcases Bool.eq_false_or_eq_true (isCode c) with hi | hi
  · exact h2 c (List.mem_filter.mpr ⟨hc, hi⟩)
  · simpa [hi] using h
set_option maxRecDepth 65536 in
theorem w_c0 : (Jvm.Cond.code x code maxLocals ret).before args0 about1 = true := code_word (m := ⟨1, 1⟩) (meth := k1m1) (c := k1c1) (by decide +kernel) rfl rfl rfl (by decide +kernel)
set_option maxRecDepth 65536 in
theorem w_c1 : (Jvm.Cond.code ({ cls := "com/example/idlsmith/idlsmith/idl/Builtin", name := "isFloatingPoint", desc := "()Z" } : Jvm.MethodName) prog_100_method_7_code (1 : Nat) (Option.some Jvm.ClassFile.FieldType.boolean)).before args0 about1 = true := code_word (m := ⟨7, 0⟩) (meth := k7m0) (c := k7c0) (by decide +kernel) rfl rfl rfl (by decide +kernel)
def codes1 : List Jvm.Cond := [Jvm.Cond.code x code maxLocals ret, Jvm.Cond.code ({ cls := "com/example/idlsmith/idlsmith/idl/Builtin", name := "isFloatingPoint", desc := "()Z" } : Jvm.MethodName) prog_100_method_7_code (1 : Nat) (Option.some Jvm.ClassFile.FieldType.boolean)]
set_option maxRecDepth 65536 in
theorem codes_eq : words1.filter isCode = codes1 := rfl
theorem w_codes : ∀ c ∈ words1.filter isCode, c.before args0 about1 = true := by
  rw [codes_eq]
  intro c hc
  simp only [codes1, List.mem_cons, List.not_mem_nil, or_false] at hc
  rcases hc with rfl | rfl
  · exact w_c0
  · exact w_c1
set_option maxRecDepth 65536 in
theorem w_t1 : (words1.take 24).all (fun c => isCode c || c.before args0 about1) = true := by decide +kernel
set_option maxRecDepth 65536 in
theorem w_t2 : ((words1.drop 24).take 24).all (fun c => isCode c || c.before args0 about1) = true := by decide +kernel
set_option maxRecDepth 65536 in
theorem w_t3 : (((words1.drop 24).drop 24).take 24).all (fun c => isCode c || c.before args0 about1) = true := by decide +kernel
set_option maxRecDepth 65536 in
theorem w_t4 : (((words1.drop 24).drop 24).drop 24).all (fun c => isCode c || c.before args0 about1) = true := by decide +kernel
theorem w_tables : (allAtoms (Jvm.Cond.code x code maxLocals ret :: tables_1)).before args0 about1 = true := by
  rw [allAtoms_all]
  show words1.all (fun c => c.before args0 about1) = true
  refine all_split ?_ w_codes
  rw [← List.take_append_drop 24 words1, List.all_append, w_t1, ← List.take_append_drop 24 (words1.drop 24), List.all_append, w_t2, ← List.take_append_drop 24 ((words1.drop 24).drop 24), List.all_append, w_t3, w_t4]
  rfl
set_option maxRecDepth 65536 in
theorem w_case : (Jvm.Cond.and given_1 narrow_1).before args0 about1 = true := by decide +kernel
theorem w_applies : (headSpec (Jvm.Cond.code x code maxLocals ret :: tables_1) room_1).applies x e0.platform about1 = true :=
  (Spec.applies_iff w_frames).mpr ⟨w_running, w_runnable, w_alone, w_named, w_hears, w_ripe, w_room, w_tables⟩
theorem atStart : AtStart classFile x code maxLocals ret World_1 tables_1 room_1 Calls_1 rest_1 Pre_1 launch0 p0 e0 about1 theMethod args0 below0 :=
  ⟨lists_1, trivial, launch0.admits_env _ _ _, launch0.least_env, fairChoices_fair.cas, fairChoices_fair.clock, w_frames, w_args, w_heap, w_applies, trivial, trivial, w_case⟩
end start1
theorem witness_1 : WitnessClaimed_1 := ⟨start1.p0, start1.e0, start1.about1, start1.theMethod, start1.args0, start1.below0, start1.atStart⟩
end Jvm.Pilot.@@N@@
